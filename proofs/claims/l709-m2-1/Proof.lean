import JvmDerived
import JvmDerived.Pilot.@@N@@Statement
import JvmDerived.Pilot.@@N@@Code
set_option linter.unusedVariables false
set_option linter.unusedSimpArgs false
namespace Jvm.RoadKit
open Sem ClassFile Op Lib Jvm.Stand Jvm.Free Jvm.LawKit
section Own
variable {p : Program} {l : Launch} {e : Env} {R : Room} {s : State} {m : MethodId} {args : Array Value} {below : List Frame} {meth : Method} {c : Code} {T T' : State} {locs : List Loc} {cells slots : Nat} {Z : State} {a0 : Array Value} {h h' : Heap}
abbrev own_lv (x : Int64) : Slot := .val (.long x)
abbrev own_S (p : Program) (e : Env) (below : List Frame) (T : State) (m : MethodId) (pc : Nat) (L : Array Slot) (S : List Value) (t : State) : Prop := Steps p.tables e below (T.setTop (mkF m pc L S)) t
/-- in one state, from the second frame to the first -/
abbrev own_V (p : Program) (e : Env) (below : List Frame) (T : State) (f' f : JFrame) : Prop := ∀ t, Steps p.tables e below (T.setTop f') t → Steps p.tables e below (T.setTop f) t
/-- from this frame on the run comes to an end that G says -/
def own_Go (p : Program) (e : Env) (below : List Frame) (G : State → Outcome → Prop) (T : State) (f : JFrame) : Prop :=
  ∃ t o, Steps p.tables e below (T.setTop f) t ∧ G t o
theorem own_st {G : State → Outcome → Prop} {f f' : JFrame} (st : ∀ t, Steps p.tables e below (T'.setTop f') t → Steps p.tables e below (T.setTop f) t) (k : own_Go p e below G T' f') : own_Go p e below G T f := by
  obtain ⟨t, o, h1, h2⟩ := k
  exact ⟨t, o, st t h1, h2⟩
/-- from this frame on the run comes to a state and a frame that P says -/
def own_Pk (p : Program) (e : Env) (below : List Frame) (P : State → JFrame → Prop) (T : State) (f : JFrame) : Prop :=
  ∃ T' f', P T' f' ∧ ∀ t, Steps p.tables e below (T'.setTop f') t → Steps p.tables e below (T.setTop f) t
theorem own_sp {P : State → JFrame → Prop} {f f' : JFrame} (st : ∀ t, Steps p.tables e below (T'.setTop f') t → Steps p.tables e below (T.setTop f) t) (k : own_Pk p e below P T' f') : own_Pk p e below P T f := by
  obtain ⟨T2, f2, h1, h2⟩ := k
  exact ⟨T2, f2, h1, fun t q => st t (h2 t q)⟩
theorem own_pm {P P' : State → JFrame → Prop} {f : JFrame} (k : own_Pk p e below P T f) (q : ∀ T' f', P T' f' → P' T' f') : own_Pk p e below P' T f := by
  obtain ⟨T2, f2, h1, h2⟩ := k
  exact ⟨T2, f2, q _ _ h1, h2⟩
/-- it returned, Q says what, and the frame is kept -/
def own_End (s : State) (below : List Frame) (Q : Option Value → Heap → List Loc → Prop) (C S : Nat) : State → Outcome → Prop := fun t o =>
  t.status = .running ∧ Ended t below o ∧ ∃ v L, o = .returned v ∧ Q v t.heap L ∧ FrameEnd s o t L C S
theorem own_body {y : MethodName} {bytes : ByteArray} {ml : Nat} {rt : Option FieldType} {rm : Room} {as' : Array Value} {h0 : Heap} {Q : Option Value → Heap → List Loc → Prop} {C S : Nat} {ws : List Jvm.Cond} (hp : plainFor y = true)
    (H : ∀ p e s m below meth c s₁, BodyLoose p l y (head1 (Jvm.Cond.code y bytes ml rt :: ws) rm) bytes ml rt e s m as' below meth c s₁ → c.maxLocals = ml → Z.Warmed39 s.vm → s₁.heap = h0 → own_Go p e below (own_End s below Q C S) s₁ (entryFrame m as' ml)) :
    MetFree l y (head1 (Jvm.Cond.code y bytes ml rt :: ws) rm) (fun a U => a = as' ∧ Z.Warmed39 U.vm ∧ U.heap = h0) (fun _ _ _ _ _ => True) (fun _ U o U' => ∃ v L, o = .returned v ∧ Q v U'.heap L ∧ FrameEnd U o U' L C S) := by
  refine MetFree.of_bodySF hp hisR ?_
  intro p e s m args below meth c s₁ Bd hml hP hK
  obtain ⟨rfl, hZ, hh⟩ := hP
  have e0 : s₁.heap = h0 := by rw [← hh, Bd.state]; rfl
  obtain ⟨t, o, h1, h2, h3, h4⟩ := H p e s m below meth c s₁ Bd hml hZ e0
  exact ⟨t, o, h1, h2, h3, h4⟩
/-- a callee's contract -/
abbrev own_Ct (l : Launch) (Z : State) (y : MethodName) (bytes : ByteArray) (ml : Nat) (rt : Option FieldType) (rm : Room) (as' : Array Value) (h0 : Heap) (Q : Option Value → Heap → List Loc → Prop) : Prop :=
  MetFree l y (head1 [Jvm.Cond.code y bytes ml rt] rm) (fun a U => a = as' ∧ Z.Warmed39 U.vm ∧ U.heap = h0) (fun _ _ _ _ _ => True) (fun _ U o U' => ∃ v L, o = .returned v ∧ Q v U'.heap L ∧ FrameEnd U o U' L rm.cells rm.slots)
section Ret
variable {Q : Option Value → Heap → List Loc → Prop} {C S : Nat}
theorem own_out {v : Option Value} {f : JFrame} (X : Stand p l e R s m args below meth c T locs cells slots) (hv : meth.sig.returnType = none → v = none) (hlocks : meth.locks = false) (hC : cells ≤ C) (hS : slots ≤ S) (eT : T.heap = h) (hq : Q v h locs)
    (go : ∀ fs, (∀ (f : JFrame) (acts : List Action), f.method = m → f.locked = none → f.entered = [] → (doReturn e (T.setTop f) acts v).1 = T.setFrames fs) → Steps p.tables e below (T.setTop f) (T.setFrames fs)) :
    own_Go p e below (own_End s below Q C S) T f := by
  obtain ⟨fs, hr, hrun, hended, hW, hsame⟩ := X.leave (v := v) hv hlocks
  refine ⟨_, _, go fs hr, hrun, hended, _, _, rfl, ?_, ⟨_, rfl⟩, hW, hsame.mono hC hS⟩
  show Q v T.heap locs
  rw [eT]; exact hq
theorem own_retI (X : Stand p l e R s m args below meth c T locs cells slots) (hx : p.tables.exec = Jvm.exec) (hlocks : meth.locks = false) (hret : meth.sig.returnType = some .int) {pc : Nat} {Ls : Array Slot} {z : Int32} {rest : List Value} (hd : decode c.code pc = .ok (.ireturn, 1)) (hC : cells ≤ C) (hS : slots ≤ S) (eT : T.heap = h) (hq : Q (some (.int z)) h locs) :
    own_Go p e below (own_End s below Q C S) T (mkF m pc Ls (.int z :: rest)) :=
  own_out X (fun q => by rw [hret] at q; cases q) hlocks hC hS eT hq fun fs hr => retOut X hx hret rfl (Or.inl ⟨rfl, Or.inl rfl, z, rfl⟩) hd hr
theorem own_retZ (X : Stand p l e R s m args below meth c T locs cells slots) (hx : p.tables.exec = Jvm.exec) (hlocks : meth.locks = false) (hret : meth.sig.returnType = some .boolean) {pc : Nat} {Ls : Array Slot} {z : Int32} {rest : List Value} (hd : decode c.code pc = .ok (.ireturn, 1)) (hz : z = 0 ∨ z = 1) (hC : cells ≤ C) (hS : slots ≤ S) (eT : T.heap = h) (hq : Q (some (.int z)) h locs) :
    own_Go p e below (own_End s below Q C S) T (mkF m pc Ls (.int z :: rest)) :=
  own_out X (fun q => by rw [hret] at q; cases q) hlocks hC hS eT hq fun fs hr => retN X hx hret (Or.inl rfl) hd (by
    have : nar .boolean z = z := by rcases hz with rfl | rfl <;> decide
    rw [this]; exact hr)
theorem own_retB (X : Stand p l e R s m args below meth c T locs cells slots) (hx : p.tables.exec = Jvm.exec) (hlocks : meth.locks = false) (hret : meth.sig.returnType = some .byte) {pc : Nat} {Ls : Array Slot} {z : Int32} {rest : List Value} (hd : decode c.code pc = .ok (.ireturn, 1)) (hz : nar .byte z = z) (hC : cells ≤ C) (hS : slots ≤ S) (eT : T.heap = h) (hq : Q (some (.int z)) h locs) :
    own_Go p e below (own_End s below Q C S) T (mkF m pc Ls (.int z :: rest)) :=
  own_out X (fun q => by rw [hret] at q; cases q) hlocks hC hS eT hq fun fs hr => retN X hx hret (Or.inr (Or.inl rfl)) hd (by rw [hz]; exact hr)
theorem own_retJ (X : Stand p l e R s m args below meth c T locs cells slots) (hx : p.tables.exec = Jvm.exec) (hlocks : meth.locks = false) (hret : meth.sig.returnType = some .long) {pc : Nat} {Ls : Array Slot} {z : Int64} {rest : List Value} (hd : decode c.code pc = .ok (.lreturn, 1)) (hC : cells ≤ C) (hS : slots ≤ S) (eT : T.heap = h) (hq : Q (some (.long z)) h locs) :
    own_Go p e below (own_End s below Q C S) T (mkF m pc Ls (.long z :: rest)) :=
  own_out X (fun q => by rw [hret] at q; cases q) hlocks hC hS eT hq fun fs hr => retOut X hx hret rfl (Or.inr (Or.inl ⟨rfl, rfl, z, rfl⟩)) hd hr
theorem own_retR {t : FieldType} {w : Value} (X : Stand p l e R s m args below meth c T locs cells slots) (hx : p.tables.exec = Jvm.exec) (hlocks : meth.locks = false) (hret : meth.sig.returnType = some t) (ht : t.isReference = true) (hw : w.isRef = true) {pc : Nat} {Ls : Array Slot} {rest : List Value} (hd : decode c.code pc = .ok (.areturn, 1)) (hC : cells ≤ C) (hS : slots ≤ S) (eT : T.heap = h) (hq : Q (some w) h locs) :
    own_Go p e below (own_End s below Q C S) T (mkF m pc Ls (w :: rest)) :=
  own_out X (fun q => by rw [hret] at q; cases q) hlocks hC hS eT hq fun fs hr => retOut X hx hret (by cases t <;> cases w <;> first | rfl | (cases ht; done) | (cases hw; done)) (Or.inr (Or.inr (Or.inr (Or.inr ⟨rfl, ht, hw⟩)))) hd hr
theorem own_retV (X : Stand p l e R s m args below meth c T locs cells slots) (hx : p.tables.exec = Jvm.exec) (hlocks : meth.locks = false) (hret : meth.sig.returnType = none) {pc : Nat} {Ls : Array Slot} (hd : decode c.code pc = .ok (.return_, 1)) (hC : cells ≤ C) (hS : slots ≤ S) (eT : T.heap = h) (hq : Q none h locs) :
    own_Go p e below (own_End s below Q C S) T (mkF m pc Ls []) :=
  own_out X (fun _ => rfl) hlocks hC hS eT hq fun fs hr => X.returnOut hx hret hd hr
end Ret
section Call
variable {own : String} {index : Nat} {y : MethodName} {bytes : ByteArray} {ml : Nat} {rt : Option FieldType} {rm : Room} {Q : Option Value → Heap → List Loc → Prop} {g : JFrame} {argsL rest : List Value} {W : Nat}
theorem own_callS (X : Stand p l e R s m args below meth c T locs cells slots) (hx : p.tables.exec = Jvm.exec) (hZ : Z.Warmed39 s.vm) (hown : s.vm.findClass own = some m.cls)
    (w1 : (Jvm.Cond.methodLink own index y).before a0 Z = true) (w2 : (Jvm.Cond.static y).before a0 Z = true) (w3 : (Jvm.Cond.initialized y.cls).before a0 Z = true) (w4 : (Jvm.Cond.code y bytes ml rt).before a0 Z = true)
    (hy : y.cls ≠ "java/lang/invoke/MethodHandle" ∧ y.cls ≠ "java/lang/invoke/VarHandle") (ct : own_Ct l Z y bytes ml rt rm argsL.toArray h Q) (eT : T.heap = h) (hg : g.method = m) (hsize : g.locals.size = c.maxLocals)
    (hlen : ∀ sig, parseMethodDescriptor y.desc = some sig → argsL.length = sig.parameters.length) (hstack : g.stack = argsL.reverse ++ rest) (hW : 2 * g.monitorRoom + (rest.map fun v => v.category).sum ≤ W) (hdg : decode c.code g.pc = .ok (.invokestatic index, 3))
    (hf : rm.frames + 1 ≤ R.frames) (hl : W + (ml + 11) + rm.locals ≤ R.locals) (hc : cells + rm.cells ≤ R.cells) (hs : slots + rm.slots ≤ R.slots) :
    ∃ v T' L, Stand p l e R s m args below meth c T' (locs ++ L) (cells + rm.cells) (slots + rm.slots) ∧ Q v T'.heap L ∧ ∀ target, Steps p.tables e below (T'.setTop { g with pc := g.pc + 3, stack := v.toList ++ rest }) target → Steps p.tables e below (T.setTop g) target := by
  obtain ⟨v, vm1, ⟨T1, L1, k1, n1⟩, -, X1, ⟨L, hQ, h1, h2, h3⟩, st⟩ := Jvm.LawKit.callS X hx hown (mvT hZ w1) (mvT hZ w2) (mvT hZ w3) (mvT hZ w4) hy (backOf (W := W) ct hZ w4 w3 hf hl) hg hsize hlen hstack hW hdg (fun _ _ => ⟨rfl, eT, hc, hs⟩)
  dsimp only [Pt.U, Pt.locs, Pt.cells, Pt.slots] at X1 h1 h2 h3 hQ st
  subst h1 h2 h3
  exact ⟨v, T1, L, X1, hQ, st⟩
theorem own_callI {a : Addr} (X : Stand p l e R s m args below meth c T locs cells slots) (hx : p.tables.exec = Jvm.exec) (hZ : Z.Warmed39 s.vm) (hown : s.vm.findClass own = some m.cls) (hy1 : y.name = "<init>")
    (w1 : (Jvm.Cond.methodLink own index y).before a0 Z = true) (w2 : (Jvm.Cond.instanceMethod y).before a0 Z = true) (w3 : (Jvm.Cond.initialized y.cls).before a0 Z = true) (w4 : (Jvm.Cond.code y bytes ml none).before a0 Z = true)
    (hy : y.cls ≠ "java/lang/invoke/MethodHandle" ∧ y.cls ≠ "java/lang/invoke/VarHandle") (ct : own_Ct l Z y bytes ml none rm (.ref a :: argsL).toArray h Q) (eT : T.heap = h) (hg : g.method = m) (hsize : g.locals.size = c.maxLocals)
    (hlen : ∀ sig, parseMethodDescriptor y.desc = some sig → argsL.length = sig.parameters.length) (hstack : g.stack = argsL.reverse ++ .ref a :: rest) (hW : 2 * g.monitorRoom + (rest.map fun v => v.category).sum ≤ W) (hdg : decode c.code g.pc = .ok (.invokespecial index, 3))
    (hf : rm.frames + 1 ≤ R.frames) (hl : W + (ml + 11) + rm.locals ≤ R.locals) (hc : cells + rm.cells ≤ R.cells) (hs : slots + rm.slots ≤ R.slots) :
    ∃ v T' L, Stand p l e R s m args below meth c T' (locs ++ L) (cells + rm.cells) (slots + rm.slots) ∧ Q v T'.heap L ∧ ∀ target, Steps p.tables e below (T'.setTop { g with pc := g.pc + 3, stack := v.toList ++ rest }) target → Steps p.tables e below (T.setTop g) target := by
  obtain ⟨v, vm1, ⟨T1, L1, k1, n1⟩, -, X1, ⟨L, hQ, h1, h2, h3⟩, st⟩ := X.specialBack hx hy1 hown (mvT hZ w1) (mvT hZ w2) (mvT hZ w4) hy (backOf (W := W) ct hZ w4 w3 hf hl) hg hsize (Steps.refl _) hlen hstack hW hdg (fun _ _ => ⟨rfl, eT, hc, hs⟩)
  dsimp only [Pt.U, Pt.locs, Pt.cells, Pt.slots] at X1 h1 h2 h3 hQ st
  subst h1 h2 h3
  exact ⟨v, T1, L, X1, hQ, fun t k => st.trans k⟩
theorem own_callV {a : Addr} {C : String} (X : Stand p l e R s m args below meth c T locs cells slots) (hx : p.tables.exec = Jvm.exec) (hZ : Z.Warmed39 s.vm) (hown : s.vm.findClass own = some m.cls) (E : Exa Z h a C) {y0 : MethodName}
    (w1 : (Jvm.Cond.methodLink own index y0).before a0 Z = true) (w2 : (Jvm.Cond.declares y0).before a0 Z = true) (w5 : (Jvm.Cond.selects C y0 y).before a0 Z = true) (nf : NotFace s y0) (w6 : (Jvm.Cond.instanceMethod y).before a0 Z = true) (w3 : (Jvm.Cond.initialized y.cls).before a0 Z = true) (w4 : (Jvm.Cond.code y bytes ml rt).before a0 Z = true)
    (hy : y0.cls ≠ "java/lang/invoke/MethodHandle" ∧ y0.cls ≠ "java/lang/invoke/VarHandle") (ct : own_Ct l Z y bytes ml rt rm (.ref a :: argsL).toArray h Q) (eT : T.heap = h) (hg : g.method = m) (hsize : g.locals.size = c.maxLocals)
    (hlen : ∀ sig, parseMethodDescriptor y0.desc = some sig → argsL.length = sig.parameters.length) (hstack : g.stack = argsL.reverse ++ .ref a :: rest) (hW : 2 * g.monitorRoom + (rest.map fun v => v.category).sum ≤ W) (hdg : decode c.code g.pc = .ok (.invokevirtual index, 3))
    (hf : rm.frames + 1 ≤ R.frames) (hl : W + (ml + 11) + rm.locals ≤ R.locals) (hc : cells + rm.cells ≤ R.cells) (hs : slots + rm.slots ≤ R.slots) :
    ∃ v T' L, Stand p l e R s m args below meth c T' (locs ++ L) (cells + rm.cells) (slots + rm.slots) ∧ Q v T'.heap L ∧ ∀ target, Steps p.tables e below (T'.setTop { g with pc := g.pc + 3, stack := v.toList ++ rest }) target → Steps p.tables e below (T.setTop g) target := by
  obtain ⟨cq, kq, qa, qb, qc⟩ := isOf hZ eT E
  obtain ⟨v, vm1, ⟨T1, L1, k1, n1⟩, -, X1, ⟨L, hQ, h1, h2, h3⟩, st⟩ := X.virtualBack hx (y := y0) (z := y) hown (mvT hZ w1) (mvT hZ w2) nf (mvT hZ w5) (mvT hZ w6) hy (backOf (W := W) ct hZ w4 w3 hf hl) qa qc hg hsize (Steps.refl _) hlen hstack hW hdg (fun _ _ => ⟨rfl, eT, hc, hs⟩)
  dsimp only [Pt.U, Pt.locs, Pt.cells, Pt.slots] at X1 h1 h2 h3 hQ st
  subst h1 h2 h3
  exact ⟨v, T1, L, X1, hQ, fun t k => st.trans k⟩
theorem own_callP {a : Addr} {C C0 : String} {x z : MethodName} (X : Stand p l e R s m args below meth c T locs cells slots) (hx : p.tables.exec = Jvm.exec) (hZ : Z.Warmed39 s.vm) (hown : s.vm.findClass own = some m.cls) (E : Exa Z h a C0) (hz : z.cls = y.cls)
    (w1 : (Jvm.Cond.methodLink own index y).before a0 Z = true) (w2 : (Jvm.Cond.instanceMethod y).before a0 Z = true) (w5 : (Jvm.Cond.selects C x z).before a0 Z = true) (wp : (Jvm.Cond.privateMethod y).before a0 Z = true) (w3 : (Jvm.Cond.initialized y.cls).before a0 Z = true) (w4 : (Jvm.Cond.code y bytes ml rt).before a0 Z = true)
    (hy : y.cls ≠ "java/lang/invoke/MethodHandle" ∧ y.cls ≠ "java/lang/invoke/VarHandle") (ct : own_Ct l Z y bytes ml rt rm (.ref a :: argsL).toArray h Q) (eT : T.heap = h) (hg : g.method = m) (hsize : g.locals.size = c.maxLocals)
    (hlen : ∀ sig, parseMethodDescriptor y.desc = some sig → argsL.length = sig.parameters.length) (hstack : g.stack = argsL.reverse ++ .ref a :: rest) (hW : 2 * g.monitorRoom + (rest.map fun v => v.category).sum ≤ W) (hdg : decode c.code g.pc = .ok (.invokevirtual index, 3))
    (hf : rm.frames + 1 ≤ R.frames) (hl : W + (ml + 11) + rm.locals ≤ R.locals) (hc : cells + rm.cells ≤ R.cells) (hs : slots + rm.slots ≤ R.slots) :
    ∃ v T' L, Stand p l e R s m args below meth c T' (locs ++ L) (cells + rm.cells) (slots + rm.slots) ∧ Q v T'.heap L ∧ ∀ target, Steps p.tables e below (T'.setTop { g with pc := g.pc + 3, stack := v.toList ++ rest }) target → Steps p.tables e below (T.setTop g) target := by
  obtain ⟨cq, q1, q2⟩ := E.cell
  have hp : s.PrivateAt y := Cond.privateMethod_at (mvP hZ wp (args := #[]))
  have w5' : (Jvm.Cond.selects C x z).before args s = true := mvT hZ w5
  obtain ⟨c2, r2, m2, -, -, q3, -, kP, hkP, hkPi⟩ := Cond.selects_spec w5'
  have hcl : s.vm.findClass y.cls = some m2.cls := hz ▸ findClass_of_methodNamed q3
  have hsel : (Jvm.Cond.selects y.cls y y).before args s = true := selects_self_of_private hcl hkP hkPi hp (mvT hZ w2) hy
  obtain ⟨v, vm1, ⟨T1, L1, k1, n1⟩, -, X1, ⟨L, hQ, h1, h2, h3⟩, st⟩ := X.privateBack hx hown (mvT hZ w1) (mvT hZ w2) hsel hp (mvT hZ w4) hy (backOf (W := W) ct hZ w4 w3 hf hl) hg hsize (Steps.refl _) (a := a) (by rw [eT]; exact q1) q2 hlen hstack hW hdg (fun _ _ => ⟨rfl, eT, hc, hs⟩)
  dsimp only [Pt.U, Pt.locs, Pt.cells, Pt.slots] at X1 h1 h2 h3 hQ st
  subst h1 h2 h3
  exact ⟨v, T1, L, X1, hQ, fun t k => st.trans k⟩
theorem own_callF {a : Addr} {C : String} {count : Nat} (X : Stand p l e R s m args below meth c T locs cells slots) (hx : p.tables.exec = Jvm.exec) (hZ : Z.Warmed39 s.vm) (hown : s.vm.findClass own = some m.cls) (E : Exa Z h a C) {y0 : MethodName}
    (w1 : (Jvm.Cond.methodLink own index y0).before a0 Z = true) (w2 : (Jvm.Cond.declares y0).before a0 Z = true) (wf : (Jvm.Cond.interfaceMethod y0.cls y0.cls y0.name y0.desc).before args s = true) (w5 : (Jvm.Cond.selects C y0 y).before a0 Z = true) (w6 : (Jvm.Cond.instanceMethod y).before a0 Z = true) (wp : (Jvm.Cond.publicMethod y).before a0 Z = true) (wu : (Jvm.Cond.unhidden C y0.name y0.desc).before a0 Z = true) (wk : (Jvm.Cond.castable C y0.cls).before a0 Z = true) (w3 : (Jvm.Cond.initialized y.cls).before a0 Z = true) (w4 : (Jvm.Cond.code y bytes ml rt).before a0 Z = true)
    (hy : y0.cls ≠ "java/lang/invoke/MethodHandle" ∧ y0.cls ≠ "java/lang/invoke/VarHandle") (ct : own_Ct l Z y bytes ml rt rm (.ref a :: argsL).toArray h Q) (eT : T.heap = h) (hg : g.method = m) (hsize : g.locals.size = c.maxLocals)
    (hlen : ∀ sig, parseMethodDescriptor y0.desc = some sig → argsL.length = sig.parameters.length) (hstack : g.stack = argsL.reverse ++ .ref a :: rest) (hW : 2 * g.monitorRoom + (rest.map fun v => v.category).sum ≤ W) (hdg : decode c.code g.pc = .ok (.invokeinterface index count, 5))
    (hf : rm.frames + 1 ≤ R.frames) (hl : W + (ml + 11) + rm.locals ≤ R.locals) (hc : cells + rm.cells ≤ R.cells) (hs : slots + rm.slots ≤ R.slots) :
    ∃ v T' L, Stand p l e R s m args below meth c T' (locs ++ L) (cells + rm.cells) (slots + rm.slots) ∧ Q v T'.heap L ∧ ∀ target, Steps p.tables e below (T'.setTop { g with pc := g.pc + 5, stack := v.toList ++ rest }) target → Steps p.tables e below (T.setTop g) target := by
  obtain ⟨cq, kq, qa, qb, qc⟩ := isOf hZ eT E
  obtain ⟨v, vm1, ⟨T1, L1, k1, n1⟩, -, X1, ⟨L, hQ, h1, h2, h3⟩, st⟩ := X.interfaceBack hx (xi := y0) (y := y) hown (mvT hZ w1) (mvT hZ w2) wf (mvT hZ w5) (mvT hZ w6) (mvT hZ wp) (mvT hZ wu) (mvT hZ wk) hy (backOf (W := W) ct hZ w4 w3 hf hl) qa qb qc hg hsize (Steps.refl _) hlen hstack hW hdg (fun _ _ => ⟨rfl, eT, hc, hs⟩)
  dsimp only [Pt.U, Pt.locs, Pt.cells, Pt.slots] at X1 h1 h2 h3 hQ st
  subst h1 h2 h3
  exact ⟨v, T1, L, X1, hQ, fun t k => st.trans k⟩
end Call
/-- getfield by an entry that is resolved already -/
theorem own_getR {O n d : String} {a : Addr} {v : Value} (X : Stand p l e R s m args below meth c T locs cells slots) (hx : p.tables.exec = Jvm.exec) (hZ : Z.Warmed39 s.vm) {own : String} {index : Nat} (hown : s.vm.findClass own = some m.cls) (w : (Jvm.Cond.fieldRef own index O n d).before a0 Z = true) (eT : T.heap = h) (F : Fld Z h a O n d v)
    {g : JFrame} (hg : g.method = m) {rest : List Value} (hs : g.stack = .ref a :: rest) (hd : decode c.code g.pc = .ok (.getfield index, 3)) :
    ∀ t, Steps p.tables e below (T.setTop { g with pc := g.pc + 3, stack := v :: rest }) t → Steps p.tables e below (T.setTop g) t := by
  have hT : Z.Warmed39 T.vm := wtrans hZ X.warmed
  have w' := Cond.fieldRef_warmed39 hT w
  have hownT : (Z.setVm T.vm).vm.findClass own = some m.cls := by
    show T.vm.findClass own = _
    rw [X.warmed.alike.findClass]; exact hown
  obtain ⟨c1, k1, i1, f1, q1, q2⟩ := Cond.fieldRef_spec hownT w'
  obtain ⟨cell, cf, k, i, f, h1, h2, h3, h4, -, -, h7⟩ := F
  obtain ⟨k', hi, -⟩ := State.fieldFound?_setVm (s := Z) hT.alike h2
  cases q1.symm.trans hi
  exact fun t kt => (X.getfieldR hx hg q2 h3 hs (by rw [eT]; exact h1) h4 h7 hd (Steps.refl _)).trans kt
theorem own_Sta.keep {C n d : String} {v : Value} (S : Sta Z h C n d v) (K : Keep h h' []) : Sta Z h' C n d v := by
  obtain ⟨cf, i, k, f, st, cell, h1, h2, h3, h4, h5, h6, h7⟩ := S
  exact ⟨cf, i, k, f, st, cell, h1, h2, h3, h4, K.2.1 _ _ h5 nin0, h6, h7⟩
theorem own_imod (x y : Int32) : x - (x / y) * y = x % y := by
  apply Int32.toInt_inj.mp
  have h1 := rng32 (x % y)
  rw [Int32.toInt_sub, Int32.toInt_mul, Int32.toInt_div, Int.bmod_mul_bmod, Int.sub_bmod_bmod, Int.mul_comm (x.toInt.tdiv y.toInt), ← Int.tmod_def, ← Int32.toInt_mod]
  exact Int.bmod_eq_of_le_mul_two (by omega) (by omega)
theorem own_irem {T target : State} {g : JFrame} (h : At T m c below) (hx : p.tables.exec = Jvm.exec) (hg : g.method = m) {x y : Int32} {rest : List Value} (hd : decode c.code g.pc = .ok (.irem, 1)) (hs : g.stack = .int y :: .int x :: rest) (hy : y ≠ 0)
    (hr : Steps p.tables e below (T.setTop { g with pc := g.pc + 1, stack := .int (x % y) :: rest }) target) : Steps p.tables e below (T.setTop g) target := by
  refine XS.irem h hx hg hd hs hy ?_
  rw [own_imod x y]
  exact hr
section Cmp
theorem own_tltL {x y : Int64} (h : x < y) : ifCond.holds .lt (lcmpW x y) = true ∧ ifCond.holds .ge (lcmpW x y) = false := by
  rw [if0, if0]; exact ⟨(tlt ((lw_lt x y).mpr h)).1, (tlt ((lw_lt x y).mpr h)).2.1⟩
theorem own_fltL {x y : Int64} (h : ¬ x < y) : ifCond.holds .lt (lcmpW x y) = false ∧ ifCond.holds .ge (lcmpW x y) = true := by
  have q : ¬ lcmpW x y < 0 := fun q => h ((lw_lt x y).mp q)
  rw [if0, if0]; exact ⟨(flt q).1, (flt q).2.1⟩
theorem own_tgtL {x y : Int64} (h : y < x) : ifCond.holds .gt (lcmpW x y) = true ∧ ifCond.holds .le (lcmpW x y) = false := by
  rw [if0, if0]; exact ⟨(tlt ((lw_gt x y).mpr h)).2.2.1, (tlt ((lw_gt x y).mpr h)).2.2.2⟩
theorem own_fgtL {x y : Int64} (h : ¬ y < x) : ifCond.holds .gt (lcmpW x y) = false ∧ ifCond.holds .le (lcmpW x y) = true := by
  have q : ¬ 0 < lcmpW x y := fun q => h ((lw_gt x y).mp q)
  rw [if0, if0]; exact ⟨(flt q).2.2.1, (flt q).2.2.2⟩
theorem own_teqL {x y : Int64} (h : x = y) : ifCond.holds .eq (lcmpW x y) = true ∧ ifCond.holds .ne (lcmpW x y) = false := by
  rw [if0, if0]; exact ⟨(teq ((lw_eq x y).mpr h)).1, (teq ((lw_eq x y).mpr h)).2⟩
theorem own_feqL {x y : Int64} (h : ¬ x = y) : ifCond.holds .eq (lcmpW x y) = false ∧ ifCond.holds .ne (lcmpW x y) = true := by
  have q : ¬ lcmpW x y = 0 := fun q => h ((lw_eq x y).mp q)
  rw [if0, if0]; exact ⟨(feq q).1, (feq q).2⟩
end Cmp
/-- an array: its kind, its length, its values -/
def own_AV (Z : State) (h : Heap) (a : Addr) (ty : FieldType) (n : Nat) (f : Nat → Value) : Prop :=
  ∃ cl : Cell, Arr Z h a cl ty ∧ cl.slots.size = n ∧ (∀ i, i < n → cl.slots[i]? = some (f i)) ∧ ∀ i, i < n → fits ty (f i) = true
/-- an array of int-like values -/
def own_AI (Z : State) (h : Heap) (a : Addr) (ty : FieldType) (n : Nat) (f : Nat → Int32) : Prop := own_AV Z h a ty n (fun i => .int (f i))
def own_AL (Z : State) (h : Heap) (a : Addr) (n : Nat) (f : Nat → Int64) : Prop := own_AV Z h a .long n (fun i => .long (f i))
def own_updV (f : Nat → Value) (k : Nat) (v : Value) : Nat → Value := fun i => if i = k then v else f i
def own_upd (f : Nat → Int32) (k : Nat) (v : Int32) : Nat → Int32 := fun i => if i = k then v else f i
def own_updL (f : Nat → Int64) (k : Nat) (v : Int64) : Nat → Int64 := fun i => if i = k then v else f i
theorem own_idx {j : Int32} {k n : Nat} {cl : Cell} (S : cl.slots.size = n) (hj : j.toInt = (k : Int)) (hk : k < n) : ¬ (j < 0 ∨ cl.slots.size ≤ j.toNatClampNeg) ∧ j.toNatClampNeg = k := by
  have e0 : (0 : Int32).toInt = 0 := by decide
  have e1 : j.toNatClampNeg = k := by
    show j.toInt.toNat = k
    rw [hj]; rfl
  refine ⟨?_, e1⟩
  rintro (q | q)
  · rw [Int32.lt_iff_toInt_lt, e0, hj] at q; omega
  · rw [e1, S] at q; omega
section AV
variable {a b : Addr} {ty : FieldType} {n : Nat} {f : Nat → Value}
theorem own_AV.lt (A : own_AV Z h a ty n f) : a < h.size := by obtain ⟨cl, h1, -⟩ := A; exact h1.lt
theorem own_AV.ext (A : own_AV Z h a ty n f) (E : Ext h h') : own_AV Z h' a ty n f := by obtain ⟨cl, h1, r⟩ := A; exact ⟨cl, h1.ext E, r⟩
theorem own_AV.other (A : own_AV Z h b ty n f) {sl : Nat} {v : Value} (W : Wr h h' a sl v) (q : b ≠ a) : own_AV Z h' b ty n f := by obtain ⟨cl, h1, r⟩ := A; exact ⟨cl, h1.other W q, r⟩
theorem own_AV.keep {ws : List Addr} (A : own_AV Z h a ty n f) (K : Keep h h' ws) (q : a ∉ ws) : own_AV Z h' a ty n f := by obtain ⟨cl, h1, r⟩ := A; exact ⟨cl, ⟨K.2.1 a cl h1.1 q, h1.2⟩, r⟩
theorem own_AV.congr {g : Nat → Value} (A : own_AV Z h a ty n f) (q : ∀ i, i < n → f i = g i) : own_AV Z h a ty n g := by
  obtain ⟨cl, h1, h2, h3, h4⟩ := A
  exact ⟨cl, h1, h2, fun i hi => by rw [← q i hi]; exact h3 i hi, fun i hi => by rw [← q i hi]; exact h4 i hi⟩
theorem own_AV.new {cA : ClassId} {z : Int32} (A : Arr Z h a (newA cA ty z) ty) (hn : z.toNatClampNeg = n) (hf : fits ty (defaultValue ty) = true) : own_AV Z h a ty n (fun _ => defaultValue ty) :=
  ⟨_, A, by rw [sz_new, hn], fun i hi => by subst hn; simp only [newA, Array.getElem?_replicate, hi, if_true], fun _ _ => hf⟩
theorem own_AV.set {k : Nat} {v : Value} (F : own_AV Z h a ty n f) (hk : k < n) (hv : fits ty v = true) (W : Wr h h' a k v) : own_AV Z h' a ty n (own_updV f k v) := by
  obtain ⟨cl, A, S, H, G⟩ := F
  refine ⟨_, A.same W, by rw [sz_set, S], fun i hi => ?_, fun i hi => ?_⟩
  · by_cases q : i = k
    · subst q; simp [Cell.setSlot, own_updV, S, hk]
    · have q' : ¬ k = i := fun r => q r.symm
      simp only [Cell.setSlot, own_updV, q, if_false]
      rw [Array.getElem?_setIfInBounds_ne q']
      exact H i hi
  · by_cases q : i = k
    · simp only [own_updV, q, if_true]; exact hv
    · simp only [own_updV, q, if_false]; exact G i hi
end AV
theorem own_ninS {x y : Nat} {L : List Nat} (q : x ≠ y) (r : x ∉ L) : x ∉ y :: L := ninS q r
theorem own_AL.congr {a : Addr} {n : Nat} {f g : Nat → Int64} (A : own_AL Z h a n f) (q : ∀ i, i < n → f i = g i) : own_AL Z h a n g := own_AV.congr A fun i hi => congrArg Value.long (q i hi)
section AI
variable {a b : Addr} {ty : FieldType} {n : Nat} {f : Nat → Int32}
theorem own_AI.lt (A : own_AI Z h a ty n f) : a < h.size := own_AV.lt A
theorem own_AI.ext (A : own_AI Z h a ty n f) (E : Ext h h') : own_AI Z h' a ty n f := own_AV.ext A E
theorem own_AI.other (A : own_AI Z h b ty n f) {sl : Nat} {v : Value} (W : Wr h h' a sl v) (q : b ≠ a) : own_AI Z h' b ty n f := own_AV.other A W q
theorem own_AI.keep {ws : List Addr} (A : own_AI Z h a ty n f) (K : Keep h h' ws) (q : a ∉ ws) : own_AI Z h' a ty n f := own_AV.keep A K q
theorem own_AI.congr {g : Nat → Int32} (A : own_AI Z h a ty n f) (q : ∀ i, i < n → f i = g i) : own_AI Z h a ty n g := own_AV.congr A fun i hi => congrArg Value.int (q i hi)
theorem own_AI.set {k : Nat} {v : Int32} (F : own_AI Z h a ty n f) (hk : k < n) (hv : fits ty (.int v) = true) (W : Wr h h' a k (.int v)) : own_AI Z h' a ty n (own_upd f k v) :=
  (own_AV.set F hk hv W).congr fun i _ => by
    by_cases q : i = k <;> simp [own_updV, own_upd, q]
end AI
section Rd
variable {a : Addr} {n k : Nat} {j : Int32} {g : JFrame} {rest : List Value}
theorem own_rdI {f : Nat → Int32} (X : Stand p l e R s m args below meth c T locs cells slots) (hx : p.tables.exec = Jvm.exec) (hZ : Z.Warmed39 s.vm) (eT : T.heap = h) (A : own_AI Z h a .int n f) (hj : j.toInt = (k : Int)) (hk : k < n) (hg : g.method = m) (hs : g.stack = .int j :: .ref a :: rest) (hd : decode c.code g.pc = .ok (.iaload, 1)) :
    ∀ t, Steps p.tables e below (T.setTop { g with pc := g.pc + 1, stack := .int (f k) :: rest }) t → Steps p.tables e below (T.setTop g) t := by
  obtain ⟨cl, A1, S, H, -⟩ := A
  obtain ⟨hin, e1⟩ := own_idx S hj hk
  exact X.iaload hx (by rw [eT]; exact A1.1) (State.isArrayOf_alike hZ.alike A1.2.1) A1.2.2 hin (by rw [e1]; exact H k hk) hg hs hd
theorem own_rdB {f : Nat → Int32} (X : Stand p l e R s m args below meth c T locs cells slots) (hx : p.tables.exec = Jvm.exec) (hZ : Z.Warmed39 s.vm) (eT : T.heap = h) (A : own_AI Z h a .byte n f) (hj : j.toInt = (k : Int)) (hk : k < n) (hg : g.method = m) (hs : g.stack = .int j :: .ref a :: rest) (hd : decode c.code g.pc = .ok (.baload, 1)) :
    ∀ t, Steps p.tables e below (T.setTop { g with pc := g.pc + 1, stack := .int (f k) :: rest }) t → Steps p.tables e below (T.setTop g) t := by
  obtain ⟨cl, A1, S, H, -⟩ := A
  obtain ⟨hin, e1⟩ := own_idx S hj hk
  exact X.baloadBytes hx (by rw [eT]; exact A1.1) (State.isArrayOf_alike hZ.alike A1.2.1) A1.2.2 hin (by rw [e1]; exact H k hk) hg hs hd
theorem own_rdZ {f : Nat → Int32} (X : Stand p l e R s m args below meth c T locs cells slots) (hx : p.tables.exec = Jvm.exec) (hZ : Z.Warmed39 s.vm) (eT : T.heap = h) (A : own_AI Z h a .boolean n f) (hj : j.toInt = (k : Int)) (hk : k < n) (hg : g.method = m) (hs : g.stack = .int j :: .ref a :: rest) (hd : decode c.code g.pc = .ok (.baload, 1)) :
    ∀ t, Steps p.tables e below (T.setTop { g with pc := g.pc + 1, stack := .int (f k) :: rest }) t → Steps p.tables e below (T.setTop g) t := by
  obtain ⟨cl, A1, S, H, -⟩ := A
  obtain ⟨hin, e1⟩ := own_idx S hj hk
  exact X.baloadBooleans hx (by rw [eT]; exact A1.1) (State.isArrayOf_alike hZ.alike A1.2.1) A1.2.2 hin (by rw [e1]; exact H k hk) hg hs hd
theorem own_rdC {f : Nat → Int32} (X : Stand p l e R s m args below meth c T locs cells slots) (hx : p.tables.exec = Jvm.exec) (hZ : Z.Warmed39 s.vm) (eT : T.heap = h) (A : own_AI Z h a .char n f) (hj : j.toInt = (k : Int)) (hk : k < n) (hg : g.method = m) (hs : g.stack = .int j :: .ref a :: rest) (hd : decode c.code g.pc = .ok (.caload, 1)) :
    ∀ t, Steps p.tables e below (T.setTop { g with pc := g.pc + 1, stack := .int (f k) :: rest }) t → Steps p.tables e below (T.setTop g) t := by
  obtain ⟨cl, A1, S, H, -⟩ := A
  obtain ⟨hin, e1⟩ := own_idx S hj hk
  exact X.caload hx (by rw [eT]; exact A1.1) (State.isArrayOf_alike hZ.alike A1.2.1) A1.2.2 hin (by rw [e1]; exact H k hk) hg hs hd
theorem own_wrC {f : Nat → Int32} {x : Int32} (X : Stand p l e R s m args below meth c T locs cells slots) (hx : p.tables.exec = Jvm.exec) (hZ : Z.Warmed39 s.vm) (eT : T.heap = h) (A : own_AI Z h a .char n f) (hj : j.toInt = (k : Int)) (hk : k < n) (hg : g.method = m) (hs : g.stack = .int x :: .int j :: .ref a :: rest) (hd : decode c.code g.pc = .ok (.castore, 1)) :
    ∃ T' h', Stand p l e R s m args below meth c T' (locs ++ [⟨a, k⟩]) cells slots ∧ T'.heap = h' ∧ Wr h h' a k (.int (nar .char x)) ∧ own_AI Z h' a .char n (own_upd f k (nar .char x)) ∧ ∀ t, Steps p.tables e below (T'.setTop { g with pc := g.pc + 1, stack := rest }) t → Steps p.tables e below (T.setTop g) t := by
  have A0 := A
  obtain ⟨cl, A1, S, H, -⟩ := A
  obtain ⟨hin, e1⟩ := own_idx S hj hk
  obtain ⟨T', h', X', e', W', st⟩ := stC X hx hZ eT A1 hin hg hs hd
  rw [e1] at X' W'
  exact ⟨T', h', X', e', W', A0.set hk (fits_nar_char x) W', st⟩
theorem own_rdL {f : Nat → Int64} (X : Stand p l e R s m args below meth c T locs cells slots) (hx : p.tables.exec = Jvm.exec) (hZ : Z.Warmed39 s.vm) (eT : T.heap = h) (A : own_AL Z h a n f) (hj : j.toInt = (k : Int)) (hk : k < n) (hg : g.method = m) (hs : g.stack = .int j :: .ref a :: rest) (hd : decode c.code g.pc = .ok (.laload, 1)) :
    ∀ t, Steps p.tables e below (T.setTop { g with pc := g.pc + 1, stack := .long (f k) :: rest }) t → Steps p.tables e below (T.setTop g) t := by
  obtain ⟨cl, A1, S, H, -⟩ := A
  obtain ⟨hin, e1⟩ := own_idx S hj hk
  exact X.laload hx (by rw [eT]; exact A1.1) (State.isArrayOf_alike hZ.alike A1.2.1) A1.2.2 hin (by rw [e1]; exact H k hk) hg hs hd
theorem own_rdR {f : Nat → Value} {ty : FieldType} (X : Stand p l e R s m args below meth c T locs cells slots) (hx : p.tables.exec = Jvm.exec) (hZ : Z.Warmed39 s.vm) (eT : T.heap = h) (A : own_AV Z h a ty n f) (ht : ty.isReference = true) (hj : j.toInt = (k : Int)) (hk : k < n) (hg : g.method = m) (hs : g.stack = .int j :: .ref a :: rest) (hd : decode c.code g.pc = .ok (.aaload, 1)) :
    ∀ t, Steps p.tables e below (T.setTop { g with pc := g.pc + 1, stack := f k :: rest }) t → Steps p.tables e below (T.setTop g) t := by
  obtain ⟨cl, A1, S, H, -⟩ := A
  obtain ⟨hin, e1⟩ := own_idx S hj hk
  exact X.aaload hx (by rw [eT]; exact A1.1) (State.isArrayOf_alike hZ.alike A1.2.1) ht A1.2.2 hin (by rw [e1]; exact H k hk) hg hs hd
theorem own_len {f : Nat → Value} {ty : FieldType} {z : Int32} (X : Stand p l e R s m args below meth c T locs cells slots) (hx : p.tables.exec = Jvm.exec) (hZ : Z.Warmed39 s.vm) (eT : T.heap = h) (A : own_AV Z h a ty n f) (hz : n.toInt32 = z) (hg : g.method = m) (hs : g.stack = .ref a :: rest) (hd : decode c.code g.pc = .ok (.arraylength, 1)) :
    ∀ t, Steps p.tables e below (T.setTop { g with pc := g.pc + 1, stack := .int z :: rest }) t → Steps p.tables e below (T.setTop g) t := by
  obtain ⟨cl, A1, S, -, -⟩ := A
  subst hz S
  exact X.arraylength hx (by rw [eT]; exact A1.1) (State.isArrayOf_alike hZ.alike A1.2.1) hg hs hd
theorem own_wrI {f : Nat → Int32} {x : Int32} (X : Stand p l e R s m args below meth c T locs cells slots) (hx : p.tables.exec = Jvm.exec) (hZ : Z.Warmed39 s.vm) (eT : T.heap = h) (A : own_AI Z h a .int n f) (hj : j.toInt = (k : Int)) (hk : k < n) (hg : g.method = m) (hs : g.stack = .int x :: .int j :: .ref a :: rest) (hd : decode c.code g.pc = .ok (.iastore, 1)) :
    ∃ T' h', Stand p l e R s m args below meth c T' (locs ++ [⟨a, k⟩]) cells slots ∧ T'.heap = h' ∧ Wr h h' a k (.int x) ∧ own_AI Z h' a .int n (own_upd f k x) ∧ ∀ t, Steps p.tables e below (T'.setTop { g with pc := g.pc + 1, stack := rest }) t → Steps p.tables e below (T.setTop g) t := by
  have A0 := A
  obtain ⟨cl, A1, S, H, -⟩ := A
  obtain ⟨hin, e1⟩ := own_idx S hj hk
  obtain ⟨T', h', X', e', W', st⟩ := stI X hx hZ eT A1 hin hg hs hd
  rw [e1] at X' W'
  exact ⟨T', h', X', e', W', A0.set hk rfl W', st⟩
theorem own_wrB {f : Nat → Int32} {x : Int32} (X : Stand p l e R s m args below meth c T locs cells slots) (hx : p.tables.exec = Jvm.exec) (hZ : Z.Warmed39 s.vm) (eT : T.heap = h) (A : own_AI Z h a .byte n f) (hj : j.toInt = (k : Int)) (hk : k < n) (hg : g.method = m) (hs : g.stack = .int x :: .int j :: .ref a :: rest) (hd : decode c.code g.pc = .ok (.bastore, 1)) :
    ∃ T' h', Stand p l e R s m args below meth c T' (locs ++ [⟨a, k⟩]) cells slots ∧ T'.heap = h' ∧ Wr h h' a k (.int (nar .byte x)) ∧ own_AI Z h' a .byte n (own_upd f k (nar .byte x)) ∧ ∀ t, Steps p.tables e below (T'.setTop { g with pc := g.pc + 1, stack := rest }) t → Steps p.tables e below (T.setTop g) t := by
  have A0 := A
  obtain ⟨cl, A1, S, H, -⟩ := A
  obtain ⟨hin, e1⟩ := own_idx S hj hk
  obtain ⟨T', h', X', e', W', st⟩ := stB X hx hZ eT A1 hin hg hs hd
  rw [e1] at X' W'
  exact ⟨T', h', X', e', W', A0.set hk (fits_nar_byte x) W', st⟩
theorem own_wrZ {f : Nat → Int32} {x : Int32} (X : Stand p l e R s m args below meth c T locs cells slots) (hx : p.tables.exec = Jvm.exec) (hZ : Z.Warmed39 s.vm) (eT : T.heap = h) (A : own_AI Z h a .boolean n f) (hj : j.toInt = (k : Int)) (hk : k < n) (hg : g.method = m) (hs : g.stack = .int x :: .int j :: .ref a :: rest) (hd : decode c.code g.pc = .ok (.bastore, 1)) :
    ∃ T' h', Stand p l e R s m args below meth c T' (locs ++ [⟨a, k⟩]) cells slots ∧ T'.heap = h' ∧ Wr h h' a k (.int (nar .boolean x)) ∧ own_AI Z h' a .boolean n (own_upd f k (nar .boolean x)) ∧ ∀ t, Steps p.tables e below (T'.setTop { g with pc := g.pc + 1, stack := rest }) t → Steps p.tables e below (T.setTop g) t := by
  have A0 := A
  obtain ⟨cl, A1, S, H, -⟩ := A
  obtain ⟨hin, e1⟩ := own_idx S hj hk
  obtain ⟨T', h', X', e', W', st⟩ := stZ X hx hZ eT A1 hin hg hs hd
  rw [e1] at X' W'
  exact ⟨T', h', X', e', W', A0.set hk (fits_nar_bool x) W', st⟩
theorem own_wrL {f : Nat → Int64} {x : Int64} (X : Stand p l e R s m args below meth c T locs cells slots) (hx : p.tables.exec = Jvm.exec) (hZ : Z.Warmed39 s.vm) (eT : T.heap = h) (A : own_AL Z h a n f) (hj : j.toInt = (k : Int)) (hk : k < n) (hg : g.method = m) (hs : g.stack = .long x :: .int j :: .ref a :: rest) (hd : decode c.code g.pc = .ok (.lastore, 1)) :
    ∃ T' h', Stand p l e R s m args below meth c T' (locs ++ [⟨a, k⟩]) cells slots ∧ T'.heap = h' ∧ Wr h h' a k (.long x) ∧ own_AL Z h' a n (own_updL f k x) ∧ ∀ t, Steps p.tables e below (T'.setTop { g with pc := g.pc + 1, stack := rest }) t → Steps p.tables e below (T.setTop g) t := by
  have A0 := A
  obtain ⟨cl, A1, S, H, -⟩ := A
  obtain ⟨hin, e1⟩ := own_idx S hj hk
  obtain ⟨T', h', X', e', W', st⟩ := stJ X hx hZ eT A1 hin hg hs hd
  rw [e1] at X' W'
  exact ⟨T', h', X', e', W', (own_AV.set A0 hk rfl W').congr fun i _ => by by_cases q : i = k <;> simp [own_updV, own_updL, q], st⟩
theorem own_wrR {f : Nat → Value} {ty : FieldType} {v : Value} (X : Stand p l e R s m args below meth c T locs cells slots) (hx : p.tables.exec = Jvm.exec) (hZ : Z.Warmed39 s.vm) (eT : T.heap = h) (A : own_AV Z h a ty n f) (ht : ty.isReference = true) (hv : fits ty v = true) (F : Sto Z h a v) (hj : j.toInt = (k : Int)) (hk : k < n) (hg : g.method = m) (hs : g.stack = v :: .int j :: .ref a :: rest) (hd : decode c.code g.pc = .ok (.aastore, 1)) :
    ∃ T' h', Stand p l e R s m args below meth c T' (locs ++ [⟨a, k⟩]) cells slots ∧ T'.heap = h' ∧ Wr h h' a k v ∧ own_AV Z h' a ty n (own_updV f k v) ∧ ∀ t, Steps p.tables e below (T'.setTop { g with pc := g.pc + 1, stack := rest }) t → Steps p.tables e below (T.setTop g) t := by
  have A0 := A
  obtain ⟨cl, A1, S, H, -⟩ := A
  obtain ⟨hin, e1⟩ := own_idx S hj hk
  obtain ⟨T', h', X', e', W', st⟩ := stR X hx hZ eT A1 hin ht F hg hs hd
  rw [e1] at X' W'
  exact ⟨T', h', X', e', W', A0.set hk hv W', st⟩
/-- newarray: the fresh array at a = the heap's old size -/
theorem own_newP {aty : ArrayType} {z : Int32} (X : Stand p l e R s m args below meth c T locs cells slots) (hx : p.tables.exec = Jvm.exec) (hZ : Z.Warmed39 s.vm) (w : (Jvm.Cond.arrayClass (newarray.typeOf aty)).before a0 Z = true) (eT : T.heap = h) (hz : z.toInt = (n : Int)) (hf : fits (newarray.typeOf aty) (defaultValue (newarray.typeOf aty)) = true) (hg : g.method = m) (hs : g.stack = .int z :: rest) (hd : decode c.code g.pc = .ok (.newarray aty, 2)) {cap : Nat} (hcap : n ≤ cap) (hb : cap * 8 ≤ 536870912) (hc : cells + 1 ≤ R.cells) (hl : slots + cap ≤ R.slots) :
    ∃ T' h' a, a = h.size ∧ Stand p l e R s m args below meth c T' locs (cells + 1) (slots + cap) ∧ T'.heap = h' ∧ Ext h h' ∧ own_AV Z h' a (newarray.typeOf aty) n (fun _ => defaultValue (newarray.typeOf aty)) ∧ ∀ t, Steps p.tables e below (T'.setTop { g with pc := g.pc + 2, stack := .ref a :: rest }) t → Steps p.tables e below (T.setTop g) t := by
  have e0 : (0 : Int32).toInt = 0 := by decide
  have e1 : z.toNatClampNeg = n := by show z.toInt.toNat = n; rw [hz]; rfl
  have hn : ¬ z < 0 := by rw [Int32.lt_iff_toInt_lt, e0, hz]; omega
  obtain ⟨T', h', cA, X', e', E', A', st⟩ := newP X hx hZ w eT hg hd hs hn (by rw [e1]; exact hcap) hb hc hl
  exact ⟨T', h', _, rfl, X', e', E', own_AV.new A' e1 hf, st⟩
/-- newarray: the fresh array, its class besides -/
theorem own_newPE {aty : ArrayType} {z : Int32} (X : Stand p l e R s m args below meth c T locs cells slots) (hx : p.tables.exec = Jvm.exec) (hZ : Z.Warmed39 s.vm) (w : (Jvm.Cond.arrayClass (newarray.typeOf aty)).before a0 Z = true) (eT : T.heap = h) (hz : z.toInt = (n : Int)) (hf : fits (newarray.typeOf aty) (defaultValue (newarray.typeOf aty)) = true) (hg : g.method = m) (hs : g.stack = .int z :: rest) (hd : decode c.code g.pc = .ok (.newarray aty, 2)) {cap : Nat} (hcap : n ≤ cap) (hb : cap * 8 ≤ 536870912) (hc : cells + 1 ≤ R.cells) (hl : slots + cap ≤ R.slots) {ad : String} (had : "[" ++ (newarray.typeOf aty).toString = ad) :
    ∃ T' h' a, a = h.size ∧ Stand p l e R s m args below meth c T' locs (cells + 1) (slots + cap) ∧ T'.heap = h' ∧ Ext h h' ∧ own_AV Z h' a (newarray.typeOf aty) n (fun _ => defaultValue (newarray.typeOf aty)) ∧ Exa Z h' a ad ∧ ∀ t, Steps p.tables e below (T'.setTop { g with pc := g.pc + 2, stack := .ref a :: rest }) t → Steps p.tables e below (T.setTop g) t := by
  have e0 : (0 : Int32).toInt = 0 := by decide
  have e1 : z.toNatClampNeg = n := by show z.toInt.toNat = n; rw [hz]; rfl
  have hn : ¬ z < 0 := by rw [Int32.lt_iff_toInt_lt, e0, hz]; omega
  obtain ⟨T', h', cA, X', e', E', A', E2, st⟩ := newPE X hx hZ w eT hg hd hs hn (by rw [e1]; exact hcap) hb hc hl had
  exact ⟨T', h', _, rfl, X', e', E', own_AV.new A' e1 hf, E2, st⟩
/-- anewarray: the fresh array of references, all null; what may lie in it -/
theorem own_newR {C : String} {z : Int32} {own : String} {index : Nat} (X : Stand p l e R s m args below meth c T locs cells slots) (hx : p.tables.exec = Jvm.exec) (hZ : Z.Warmed39 s.vm) (hown : s.vm.findClass own = some m.cls) (w1 : (Jvm.Cond.classLink own index C).before a0 Z = true) (w2 : (Jvm.Cond.arrayOver (.object C)).before a0 Z = true) (eT : T.heap = h) (hz : z.toInt = (n : Int)) (hg : g.method = m) (hs : g.stack = .int z :: rest) (hd : decode c.code g.pc = .ok (.anewarray index, 3)) {cap : Nat} (hcap : n ≤ cap) (hb : cap * 8 ≤ 536870912) (hc : cells + 1 ≤ R.cells) (hl : slots + cap ≤ R.slots) :
    ∃ T' h' a, a = h.size ∧ Stand p l e R s m args below meth c T' locs (cells + 1) (slots + cap) ∧ T'.heap = h' ∧ Ext h h' ∧ own_AV Z h' a (.object C) n (fun _ => .null) ∧ (∃ cl : Cell, h'[a]? = some cl ∧ Ovr Z cl.cls C) ∧ ∀ t, Steps p.tables e below (T'.setTop { g with pc := g.pc + 3, stack := .ref a :: rest }) t → Steps p.tables e below (T.setTop g) t := by
  have e0 : (0 : Int32).toInt = 0 := by decide
  have e1 : z.toNatClampNeg = n := by show z.toInt.toNat = n; rw [hz]; rfl
  have hn : ¬ z < 0 := by rw [Int32.lt_iff_toInt_lt, e0, hz]; omega
  obtain ⟨T', h', cA, X', e', E', A', O', st⟩ := newR X hx hZ hown w1 w2 eT hg hd hs hn (by rw [e1]; exact hcap) hb hc hl
  exact ⟨T', h', _, rfl, X', e', E', own_AV.new A' e1 rfl, ⟨_, A'.1, O'⟩, st⟩
/-- the array over class C at a takes an object of C -/
def own_Ov (Z : State) (h : Heap) (a : Addr) (C : String) : Prop := ∃ cl : Cell, h[a]? = some cl ∧ Ovr Z cl.cls C
theorem own_Ov.keep {a : Addr} {C : String} {ws : List Addr} (O : own_Ov Z h a C) (K : Keep h h' ws) : own_Ov Z h' a C := by
  obtain ⟨cl, h1, h2⟩ := O
  obtain ⟨c', q1, q2, -, -⟩ := K.2.2 a cl h1
  exact ⟨c', q1, by rw [q2]; exact h2⟩
theorem own_Ov.sto {a y : Addr} {C : String} {ty : FieldType} {f : Nat → Value} (O : own_Ov Z h a C) (A : own_AV Z h a ty n f) (I : Ins Z h y C true) : Sto Z h a (.ref y) := by
  obtain ⟨cl, h1, h2⟩ := O
  obtain ⟨c2, A2, -⟩ := A
  cases h1.symm.trans A2.1
  exact Sto.of A2 h2 I
/-- clone() of an array -/
theorem own_clone {own ad : String} {index : Nat} {ty : FieldType} {f : Nat → Value} (X : Stand p l e R s m args below meth c T locs cells slots) (hx : p.tables.exec = Jvm.exec) (hZ : Z.Warmed39 s.vm) (hown : s.vm.findClass own = some m.cls)
    (w1 : (Jvm.Cond.methodLink own index ⟨ad, "clone", "()Ljava/lang/Object;"⟩).before a0 Z = true) (w2 : (Jvm.Cond.sameMethod ad "java/lang/Object" "clone" "()Ljava/lang/Object;").before a0 Z = true) (w3 : (Jvm.Cond.native ⟨"java/lang/Object", "clone", "()Ljava/lang/Object;"⟩).before a0 Z = true)
    (w4 : (Jvm.Cond.instanceMethod ⟨"java/lang/Object", "clone", "()Ljava/lang/Object;"⟩).before a0 Z = true) (w5 : (Jvm.Cond.selects ad ⟨ad, "clone", "()Ljava/lang/Object;"⟩ ⟨"java/lang/Object", "clone", "()Ljava/lang/Object;"⟩).before a0 Z = true) (w6 : (Jvm.Cond.castable ad "java/lang/Cloneable").before a0 Z = true)
    (eT : T.heap = h) (A : own_AV Z h a ty n f) (E : Exa Z h a ad) (hg : g.method = m) (hsize : g.locals.size = c.maxLocals) (hs : g.stack = .ref a :: rest) (hd : decode c.code g.pc = .ok (.invokevirtual index, 3))
    (hf : 1 ≤ R.frames) {W : Nat} (hW : 2 * g.monitorRoom + (rest.map fun v => v.category).sum ≤ W) (hl : W + 14 ≤ R.locals) (hc : cells + 1 ≤ R.cells) (hsl : slots + n ≤ R.slots) :
    ∃ T' h' b, b = h.size ∧ Stand p l e R s m args below meth c T' locs (cells + 1) (slots + n) ∧ T'.heap = h' ∧ Ext h h' ∧ own_AV Z h' b ty n f ∧ Exa Z h' b ad ∧ ∀ t, Steps p.tables e below (T'.setTop { g with pc := g.pc + 3, stack := .ref b :: rest }) t → Steps p.tables e below (T.setTop g) t := by
  obtain ⟨cl, A1, S, H, G⟩ := A
  have F : FitC Z cl := fitC_of A1 fun i hi v hv => by
    rw [S] at hi
    rw [H i hi] at hv
    cases hv
    exact G i hi
  obtain ⟨T', h', X', e', E', A', E2, st⟩ := cloneA X hx hZ hown w1 w2 w3 w4 w5 w6 eT A1 E F hg hsize hs hd hf hW hl (Nat.le_of_eq S) hc hsl
  exact ⟨T', h', _, rfl, X', e', E', ⟨_, A', S, H, G⟩, E2, st⟩
end Rd
end Own
end Jvm.RoadKit
namespace Jvm.RoadKit
open Sem ClassFile Op Lib Jvm.Stand Jvm.Free Jvm.LawKit
section OwnW
variable {p : Program} {l : Launch} {e : Env} {R : Room} {s : State} {m : MethodId} {args : Array Value} {below : List Frame} {meth : Method} {c : Code} {T T' : State} {locs : List Loc} {cells slots : Nat} {Z : State} {a0 : Array Value} {h h' : Heap}
/-- it returned, Q says what; the wide frame -/
def own_EndW (s : State) (below : List Frame) (Q : Option Value → Heap → List Loc → Prop) (C S : Nat) : State → Outcome → Prop := fun t o =>
  t.status = .running ∧ Ended t below o ∧ ∃ v L, o = .returned v ∧ Q v t.heap L ∧ ReturnedEndW s o t L C S
theorem own_bodyW {y : MethodName} {bytes : ByteArray} {ml : Nat} {rt : Option FieldType} {rm : Room} {as' : Array Value} {h0 : Heap} {Q : Option Value → Heap → List Loc → Prop} {C S : Nat} {ws : List Jvm.Cond} (hp : plainFor y = true)
    (H : ∀ p e s m below meth c s₁, BodyLoose p l y (head1 (Jvm.Cond.code y bytes ml rt :: ws) rm) bytes ml rt e s m as' below meth c s₁ → c.maxLocals = ml → Z.Warmed39 s.vm → s₁.heap = h0 → own_Go p e below (own_EndW s below Q C S) s₁ (entryFrame m as' ml)) :
    MetFree l y (head1 (Jvm.Cond.code y bytes ml rt :: ws) rm) (fun a U => a = as' ∧ Z.Warmed39 U.vm ∧ U.heap = h0) (fun _ _ _ _ _ => True) (fun _ U o U' => ∃ v L, o = .returned v ∧ Q v U'.heap L ∧ ReturnedEndW U o U' L C S) := by
  refine MetFree.of_bodySF hp hisR ?_
  intro p e s m args below meth c s₁ Bd hml hP hK
  obtain ⟨rfl, hZ, hh⟩ := hP
  have e0 : s₁.heap = h0 := by rw [← hh, Bd.state]; rfl
  obtain ⟨t, o, h1, h2, h3, h4⟩ := H p e s m below meth c s₁ Bd hml hZ e0
  exact ⟨t, o, h1, h2, h3, h4⟩
abbrev own_CtW (l : Launch) (Z : State) (y : MethodName) (bytes : ByteArray) (ml : Nat) (rt : Option FieldType) (rm : Room) (as' : Array Value) (h0 : Heap) (Q : Option Value → Heap → List Loc → Prop) : Prop :=
  MetFree l y (head1 [Jvm.Cond.code y bytes ml rt] rm) (fun a U => a = as' ∧ Z.Warmed39 U.vm ∧ U.heap = h0) (fun _ _ _ _ _ => True) (fun _ U o U' => ∃ v L, o = .returned v ∧ Q v U'.heap L ∧ ReturnedEndW U o U' L rm.cells rm.slots)
section Ret
variable {Q : Option Value → Heap → List Loc → Prop} {C S : Nat} {vm1 : Vm}
theorem own_outW {v : Option Value} {f : JFrame} (X : Stand p l e R (s.setVm vm1) m args below meth c T locs cells slots) {n : Nat} (hI : s.Since vm1 n) (hn : n ≤ h.size) (hv : meth.sig.returnType = none → v = none) (hlocks : meth.locks = false) (hC : cells ≤ C) (hS : slots ≤ S) (eT : T.heap = h) (hq : Q v h locs)
    (go : ∀ fs, (∀ (f : JFrame) (acts : List Action), f.method = m → f.locked = none → f.entered = [] → (doReturn e (T.setTop f) acts v).1 = T.setFrames fs) → Steps p.tables e below (T.setTop f) (T.setFrames fs)) :
    own_Go p e below (own_EndW s below Q C S) T f := by
  obtain ⟨fs, hr, hrun, hended, h1, h2, h3, h4⟩ := X.leaveW hI (by rw [eT]; exact hn) (v := v) hv hlocks
  refine ⟨_, _, go fs hr, hrun, hended, _, _, rfl, ?_, h1, h2, h3, h4.mono hC hS⟩
  show Q v T.heap locs
  rw [eT]; exact hq
theorem own_retZW (X : Stand p l e R (s.setVm vm1) m args below meth c T locs cells slots) (hx : p.tables.exec = Jvm.exec) {n : Nat} (hI : s.Since vm1 n) (hn : n ≤ h.size) (hlocks : meth.locks = false) (hret : meth.sig.returnType = some .boolean) {pc : Nat} {Ls : Array Slot} {z : Int32} {rest : List Value} (hd : decode c.code pc = .ok (.ireturn, 1)) (hz : z = 0 ∨ z = 1) (hC : cells ≤ C) (hS : slots ≤ S) (eT : T.heap = h) (hq : Q (some (.int z)) h locs) :
    own_Go p e below (own_EndW s below Q C S) T (mkF m pc Ls (.int z :: rest)) :=
  own_outW X hI hn (fun q => by rw [hret] at q; cases q) hlocks hC hS eT hq fun fs hr => retN X hx hret (Or.inl rfl) hd (by
    have : nar .boolean z = z := by rcases hz with rfl | rfl <;> decide
    rw [this]; exact hr)
theorem own_retRW {t : FieldType} {w : Value} (X : Stand p l e R (s.setVm vm1) m args below meth c T locs cells slots) (hx : p.tables.exec = Jvm.exec) {n : Nat} (hI : s.Since vm1 n) (hn : n ≤ h.size) (hlocks : meth.locks = false) (hret : meth.sig.returnType = some t) (ht : t.isReference = true) (hw : w.isRef = true) {pc : Nat} {Ls : Array Slot} {rest : List Value} (hd : decode c.code pc = .ok (.areturn, 1)) (hC : cells ≤ C) (hS : slots ≤ S) (eT : T.heap = h) (hq : Q (some w) h locs) :
    own_Go p e below (own_EndW s below Q C S) T (mkF m pc Ls (w :: rest)) :=
  own_outW X hI hn (fun q => by rw [hret] at q; cases q) hlocks hC hS eT hq fun fs hr => retOut X hx hret (by cases t <;> cases w <;> first | rfl | (cases ht; done) | (cases hw; done)) (Or.inr (Or.inr (Or.inr (Or.inr ⟨rfl, ht, hw⟩)))) hd hr
theorem own_retVW (X : Stand p l e R (s.setVm vm1) m args below meth c T locs cells slots) (hx : p.tables.exec = Jvm.exec) {n : Nat} (hI : s.Since vm1 n) (hn : n ≤ h.size) (hlocks : meth.locks = false) (hret : meth.sig.returnType = none) {pc : Nat} {Ls : Array Slot} (hd : decode c.code pc = .ok (.return_, 1)) (hC : cells ≤ C) (hS : slots ≤ S) (eT : T.heap = h) (hq : Q none h locs) :
    own_Go p e below (own_EndW s below Q C S) T (mkF m pc Ls []) :=
  own_outW X hI hn (fun _ => rfl) hlocks hC hS eT hq fun fs hr => X.returnOut hx hret hd hr
end Ret
section Call
variable {own : String} {index : Nat} {y : MethodName} {bytes : ByteArray} {ml : Nat} {rt : Option FieldType} {rm : Room} {Q : Option Value → Heap → List Loc → Prop} {g : JFrame} {argsL rest : List Value} {W : Nat} {vm0 : Vm} {k0 : Nat}
/-- a virtual call of a callee that may intern; the walk's base is s under the tables vm0 -/
theorem own_callVW {a : Addr} {C : String} (X : Stand p l e R (s.setVm vm0) m args below meth c T locs cells slots) (hI : s.Since vm0 k0) (hk : k0 ≤ h.size) (hx : p.tables.exec = Jvm.exec) (hZ : Z.Warmed39 (s.setVm vm0).vm) (hown : (s.setVm vm0).vm.findClass own = some m.cls) (E : Exa Z h a C) {y0 : MethodName}
    (w1 : (Jvm.Cond.methodLink own index y0).before a0 Z = true) (w2 : (Jvm.Cond.declares y0).before a0 Z = true) (w5 : (Jvm.Cond.selects C y0 y).before a0 Z = true) (nf : NotFace (s.setVm vm0) y0) (w6 : (Jvm.Cond.instanceMethod y).before a0 Z = true) (w3 : (Jvm.Cond.initialized y.cls).before a0 Z = true) (w4 : (Jvm.Cond.code y bytes ml rt).before a0 Z = true)
    (hy : y0.cls ≠ "java/lang/invoke/MethodHandle" ∧ y0.cls ≠ "java/lang/invoke/VarHandle") (ct : own_CtW l Z y bytes ml rt rm (.ref a :: argsL).toArray h Q) (eT : T.heap = h) (hg : g.method = m) (hsize : g.locals.size = c.maxLocals)
    (hlen : ∀ sig, parseMethodDescriptor y0.desc = some sig → argsL.length = sig.parameters.length) (hstack : g.stack = argsL.reverse ++ .ref a :: rest) (hW : 2 * g.monitorRoom + (rest.map fun v => v.category).sum ≤ W) (hdg : decode c.code g.pc = .ok (.invokevirtual index, 3))
    (hf : rm.frames + 1 ≤ R.frames) (hl : W + (ml + 11) + rm.locals ≤ R.locals) (hc : cells + rm.cells ≤ R.cells) (hs : slots + rm.slots ≤ R.slots) :
    ∃ v T' L, Stand p l e R (s.setVm T'.vm) m args below meth c T' (locs ++ L) (cells + rm.cells) (slots + rm.slots) ∧ s.Since T'.vm T'.heap.size ∧ Z.Warmed39 (s.setVm T'.vm).vm ∧ (s.setVm T'.vm).vm.findClass own = some m.cls ∧ Q v T'.heap L ∧ ∀ target, Steps p.tables e below (T'.setTop { g with pc := g.pc + 3, stack := v.toList ++ rest }) target → Steps p.tables e below (T.setTop g) target := by
  obtain ⟨cq, kq, qa, qb, qc⟩ := isOf hZ eT E
  obtain ⟨v, vm1, ⟨T1, L1, k1, n1⟩, -, X1, hI1, hg1, ⟨L, hQ, h1, h2, h3⟩, st⟩ := X.virtualBackS hx (y := y0) (z := y) hown (mvT hZ w1) (mvT hZ w2) nf (mvT hZ w5) (mvT hZ w6) hy (backOfS (W := W) ct hZ w4 w3 hf hl) qa qc hg hsize (Steps.refl _) hlen hstack hW hdg (fun _ _ => ⟨rfl, eT, hc, hs⟩)
  dsimp only [Pt.U, Pt.locs, Pt.cells, Pt.slots] at X1 h1 h2 h3 hQ st hI1 hg1
  subst h1 h2 h3
  obtain ⟨r1, r2, r3, r4⟩ := rebS hI (by rw [← eT] at hk; exact hk) X1 hI1 hg1 hZ hown
  exact ⟨v, T1, L, r1, r2, r3, r4, hQ, fun t k => st.trans k⟩
/-- a static call of a callee that may intern -/
theorem own_callSW (X : Stand p l e R (s.setVm vm0) m args below meth c T locs cells slots) (hI : s.Since vm0 k0) (hk : k0 ≤ h.size) (hx : p.tables.exec = Jvm.exec) (hZ : Z.Warmed39 (s.setVm vm0).vm) (hown : (s.setVm vm0).vm.findClass own = some m.cls)
    (w1 : (Jvm.Cond.methodLink own index y).before a0 Z = true) (w2 : (Jvm.Cond.static y).before a0 Z = true) (w3 : (Jvm.Cond.initialized y.cls).before a0 Z = true) (w4 : (Jvm.Cond.code y bytes ml rt).before a0 Z = true)
    (hy : y.cls ≠ "java/lang/invoke/MethodHandle" ∧ y.cls ≠ "java/lang/invoke/VarHandle") (ct : own_CtW l Z y bytes ml rt rm argsL.toArray h Q) (eT : T.heap = h) (hg : g.method = m) (hsize : g.locals.size = c.maxLocals)
    (hlen : ∀ sig, parseMethodDescriptor y.desc = some sig → argsL.length = sig.parameters.length) (hstack : g.stack = argsL.reverse ++ rest) (hW : 2 * g.monitorRoom + (rest.map fun v => v.category).sum ≤ W) (hdg : decode c.code g.pc = .ok (.invokestatic index, 3))
    (hf : rm.frames + 1 ≤ R.frames) (hl : W + (ml + 11) + rm.locals ≤ R.locals) (hc : cells + rm.cells ≤ R.cells) (hs : slots + rm.slots ≤ R.slots) :
    ∃ v T' L, Stand p l e R (s.setVm T'.vm) m args below meth c T' (locs ++ L) (cells + rm.cells) (slots + rm.slots) ∧ s.Since T'.vm T'.heap.size ∧ Z.Warmed39 (s.setVm T'.vm).vm ∧ (s.setVm T'.vm).vm.findClass own = some m.cls ∧ Q v T'.heap L ∧ ∀ target, Steps p.tables e below (T'.setTop { g with pc := g.pc + 3, stack := v.toList ++ rest }) target → Steps p.tables e below (T.setTop g) target := by
  obtain ⟨v, vm1, ⟨T1, L1, k1, n1⟩, -, X1, hI1, hg1, ⟨L, hQ, h1, h2, h3⟩, st⟩ := callSS X hx hown (mvT hZ w1) (mvT hZ w2) (mvT hZ w3) (mvT hZ w4) hy (backOfS (W := W) ct hZ w4 w3 hf hl) hg hsize hlen hstack hW hdg (fun _ _ => ⟨rfl, eT, hc, hs⟩)
  dsimp only [Pt.U, Pt.locs, Pt.cells, Pt.slots] at X1 h1 h2 h3 hQ st hI1 hg1
  subst h1 h2 h3
  obtain ⟨r1, r2, r3, r4⟩ := rebS hI (by rw [← eT] at hk; exact hk) X1 hI1 hg1 hZ hown
  exact ⟨v, T1, L, r1, r2, r3, r4, hQ, fun t k => st.trans k⟩
/-- a constructor that may intern -/
theorem own_callIW {a : Addr} (X : Stand p l e R (s.setVm vm0) m args below meth c T locs cells slots) (hI : s.Since vm0 k0) (hk : k0 ≤ h.size) (hx : p.tables.exec = Jvm.exec) (hZ : Z.Warmed39 (s.setVm vm0).vm) (hown : (s.setVm vm0).vm.findClass own = some m.cls) (hy1 : y.name = "<init>")
    (w1 : (Jvm.Cond.methodLink own index y).before a0 Z = true) (w2 : (Jvm.Cond.instanceMethod y).before a0 Z = true) (w3 : (Jvm.Cond.initialized y.cls).before a0 Z = true) (w4 : (Jvm.Cond.code y bytes ml none).before a0 Z = true)
    (hy : y.cls ≠ "java/lang/invoke/MethodHandle" ∧ y.cls ≠ "java/lang/invoke/VarHandle") (ct : own_CtW l Z y bytes ml none rm (.ref a :: argsL).toArray h Q) (eT : T.heap = h) (hg : g.method = m) (hsize : g.locals.size = c.maxLocals)
    (hlen : ∀ sig, parseMethodDescriptor y.desc = some sig → argsL.length = sig.parameters.length) (hstack : g.stack = argsL.reverse ++ .ref a :: rest) (hW : 2 * g.monitorRoom + (rest.map fun v => v.category).sum ≤ W) (hdg : decode c.code g.pc = .ok (.invokespecial index, 3))
    (hf : rm.frames + 1 ≤ R.frames) (hl : W + (ml + 11) + rm.locals ≤ R.locals) (hc : cells + rm.cells ≤ R.cells) (hs : slots + rm.slots ≤ R.slots) :
    ∃ v T' L, Stand p l e R (s.setVm T'.vm) m args below meth c T' (locs ++ L) (cells + rm.cells) (slots + rm.slots) ∧ s.Since T'.vm T'.heap.size ∧ Z.Warmed39 (s.setVm T'.vm).vm ∧ (s.setVm T'.vm).vm.findClass own = some m.cls ∧ Q v T'.heap L ∧ ∀ target, Steps p.tables e below (T'.setTop { g with pc := g.pc + 3, stack := v.toList ++ rest }) target → Steps p.tables e below (T.setTop g) target := by
  obtain ⟨v, vm1, ⟨T1, L1, k1, n1⟩, -, X1, hI1, hg1, ⟨L, hQ, h1, h2, h3⟩, st⟩ := X.specialBackS hx hy1 hown (mvT hZ w1) (mvT hZ w2) (mvT hZ w4) hy (backOfS (W := W) ct hZ w4 w3 hf hl) hg hsize (Steps.refl _) hlen hstack hW hdg (fun _ _ => ⟨rfl, eT, hc, hs⟩)
  dsimp only [Pt.U, Pt.locs, Pt.cells, Pt.slots] at X1 h1 h2 h3 hQ st hI1 hg1
  subst h1 h2 h3
  obtain ⟨r1, r2, r3, r4⟩ := rebS hI (by rw [← eT] at hk; exact hk) X1 hI1 hg1 hZ hown
  exact ⟨v, T1, L, r1, r2, r3, r4, hQ, fun t k => st.trans k⟩
end Call
end OwnW
end Jvm.RoadKit
namespace Jvm.RoadKit
open Sem ClassFile Op Lib Jvm.Stand Jvm.Free Jvm.LawKit
section OwnJ
variable {p : Program} {l : Launch} {e : Env} {R : Room} {s : State} {m : MethodId} {args : Array Value} {below : List Frame} {meth : Method} {c : Code} {T T' : State} {locs : List Loc} {cells slots : Nat} {Z : State} {a0 : Array Value} {h h' : Heap}
/-- as own_EndW; Q speaks of the tables besides -/
def own_EndJ (s : State) (below : List Frame) (Q : Option Value → Heap → Vm → List Loc → Prop) (C S : Nat) : State → Outcome → Prop := fun t o =>
  t.status = .running ∧ Ended t below o ∧ ∃ v L, o = .returned v ∧ Q v t.heap t.vm L ∧ ReturnedEndW s o t L C S
theorem own_bodyJ {y : MethodName} {bytes : ByteArray} {ml : Nat} {rt : Option FieldType} {rm : Room} {as' : Array Value} {h0 : Heap} {J : Vm → Prop} {Q : Option Value → Heap → Vm → List Loc → Prop} {C S : Nat} {ws : List Jvm.Cond} (hp : plainFor y = true)
    (H : ∀ p e s m below meth c s₁, BodyLoose p l y (head1 (Jvm.Cond.code y bytes ml rt :: ws) rm) bytes ml rt e s m as' below meth c s₁ → c.maxLocals = ml → Z.Warmed39 s.vm → s₁.heap = h0 → s.heap = h0 → J s.vm → own_Go p e below (own_EndJ s below Q C S) s₁ (entryFrame m as' ml)) :
    MetFree l y (head1 (Jvm.Cond.code y bytes ml rt :: ws) rm) (fun a U => a = as' ∧ Z.Warmed39 U.vm ∧ U.heap = h0 ∧ J U.vm) (fun _ _ _ _ _ => True) (fun _ U o U' => ∃ v L, o = .returned v ∧ Q v U'.heap U'.vm L ∧ ReturnedEndW U o U' L C S) := by
  refine MetFree.of_bodySF hp hisR ?_
  intro p e s m args below meth c s₁ Bd hml hP hK
  obtain ⟨rfl, hZ, hh, hJ⟩ := hP
  have e0 : s₁.heap = h0 := by rw [← hh, Bd.state]; rfl
  obtain ⟨t, o, h1, h2, h3, h4⟩ := H p e s m below meth c s₁ Bd hml hZ e0 hh hJ
  exact ⟨t, o, h1, h2, h3, h4⟩
abbrev own_CtJ (l : Launch) (Z : State) (y : MethodName) (bytes : ByteArray) (ml : Nat) (rt : Option FieldType) (rm : Room) (as' : Array Value) (h0 : Heap) (J : Vm → Prop) (Q : Option Value → Heap → Vm → List Loc → Prop) : Prop :=
  MetFree l y (head1 [Jvm.Cond.code y bytes ml rt] rm) (fun a U => a = as' ∧ Z.Warmed39 U.vm ∧ U.heap = h0 ∧ J U.vm) (fun _ _ _ _ _ => True) (fun _ U o U' => ∃ v L, o = .returned v ∧ Q v U'.heap U'.vm L ∧ ReturnedEndW U o U' L rm.cells rm.slots)
section Ret
variable {Q : Option Value → Heap → Vm → List Loc → Prop} {C S : Nat} {vm1 : Vm}
theorem own_outJ {v : Option Value} {f : JFrame} (X : Stand p l e R (s.setVm vm1) m args below meth c T locs cells slots) {n : Nat} (hI : s.Since vm1 n) (hn : n ≤ h.size) (hv : meth.sig.returnType = none → v = none) (hlocks : meth.locks = false) (hC : cells ≤ C) (hS : slots ≤ S) (eT : T.heap = h) (hq : Q v h T.vm locs)
    (go : ∀ fs, (∀ (f : JFrame) (acts : List Action), f.method = m → f.locked = none → f.entered = [] → (doReturn e (T.setTop f) acts v).1 = T.setFrames fs) → Steps p.tables e below (T.setTop f) (T.setFrames fs)) :
    own_Go p e below (own_EndJ s below Q C S) T f := by
  obtain ⟨fs, hr, hrun, hended, h1, h2, h3, h4⟩ := X.leaveW hI (by rw [eT]; exact hn) (v := v) hv hlocks
  refine ⟨_, _, go fs hr, hrun, hended, _, _, rfl, ?_, h1, h2, h3, h4.mono hC hS⟩
  show Q v T.heap T.vm locs
  rw [eT]; exact hq
theorem own_retZJ (X : Stand p l e R (s.setVm vm1) m args below meth c T locs cells slots) (hx : p.tables.exec = Jvm.exec) {n : Nat} (hI : s.Since vm1 n) (hn : n ≤ h.size) (hlocks : meth.locks = false) (hret : meth.sig.returnType = some .boolean) {pc : Nat} {Ls : Array Slot} {z : Int32} {rest : List Value} (hd : decode c.code pc = .ok (.ireturn, 1)) (hz : z = 0 ∨ z = 1) (hC : cells ≤ C) (hS : slots ≤ S) (eT : T.heap = h) (hq : Q (some (.int z)) h T.vm locs) :
    own_Go p e below (own_EndJ s below Q C S) T (mkF m pc Ls (.int z :: rest)) :=
  own_outJ X hI hn (fun q => by rw [hret] at q; cases q) hlocks hC hS eT hq fun fs hr => retN X hx hret (Or.inl rfl) hd (by
    have : nar .boolean z = z := by rcases hz with rfl | rfl <;> decide
    rw [this]; exact hr)
theorem own_retRJ {t : FieldType} {w : Value} (X : Stand p l e R (s.setVm vm1) m args below meth c T locs cells slots) (hx : p.tables.exec = Jvm.exec) {n : Nat} (hI : s.Since vm1 n) (hn : n ≤ h.size) (hlocks : meth.locks = false) (hret : meth.sig.returnType = some t) (ht : t.isReference = true) (hw : w.isRef = true) {pc : Nat} {Ls : Array Slot} {rest : List Value} (hd : decode c.code pc = .ok (.areturn, 1)) (hC : cells ≤ C) (hS : slots ≤ S) (eT : T.heap = h) (hq : Q (some w) h T.vm locs) :
    own_Go p e below (own_EndJ s below Q C S) T (mkF m pc Ls (w :: rest)) :=
  own_outJ X hI hn (fun q => by rw [hret] at q; cases q) hlocks hC hS eT hq fun fs hr => retOut X hx hret (by cases t <;> cases w <;> first | rfl | (cases ht; done) | (cases hw; done)) (Or.inr (Or.inr (Or.inr (Or.inr ⟨rfl, ht, hw⟩)))) hd hr
theorem own_retVJ (X : Stand p l e R (s.setVm vm1) m args below meth c T locs cells slots) (hx : p.tables.exec = Jvm.exec) {n : Nat} (hI : s.Since vm1 n) (hn : n ≤ h.size) (hlocks : meth.locks = false) (hret : meth.sig.returnType = none) {pc : Nat} {Ls : Array Slot} (hd : decode c.code pc = .ok (.return_, 1)) (hC : cells ≤ C) (hS : slots ≤ S) (eT : T.heap = h) (hq : Q none h T.vm locs) :
    own_Go p e below (own_EndJ s below Q C S) T (mkF m pc Ls []) :=
  own_outJ X hI hn (fun _ => rfl) hlocks hC hS eT hq fun fs hr => X.returnOut hx hret hd hr
end Ret
theorem own_backJ {y : MethodName} {bytes : ByteArray} {ml : Nat} {rt : Option FieldType} {rm : Room} {len W : Nat} {as' : Array Value} {J : Vm → Prop} {Q : Option Value → Heap → Vm → List Loc → Prop}
    (hM : own_CtJ l Z y bytes ml rt rm as' h J Q) (hZ : Z.Warmed39 s.vm) (wc : (Jvm.Cond.code y bytes ml rt).before a0 Z = true) (wz : (Jvm.Cond.initialized y.cls).before a0 Z = true) (hf : rm.frames + 1 ≤ R.frames) (hl : W + (ml + 11) + rm.locals ≤ R.locals) :
    BackS l R p e below s args y len W (fun A a => a = as' ∧ A.U.heap = h ∧ J A.U.vm ∧ A.cells + rm.cells ≤ R.cells ∧ A.slots + rm.slots ≤ R.slots)
      (fun A _ v B => ∃ L, Q v B.U.heap B.U.vm L ∧ B.locs = A.locs ++ L ∧ B.cells = A.cells + rm.cells ∧ B.slots = A.slots + rm.slots) := by
  refine BackS.of_freeW (bytes := bytes) (maxL := ml) (ret := rt) (E := fun _ _ o t L k n => k = rm.cells ∧ n = rm.slots ∧ ∃ v, o = .returned v ∧ Q v t.heap t.vm L) hM hf hl ?_ ?_ ?_ ?_ ?_
  · intro m meth c A a Y hp
    have hU : Z.Warmed39 A.U.vm := wtrans hZ Y.warmed
    refine ⟨?_, mv hU wc, mv hU wz, hp.2.2.2.1, hp.2.2.2.2⟩
    show (Jvm.Cond.and _ .tt).before a A.U = true
    rw [Jvm.Cond.before_and, mv hU wc]; rfl
  · intro m meth c A a g mk Y hp
    exact ⟨hp.1, wtrans hZ Y.warmed, hp.2.1, hp.2.2.1⟩
  · intro _ _ _ _ _ _ _ _ _; trivial
  · rintro _ _ _ _ ⟨v, L, h1, h2, h3⟩
    exact ⟨L, _, _, h3, rfl, rfl, v, h1, h2⟩
  · intro m meth c A a g mk v t L k n Y hp _ _ q
    obtain ⟨e1, e2, v', e3, e4⟩ := q
    cases e3; subst e1 e2
    exact ⟨L, e4, rfl, rfl, rfl⟩
section Call
variable {own : String} {index : Nat} {y : MethodName} {bytes : ByteArray} {ml : Nat} {rt : Option FieldType} {rm : Room} {J : Vm → Prop} {Q : Option Value → Heap → Vm → List Loc → Prop} {g : JFrame} {argsL rest : List Value} {W : Nat} {vm0 : Vm} {k0 : Nat}
theorem own_callIJ {a : Addr} (X : Stand p l e R (s.setVm vm0) m args below meth c T locs cells slots) (hI : s.Since vm0 k0) (hk : k0 ≤ h.size) (hx : p.tables.exec = Jvm.exec) (hZ : Z.Warmed39 (s.setVm vm0).vm) (hown : (s.setVm vm0).vm.findClass own = some m.cls) (hy1 : y.name = "<init>")
    (w1 : (Jvm.Cond.methodLink own index y).before a0 Z = true) (w2 : (Jvm.Cond.instanceMethod y).before a0 Z = true) (w3 : (Jvm.Cond.initialized y.cls).before a0 Z = true) (w4 : (Jvm.Cond.code y bytes ml none).before a0 Z = true)
    (hy : y.cls ≠ "java/lang/invoke/MethodHandle" ∧ y.cls ≠ "java/lang/invoke/VarHandle") (ct : own_CtJ l Z y bytes ml none rm (.ref a :: argsL).toArray h J Q) (eT : T.heap = h) (hg : g.method = m) (hsize : g.locals.size = c.maxLocals)
    (hlen : ∀ sig, parseMethodDescriptor y.desc = some sig → argsL.length = sig.parameters.length) (hstack : g.stack = argsL.reverse ++ .ref a :: rest) (hW : 2 * g.monitorRoom + (rest.map fun v => v.category).sum ≤ W) (hdg : decode c.code g.pc = .ok (.invokespecial index, 3))
    (hf : rm.frames + 1 ≤ R.frames) (hl : W + (ml + 11) + rm.locals ≤ R.locals) (hc : cells + rm.cells ≤ R.cells) (hs : slots + rm.slots ≤ R.slots) (hJ : ∀ vm1, (s.setVm vm0).WarmedH vm1 → J vm1) :
    ∃ v T' L, Stand p l e R (s.setVm T'.vm) m args below meth c T' (locs ++ L) (cells + rm.cells) (slots + rm.slots) ∧ s.Since T'.vm T'.heap.size ∧ Z.Warmed39 (s.setVm T'.vm).vm ∧ (s.setVm T'.vm).vm.findClass own = some m.cls ∧ Q v T'.heap T'.vm L ∧ ∀ target, Steps p.tables e below (T'.setTop { g with pc := g.pc + 3, stack := v.toList ++ rest }) target → Steps p.tables e below (T.setTop g) target := by
  obtain ⟨v, vm1, ⟨T1, L1, k1, n1⟩, -, X1, hI1, hg1, ⟨L, hQ, h1, h2, h3⟩, st⟩ := X.specialBackS hx hy1 hown (mvT hZ w1) (mvT hZ w2) (mvT hZ w4) hy (own_backJ (W := W) ct hZ w4 w3 hf hl) hg hsize (Steps.refl _) hlen hstack hW hdg (fun vm1 hv => ⟨rfl, eT, hJ vm1 hv, hc, hs⟩)
  dsimp only [Pt.U, Pt.locs, Pt.cells, Pt.slots] at X1 h1 h2 h3 hQ st hI1 hg1
  subst h1 h2 h3
  obtain ⟨r1, r2, r3, r4⟩ := rebS hI (by rw [← eT] at hk; exact hk) X1 hI1 hg1 hZ hown
  exact ⟨v, T1, L, r1, r2, r3, r4, hQ, fun t k => st.trans k⟩
theorem own_callSJ (X : Stand p l e R (s.setVm vm0) m args below meth c T locs cells slots) (hI : s.Since vm0 k0) (hk : k0 ≤ h.size) (hx : p.tables.exec = Jvm.exec) (hZ : Z.Warmed39 (s.setVm vm0).vm) (hown : (s.setVm vm0).vm.findClass own = some m.cls) 
    (w1 : (Jvm.Cond.methodLink own index y).before a0 Z = true) (w2 : (Jvm.Cond.static y).before a0 Z = true) (w3 : (Jvm.Cond.initialized y.cls).before a0 Z = true) (w4 : (Jvm.Cond.code y bytes ml rt).before a0 Z = true)
    (hy : y.cls ≠ "java/lang/invoke/MethodHandle" ∧ y.cls ≠ "java/lang/invoke/VarHandle") (ct : own_CtJ l Z y bytes ml rt rm argsL.toArray h J Q) (eT : T.heap = h) (hg : g.method = m) (hsize : g.locals.size = c.maxLocals)
    (hlen : ∀ sig, parseMethodDescriptor y.desc = some sig → argsL.length = sig.parameters.length) (hstack : g.stack = argsL.reverse ++ rest) (hW : 2 * g.monitorRoom + (rest.map fun v => v.category).sum ≤ W) (hdg : decode c.code g.pc = .ok (.invokestatic index, 3))
    (hf : rm.frames + 1 ≤ R.frames) (hl : W + (ml + 11) + rm.locals ≤ R.locals) (hc : cells + rm.cells ≤ R.cells) (hs : slots + rm.slots ≤ R.slots) (hJ : ∀ vm1, (s.setVm vm0).WarmedH vm1 → J vm1) :
    ∃ v T' L, Stand p l e R (s.setVm T'.vm) m args below meth c T' (locs ++ L) (cells + rm.cells) (slots + rm.slots) ∧ s.Since T'.vm T'.heap.size ∧ Z.Warmed39 (s.setVm T'.vm).vm ∧ (s.setVm T'.vm).vm.findClass own = some m.cls ∧ Q v T'.heap T'.vm L ∧ ∀ target, Steps p.tables e below (T'.setTop { g with pc := g.pc + 3, stack := v.toList ++ rest }) target → Steps p.tables e below (T.setTop g) target := by
  obtain ⟨v, vm1, ⟨T1, L1, k1, n1⟩, -, X1, hI1, hg1, ⟨L, hQ, h1, h2, h3⟩, st⟩ := callSS X hx hown (mvT hZ w1) (mvT hZ w2) (mvT hZ w3) (mvT hZ w4) hy (own_backJ (W := W) ct hZ w4 w3 hf hl) hg hsize hlen hstack hW hdg (fun vm1 hv => ⟨rfl, eT, hJ vm1 hv, hc, hs⟩)
  dsimp only [Pt.U, Pt.locs, Pt.cells, Pt.slots] at X1 h1 h2 h3 hQ st hI1 hg1
  subst h1 h2 h3
  obtain ⟨r1, r2, r3, r4⟩ := rebS hI (by rw [← eT] at hk; exact hk) X1 hI1 hg1 hZ hown
  exact ⟨v, T1, L, r1, r2, r3, r4, hQ, fun t k => st.trans k⟩
end Call
end OwnJ
end Jvm.RoadKit
namespace Jvm.Pilot.@@N@@
open Jvm Jvm.ClassFile Sem Op Lib Jvm.Free Jvm.Stand Jvm.LawKit Jvm.RoadKit Bundle Jvm.Pilot.@@N@@.Jvm.D
theorem own_fld_fun {Z : State} {h : Heap} {a : Nat} {C n d : String} {v w : Value} (F : Fld Z h a C n d v) (G : Fld Z h a C n d w) : v = w := by
  obtain ⟨c1, cf, k, i, f, h1, h2, -, -, -, -, h7⟩ := F
  obtain ⟨c2, cf', k', i', f', g1, g2, -, -, -, -, g7⟩ := G
  cases h1.symm.trans g1
  cases h2.symm.trans g2
  exact Option.some.inj (h7.symm.trans g7)
theorem own_ne_arr {Z : State} {h : Heap} {a b : Nat} {C : String} {a0 : Array Value} {k n : Nat} {ty : FieldType} {f : Nat → Int32} (E : Exa Z h a C) (wi : (Jvm.Cond.instantiable C k).before a0 Z = true) (A : own_AI Z h b ty n f) : a ≠ b := by
  obtain ⟨cl, A1, -⟩ := A
  exact ne_arr E wi A1
theorem own_AI0 {Z : State} {h : Heap} {b : Nat} {k : ClassId} (A : Arv Z h b k .byte 0 [] (.int 0)) : own_AI Z h b .byte 0 (fun _ => 0) := by
  obtain ⟨cl, A1, -, S, -, -, -⟩ := A
  exact ⟨cl, A1, by rw [S]; decide, fun i hi => absurd hi (by omega), fun i hi => absurd hi (by omega)⟩
theorem own_lit_warm {s Z : State} {vm0 vm1 : Vm} {own : String} {index : Nat} {a : Nat} (L : Lit (s.setVm vm0) own index a) (hW : (s.setVm vm0).WarmedH vm1) : Lit (Z.setVm vm1) own index a := (L.stays hW.wide : Lit (s.setVm vm1) own index a)

def own_b (x : Int32) : Int32 := nar .byte x.toInt8.toInt32
theorem own_d6_0 : decode jdk_52_method_21_code 0 = .ok (.iconst 0, 1) := by decide +kernel
theorem own_d6_1 : decode jdk_52_method_21_code 1 = .ok (.istore 5, 2) := by decide +kernel
theorem own_d6_3 : decode jdk_52_method_21_code 3 = .ok (.iload 5, 2) := by decide +kernel
theorem own_d6_5 : decode jdk_52_method_21_code 5 = .ok (.iload 4, 2) := by decide +kernel
theorem own_d6_7 : decode jdk_52_method_21_code 7 = .ok (.if_icmp .ge 37, 3) := by decide +kernel
theorem own_d6_10 : decode jdk_52_method_21_code 10 = .ok (.aload_n 0, 1) := by decide +kernel
theorem own_d6_11 : decode jdk_52_method_21_code 11 = .ok (.iload_n 1, 1) := by decide +kernel
theorem own_d6_12 : decode jdk_52_method_21_code 12 = .ok (.caload, 1) := by decide +kernel
theorem own_d6_13 : decode jdk_52_method_21_code 13 = .ok (.istore 6, 2) := by decide +kernel
theorem own_d6_15 : decode jdk_52_method_21_code 15 = .ok (.iload 6, 2) := by decide +kernel
theorem own_d6_17 : decode jdk_52_method_21_code 17 = .ok (.sipush 255, 3) := by decide +kernel
theorem own_d6_20 : decode jdk_52_method_21_code 20 = .ok (.if_icmp .le 6, 3) := by decide +kernel
theorem own_d6_23 : decode jdk_52_method_21_code 23 = .ok (.iload 5, 2) := by decide +kernel
theorem own_d6_25 : decode jdk_52_method_21_code 25 = .ok (.ireturn, 1) := by decide +kernel
theorem own_d6_26 : decode jdk_52_method_21_code 26 = .ok (.aload_n 2, 1) := by decide +kernel
theorem own_d6_27 : decode jdk_52_method_21_code 27 = .ok (.iload_n 3, 1) := by decide +kernel
theorem own_d6_28 : decode jdk_52_method_21_code 28 = .ok (.iload 6, 2) := by decide +kernel
theorem own_d6_30 : decode jdk_52_method_21_code 30 = .ok (.i2b, 1) := by decide +kernel
theorem own_d6_31 : decode jdk_52_method_21_code 31 = .ok (.bastore, 1) := by decide +kernel
theorem own_d6_32 : decode jdk_52_method_21_code 32 = .ok (.iinc 1 1, 3) := by decide +kernel
theorem own_d6_35 : decode jdk_52_method_21_code 35 = .ok (.iinc 3 1, 3) := by decide +kernel
theorem own_d6_38 : decode jdk_52_method_21_code 38 = .ok (.iinc 5 1, 3) := by decide +kernel
theorem own_d6_41 : decode jdk_52_method_21_code 41 = .ok (.goto (-38), 3) := by decide +kernel
theorem own_d6_44 : decode jdk_52_method_21_code 44 = .ok (.iload 4, 2) := by decide +kernel
theorem own_d6_46 : decode jdk_52_method_21_code 46 = .ok (.ireturn, 1) := by decide +kernel
theorem own_cs_1 {P : Nat → Prop} (h0 : P 0) : ∀ i, i < 1 → P i := by
  intro i hi
  have : i = 0 := by omega
  rcases this with rfl <;> assumption
theorem own_pn0 : plainName "java/lang/StringUTF16" = true := by first | (simp [plainName, overriddenIn]; done) | decide +kernel
theorem own_efc5_1 (m : MethodId) (sr : Nat) (ds : Nat) : entryFrame m #[(.ref sr), (.int (0 : Int32)), (.ref ds), (.int (0 : Int32)), (.int (1 : Int32))] 7 = mkF m 0 #[rv sr, iv (0 : Int32), rv ds, iv (0 : Int32), iv (1 : Int32), .unset, .unset] [] := by first | (simp [entryFrame, mkF, argsToLocals, Value.category]; done) | rfl
set_option maxRecDepth 65536 in
set_option maxHeartbeats 40000000 in
theorem own_rmc5_1 (l : Launch) (Z : State) (a0 : Array Value) (hw : ∀ d ∈ tables_1, d.before a0 Z = true) (sr : Nat) (ds : Nat) (f gg : Nat → Int32) (h0 : Heap) (n0 : Nat) (Z0 : n0 ≤ h0.size) (A : own_AI Z h0 sr .char 1 f) (B : own_AI Z h0 ds .byte 1 gg) (g_ds : n0 ≤ ds) (nsd : sr ≠ ds) (hf : ∀ i, i < 1 → ¬ (255 : Int32) < f i) :
    own_Ct l Z (⟨"java/lang/StringUTF16", "compress", "([CI[BII)I"⟩ : MethodName) jdk_52_method_21_code 7 (some .int) ({ frames := 0, cells := 0, slots := 0, locals := 0 } : Room) #[(.ref sr), (.int (0 : Int32)), (.ref ds), (.int (0 : Int32)), (.int (1 : Int32))] h0 (fun v h L => v = some (.int (1 : Int32)) ∧ Fr n0 L ∧ Keep h0 h [ds] ∧ own_AI Z h ds .byte 1 (fun i => own_b (f i))) := by
  refine own_body (y := (⟨"java/lang/StringUTF16", "compress", "([CI[BII)I"⟩ : MethodName)) (Q := fun v h L => v = some (.int (1 : Int32)) ∧ Fr n0 L ∧ Keep h0 h [ds] ∧ own_AI Z h ds .byte 1 (fun i => own_b (f i))) (plainFor_of_name own_pn0) ?_
  intro p e s m below meth c s₁ Bd hml0 hZ e0
  have hx := Bd.exec
  have hby := Bd.bytes
  have hml : c.maxLocals = 7 := hml0
  have hown : s.vm.findClass "java/lang/StringUTF16" = some m.cls := findClass_of_methodNamed Bd.named
  have hnm := (name_of_methodNamed Bd.named Bd.method).1
  have X0 : Stand p l e ({ frames := 0, cells := 0, slots := 0, locals := 0 } : Room) s m #[(.ref sr), (.int (0 : Int32)), (.ref ds), (.int (0 : Int32)), (.int (1 : Int32))] below meth c s₁ [] 0 0 := Stand.of_body Bd
  have N0 := Fr.nil n0
  rw [own_efc5_1]
  have sg1 : own_V p e below s₁ (mkF m 3 #[rv sr, iv (0 : Int32), rv ds, iv (0 : Int32), iv (1 : Int32), iv (0 : Int32), .unset] []) (mkF m 0 #[rv sr, iv (0 : Int32), rv ds, iv (0 : Int32), iv (1 : Int32), .unset, .unset] []) := by
    intro t kt
    refine XS.iconst X0.here hx rfl (hb hby own_d6_0) ?_
    show own_S p e below s₁ m 1 #[rv sr, iv (0 : Int32), rv ds, iv (0 : Int32), iv (1 : Int32), .unset, .unset] [(.int (0 : Int32))] _
    refine XS.istore X0.here hx rfl (hb hby own_d6_1) rfl (l' := #[rv sr, iv (0 : Int32), rv ds, iv (0 : Int32), iv (1 : Int32), iv (0 : Int32), .unset]) rfl ?_
    show own_S p e below s₁ m 3 #[rv sr, iv (0 : Int32), rv ds, iv (0 : Int32), iv (1 : Int32), iv (0 : Int32), .unset] [] _
    exact kt
  refine own_st sg1 ?_
  have sg2 : own_V p e below s₁ (mkF m 20 #[rv sr, iv (0 : Int32), rv ds, iv (0 : Int32), iv (1 : Int32), iv (0 : Int32), iv (f 0)] [(.int (255 : Int32)), (.int (f 0))]) (mkF m 3 #[rv sr, iv (0 : Int32), rv ds, iv (0 : Int32), iv (1 : Int32), iv (0 : Int32), .unset] []) := by
    intro t kt
    refine XS.iload X0.here hx rfl (hb hby own_d6_3) rfl ?_
    show own_S p e below s₁ m 5 #[rv sr, iv (0 : Int32), rv ds, iv (0 : Int32), iv (1 : Int32), iv (0 : Int32), .unset] [(.int (0 : Int32))] _
    refine XS.iload X0.here hx rfl (hb hby own_d6_5) rfl ?_
    show own_S p e below s₁ m 7 #[rv sr, iv (0 : Int32), rv ds, iv (0 : Int32), iv (1 : Int32), iv (0 : Int32), .unset] [(.int (1 : Int32)), (.int (0 : Int32))] _
    refine XS.icmpNo X0.here hx rfl (hb hby own_d6_7) rfl (tlt (by decide : (0 : Int32) < (1 : Int32))).2.1 ?_
    show own_S p e below s₁ m 10 #[rv sr, iv (0 : Int32), rv ds, iv (0 : Int32), iv (1 : Int32), iv (0 : Int32), .unset] [] _
    refine XS.aloadN X0.here hx rfl (hb hby own_d6_10) rfl rfl ?_
    show own_S p e below s₁ m 11 #[rv sr, iv (0 : Int32), rv ds, iv (0 : Int32), iv (1 : Int32), iv (0 : Int32), .unset] [(.ref sr)] _
    refine XS.iloadN X0.here hx rfl (hb hby own_d6_11) rfl ?_
    show own_S p e below s₁ m 12 #[rv sr, iv (0 : Int32), rv ds, iv (0 : Int32), iv (1 : Int32), iv (0 : Int32), .unset] [(.int (0 : Int32)), (.ref sr)] _
    refine own_rdC X0 hx hZ e0 A (k := 0) (by decide) (by decide) (g := (mkF m 12 #[rv sr, iv (0 : Int32), rv ds, iv (0 : Int32), iv (1 : Int32), iv (0 : Int32), .unset] [(.int (0 : Int32)), (.ref sr)])) rfl rfl (hb hby own_d6_12) _ ?_
    show own_S p e below s₁ m 13 #[rv sr, iv (0 : Int32), rv ds, iv (0 : Int32), iv (1 : Int32), iv (0 : Int32), .unset] [(.int (f 0))] _
    refine XS.istore X0.here hx rfl (hb hby own_d6_13) rfl (l' := #[rv sr, iv (0 : Int32), rv ds, iv (0 : Int32), iv (1 : Int32), iv (0 : Int32), iv (f 0)]) rfl ?_
    show own_S p e below s₁ m 15 #[rv sr, iv (0 : Int32), rv ds, iv (0 : Int32), iv (1 : Int32), iv (0 : Int32), iv (f 0)] [] _
    refine XS.iload X0.here hx rfl (hb hby own_d6_15) rfl ?_
    show own_S p e below s₁ m 17 #[rv sr, iv (0 : Int32), rv ds, iv (0 : Int32), iv (1 : Int32), iv (0 : Int32), iv (f 0)] [(.int (f 0))] _
    refine XS.sipush X0.here hx rfl (hb hby own_d6_17) ?_
    show own_S p e below s₁ m 20 #[rv sr, iv (0 : Int32), rv ds, iv (0 : Int32), iv (1 : Int32), iv (0 : Int32), iv (f 0)] [(.int (255 : Int32)), (.int (f 0))] _
    exact kt
  refine own_st sg2 ?_
  have hc3 : ¬ (255 : Int32) < (f 0) := hf 0 (by decide)
  have sg4 : own_V p e below s₁ (mkF m 26 #[rv sr, iv (0 : Int32), rv ds, iv (0 : Int32), iv (1 : Int32), iv (0 : Int32), iv (f 0)] []) (mkF m 20 #[rv sr, iv (0 : Int32), rv ds, iv (0 : Int32), iv (1 : Int32), iv (0 : Int32), iv (f 0)] [(.int (255 : Int32)), (.int (f 0))]) := by
    intro t kt
    refine XS.icmpYes X0.here hx rfl (pc0 := 20) (pc' := 26) rfl (hb hby own_d6_20) rfl (flt hc3).2.2.2 (by decide) (by decide) ?_
    exact kt
  refine own_st sg4 ?_
  have sg5 : own_V p e below s₁ (mkF m 31 #[rv sr, iv (0 : Int32), rv ds, iv (0 : Int32), iv (1 : Int32), iv (0 : Int32), iv (f 0)] [(.int (f 0).toInt8.toInt32), (.int (0 : Int32)), (.ref ds)]) (mkF m 26 #[rv sr, iv (0 : Int32), rv ds, iv (0 : Int32), iv (1 : Int32), iv (0 : Int32), iv (f 0)] []) := by
    intro t kt
    refine XS.aloadN X0.here hx rfl (hb hby own_d6_26) rfl rfl ?_
    show own_S p e below s₁ m 27 #[rv sr, iv (0 : Int32), rv ds, iv (0 : Int32), iv (1 : Int32), iv (0 : Int32), iv (f 0)] [(.ref ds)] _
    refine XS.iloadN X0.here hx rfl (hb hby own_d6_27) rfl ?_
    show own_S p e below s₁ m 28 #[rv sr, iv (0 : Int32), rv ds, iv (0 : Int32), iv (1 : Int32), iv (0 : Int32), iv (f 0)] [(.int (0 : Int32)), (.ref ds)] _
    refine XS.iload X0.here hx rfl (hb hby own_d6_28) rfl ?_
    show own_S p e below s₁ m 30 #[rv sr, iv (0 : Int32), rv ds, iv (0 : Int32), iv (1 : Int32), iv (0 : Int32), iv (f 0)] [(.int (f 0)), (.int (0 : Int32)), (.ref ds)] _
    refine XS.i2b X0.here hx rfl (hb hby own_d6_30) rfl ?_
    show own_S p e below s₁ m 31 #[rv sr, iv (0 : Int32), rv ds, iv (0 : Int32), iv (1 : Int32), iv (0 : Int32), iv (f 0)] [(.int (f 0).toInt8.toInt32), (.int (0 : Int32)), (.ref ds)] _
    exact kt
  refine own_st sg5 ?_
  obtain ⟨T6, h6, X6, e6, W6, A6, st6⟩ := own_wrB X0 hx hZ e0 B (k := 0) (by decide) (by decide) (g := (mkF m 31 #[rv sr, iv (0 : Int32), rv ds, iv (0 : Int32), iv (1 : Int32), iv (0 : Int32), iv (f 0)] [(.int (f 0).toInt8.toInt32), (.int (0 : Int32)), (.ref ds)])) rfl rfl (hb hby own_d6_31)
  refine own_st st6 ?_
  have Z6 : n0 ≤ h6.size := by rw [Wr.size W6]; exact Z0
  have N6 := Fr.snoc X6 N0 g_ds
  show own_Go p e below _ T6 (mkF m 32 #[rv sr, iv (0 : Int32), rv ds, iv (0 : Int32), iv (1 : Int32), iv (0 : Int32), iv (f 0)] [])
  have A6x := A.other W6 nsd
  have K6 : Keep h0 h6 [ds] := (Keep.refl h0 [ds]).wr W6 (Or.inl (List.mem_of_getElem? (i := 0) rfl))
  have sg7 : own_V p e below T6 (mkF m 3 #[rv sr, iv ((0 : Int32) + (1 : Int32)), rv ds, iv ((0 : Int32) + (1 : Int32)), iv (1 : Int32), iv ((0 : Int32) + (1 : Int32)), iv (f 0)] []) (mkF m 32 #[rv sr, iv (0 : Int32), rv ds, iv (0 : Int32), iv (1 : Int32), iv (0 : Int32), iv (f 0)] []) := by
    intro t kt
    refine XS.iinc X6.here hx rfl (hb hby own_d6_32) rfl (l' := #[rv sr, iv ((0 : Int32) + (1 : Int32)), rv ds, iv (0 : Int32), iv (1 : Int32), iv (0 : Int32), iv (f 0)]) rfl ?_
    show own_S p e below T6 m 35 #[rv sr, iv ((0 : Int32) + (1 : Int32)), rv ds, iv (0 : Int32), iv (1 : Int32), iv (0 : Int32), iv (f 0)] [] _
    refine XS.iinc X6.here hx rfl (hb hby own_d6_35) rfl (l' := #[rv sr, iv ((0 : Int32) + (1 : Int32)), rv ds, iv ((0 : Int32) + (1 : Int32)), iv (1 : Int32), iv (0 : Int32), iv (f 0)]) rfl ?_
    show own_S p e below T6 m 38 #[rv sr, iv ((0 : Int32) + (1 : Int32)), rv ds, iv ((0 : Int32) + (1 : Int32)), iv (1 : Int32), iv (0 : Int32), iv (f 0)] [] _
    refine XS.iinc X6.here hx rfl (hb hby own_d6_38) rfl (l' := #[rv sr, iv ((0 : Int32) + (1 : Int32)), rv ds, iv ((0 : Int32) + (1 : Int32)), iv (1 : Int32), iv ((0 : Int32) + (1 : Int32)), iv (f 0)]) rfl ?_
    show own_S p e below T6 m 41 #[rv sr, iv ((0 : Int32) + (1 : Int32)), rv ds, iv ((0 : Int32) + (1 : Int32)), iv (1 : Int32), iv ((0 : Int32) + (1 : Int32)), iv (f 0)] [] _
    refine XS.goto X6.here hx rfl (pc0 := 41) (pc' := 3) rfl (hb hby own_d6_41) (by decide) (by decide) ?_
    show own_S p e below T6 m 3 #[rv sr, iv ((0 : Int32) + (1 : Int32)), rv ds, iv ((0 : Int32) + (1 : Int32)), iv (1 : Int32), iv ((0 : Int32) + (1 : Int32)), iv (f 0)] [] _
    exact kt
  refine own_st sg7 ?_
  have sg8 : own_V p e below T6 (mkF m 46 #[rv sr, iv ((0 : Int32) + (1 : Int32)), rv ds, iv ((0 : Int32) + (1 : Int32)), iv (1 : Int32), iv ((0 : Int32) + (1 : Int32)), iv (f 0)] [(.int (1 : Int32))]) (mkF m 3 #[rv sr, iv ((0 : Int32) + (1 : Int32)), rv ds, iv ((0 : Int32) + (1 : Int32)), iv (1 : Int32), iv ((0 : Int32) + (1 : Int32)), iv (f 0)] []) := by
    intro t kt
    refine XS.iload X6.here hx rfl (hb hby own_d6_3) rfl ?_
    show own_S p e below T6 m 5 #[rv sr, iv ((0 : Int32) + (1 : Int32)), rv ds, iv ((0 : Int32) + (1 : Int32)), iv (1 : Int32), iv ((0 : Int32) + (1 : Int32)), iv (f 0)] [(.int ((0 : Int32) + (1 : Int32)))] _
    refine XS.iload X6.here hx rfl (hb hby own_d6_5) rfl ?_
    show own_S p e below T6 m 7 #[rv sr, iv ((0 : Int32) + (1 : Int32)), rv ds, iv ((0 : Int32) + (1 : Int32)), iv (1 : Int32), iv ((0 : Int32) + (1 : Int32)), iv (f 0)] [(.int (1 : Int32)), (.int ((0 : Int32) + (1 : Int32)))] _
    refine XS.icmpYes X6.here hx rfl (pc0 := 7) (pc' := 44) rfl (hb hby own_d6_7) rfl (flt (by decide : ¬ ((0 : Int32) + (1 : Int32)) < (1 : Int32))).2.1 (by decide) (by decide) ?_
    show own_S p e below T6 m 44 #[rv sr, iv ((0 : Int32) + (1 : Int32)), rv ds, iv ((0 : Int32) + (1 : Int32)), iv (1 : Int32), iv ((0 : Int32) + (1 : Int32)), iv (f 0)] [] _
    refine XS.iload X6.here hx rfl (hb hby own_d6_44) rfl ?_
    show own_S p e below T6 m 46 #[rv sr, iv ((0 : Int32) + (1 : Int32)), rv ds, iv ((0 : Int32) + (1 : Int32)), iv (1 : Int32), iv ((0 : Int32) + (1 : Int32)), iv (f 0)] [(.int (1 : Int32))] _
    exact kt
  refine own_st sg8 ?_
  have BF : own_AI Z h6 ds .byte 1 (fun i => own_b (f i)) := A6.congr (own_cs_1 rfl)
  exact own_retI X6 hx Bd.notSynchronized Bd.returns (hb hby own_d6_46) (by decide) (by decide) e6 ⟨rfl, N6, K6, BF⟩
theorem own_d5_0 : decode jdk_52_method_16_code 0 = .ok (.iload_n 2, 1) := by decide +kernel
theorem own_d5_1 : decode jdk_52_method_16_code 1 = .ok (.newarray .byte, 2) := by decide +kernel
theorem own_d5_3 : decode jdk_52_method_16_code 3 = .ok (.astore_n 3, 1) := by decide +kernel
theorem own_d5_4 : decode jdk_52_method_16_code 4 = .ok (.aload_n 0, 1) := by decide +kernel
theorem own_d5_5 : decode jdk_52_method_16_code 5 = .ok (.iload_n 1, 1) := by decide +kernel
theorem own_d5_6 : decode jdk_52_method_16_code 6 = .ok (.aload_n 3, 1) := by decide +kernel
theorem own_d5_7 : decode jdk_52_method_16_code 7 = .ok (.iconst 0, 1) := by decide +kernel
theorem own_d5_8 : decode jdk_52_method_16_code 8 = .ok (.iload_n 2, 1) := by decide +kernel
theorem own_d5_9 : decode jdk_52_method_16_code 9 = .ok (.invokestatic 115, 3) := by decide +kernel
theorem own_d5_12 : decode jdk_52_method_16_code 12 = .ok (.istore 4, 2) := by decide +kernel
theorem own_d5_14 : decode jdk_52_method_16_code 14 = .ok (.iload 4, 2) := by decide +kernel
theorem own_d5_16 : decode jdk_52_method_16_code 16 = .ok (.iload_n 2, 1) := by decide +kernel
theorem own_d5_17 : decode jdk_52_method_16_code 17 = .ok (.if_icmp .eq 40, 3) := by decide +kernel
theorem own_d5_20 : decode jdk_52_method_16_code 20 = .ok (.aload_n 0, 1) := by decide +kernel
theorem own_d5_21 : decode jdk_52_method_16_code 21 = .ok (.iload_n 1, 1) := by decide +kernel
theorem own_d5_22 : decode jdk_52_method_16_code 22 = .ok (.iload_n 2, 1) := by decide +kernel
theorem own_d5_23 : decode jdk_52_method_16_code 23 = .ok (.invokestatic 119, 3) := by decide +kernel
theorem own_d5_26 : decode jdk_52_method_16_code 26 = .ok (.astore 5, 2) := by decide +kernel
theorem own_d5_28 : decode jdk_52_method_16_code 28 = .ok (.aload 5, 2) := by decide +kernel
theorem own_d5_30 : decode jdk_52_method_16_code 30 = .ok (.iload 4, 2) := by decide +kernel
theorem own_d5_32 : decode jdk_52_method_16_code 32 = .ok (.invokestatic 71, 3) := by decide +kernel
theorem own_d5_35 : decode jdk_52_method_16_code 35 = .ok (.sipush 255, 3) := by decide +kernel
theorem own_d5_38 : decode jdk_52_method_16_code 38 = .ok (.if_icmp .gt 16, 3) := by decide +kernel
theorem own_d5_41 : decode jdk_52_method_16_code 41 = .ok (.aload 5, 2) := by decide +kernel
theorem own_d5_43 : decode jdk_52_method_16_code 43 = .ok (.iconst 0, 1) := by decide +kernel
theorem own_d5_44 : decode jdk_52_method_16_code 44 = .ok (.aload_n 3, 1) := by decide +kernel
theorem own_d5_45 : decode jdk_52_method_16_code 45 = .ok (.iconst 0, 1) := by decide +kernel
theorem own_d5_46 : decode jdk_52_method_16_code 46 = .ok (.iload_n 2, 1) := by decide +kernel
theorem own_d5_47 : decode jdk_52_method_16_code 47 = .ok (.invokestatic 123, 3) := by decide +kernel
theorem own_d5_50 : decode jdk_52_method_16_code 50 = .ok (.iload_n 2, 1) := by decide +kernel
theorem own_d5_51 : decode jdk_52_method_16_code 51 = .ok (.if_icmp .eq 6, 3) := by decide +kernel
theorem own_d5_54 : decode jdk_52_method_16_code 54 = .ok (.aload 5, 2) := by decide +kernel
theorem own_d5_56 : decode jdk_52_method_16_code 56 = .ok (.areturn, 1) := by decide +kernel
theorem own_d5_57 : decode jdk_52_method_16_code 57 = .ok (.aload_n 3, 1) := by decide +kernel
theorem own_d5_58 : decode jdk_52_method_16_code 58 = .ok (.areturn, 1) := by decide +kernel
theorem own_pd0 : parseMethodDescriptor "([CI[BII)I" = some ⟨[(.array .char), .int, (.array .byte), .int, .int], some .int⟩ := by decide +kernel
theorem own_efc3_1 (m : MethodId) (sr : Nat) : entryFrame m #[(.ref sr), (.int (0 : Int32)), (.int (1 : Int32))] 6 = mkF m 0 #[rv sr, iv (0 : Int32), iv (1 : Int32), .unset, .unset, .unset] [] := by first | (simp [entryFrame, mkF, argsToLocals, Value.category]; done) | rfl
set_option maxRecDepth 65536 in
set_option maxHeartbeats 40000000 in
theorem own_rmc3_1 (l : Launch) (Z : State) (a0 : Array Value) (hw : ∀ d ∈ tables_1, d.before a0 Z = true) (sr : Nat) (f : Nat → Int32) (h0 : Heap) (n0 : Nat) (Z0 : n0 ≤ h0.size) (A : own_AI Z h0 sr .char 1 f) (hf : ∀ i, i < 1 → ¬ (255 : Int32) < f i) :
    own_Ct l Z (⟨"java/lang/StringUTF16", "compress", "([CII)[B"⟩ : MethodName) jdk_52_method_16_code 6 (some (.array .byte)) ({ frames := 1, cells := 1, slots := 1, locals := 18 } : Room) #[(.ref sr), (.int (0 : Int32)), (.int (1 : Int32))] h0 (fun v h L => ∃ b : Nat, v = some (.ref b) ∧ Fr n0 L ∧ Keep h0 h [] ∧ h0.size ≤ b ∧ own_AI Z h b .byte 1 (fun i => own_b (f i))) := by
  refine own_body (y := (⟨"java/lang/StringUTF16", "compress", "([CII)[B"⟩ : MethodName)) (Q := fun v h L => ∃ b : Nat, v = some (.ref b) ∧ Fr n0 L ∧ Keep h0 h [] ∧ h0.size ≤ b ∧ own_AI Z h b .byte 1 (fun i => own_b (f i))) (plainFor_of_name own_pn0) ?_
  intro p e s m below meth c s₁ Bd hml0 hZ e0
  have hx := Bd.exec
  have hby := Bd.bytes
  have hml : c.maxLocals = 6 := hml0
  have hown : s.vm.findClass "java/lang/StringUTF16" = some m.cls := findClass_of_methodNamed Bd.named
  have hnm := (name_of_methodNamed Bd.named Bd.method).1
  have X0 : Stand p l e ({ frames := 1, cells := 1, slots := 1, locals := 18 } : Room) s m #[(.ref sr), (.int (0 : Int32)), (.int (1 : Int32))] below meth c s₁ [] 0 0 := Stand.of_body Bd
  have N0 := Fr.nil n0
  rw [own_efc3_1]
  have sg1 : own_V p e below s₁ (mkF m 1 #[rv sr, iv (0 : Int32), iv (1 : Int32), .unset, .unset, .unset] [(.int (1 : Int32))]) (mkF m 0 #[rv sr, iv (0 : Int32), iv (1 : Int32), .unset, .unset, .unset] []) := by
    intro t kt
    refine XS.iloadN X0.here hx rfl (hb hby own_d5_0) rfl ?_
    show own_S p e below s₁ m 1 #[rv sr, iv (0 : Int32), iv (1 : Int32), .unset, .unset, .unset] [(.int (1 : Int32))] _
    exact kt
  refine own_st sg1 ?_
  obtain ⟨T2, h2, a2, g2, X2, e2, E2, A2, st2⟩ := own_newP (n := 1) X0 hx hZ (hw _ (List.mem_of_getElem? (i := 23) rfl)) e0 (by decide) rfl (g := (mkF m 1 #[rv sr, iv (0 : Int32), iv (1 : Int32), .unset, .unset, .unset] [(.int (1 : Int32))])) rfl rfl (hb hby own_d5_1) (cap := 1) (by decide) (by decide) (by decide) (by decide)
  refine own_st st2 ?_
  have g_a2 : n0 ≤ a2 := by rw [g2]; exact Z0
  have Z2 : n0 ≤ h2.size := Nat.le_trans Z0 E2.1
  have B2 : own_AI Z h2 a2 .byte 1 (fun _ => 0) := A2
  show own_Go p e below _ T2 (mkF m 3 #[rv sr, iv (0 : Int32), iv (1 : Int32), .unset, .unset, .unset] [(.ref a2)])
  have AX := A.ext E2
  have ne : sr ≠ a2 := Nat.ne_of_lt (by rw [g2]; exact A.lt)
  have sz : h0.size ≤ a2 := Nat.le_of_eq g2.symm
  have KE : Keep h0 h2 [] := (Keep.refl h0 []).ext E2
  have sg3 : own_V p e below T2 (mkF m 9 #[rv sr, iv (0 : Int32), iv (1 : Int32), rv a2, .unset, .unset] [(.int (1 : Int32)), (.int (0 : Int32)), (.ref a2), (.int (0 : Int32)), (.ref sr)]) (mkF m 3 #[rv sr, iv (0 : Int32), iv (1 : Int32), .unset, .unset, .unset] [(.ref a2)]) := by
    intro t kt
    refine XS.astoreN X2.here hx rfl (hb hby own_d5_3) rfl rfl (l' := #[rv sr, iv (0 : Int32), iv (1 : Int32), rv a2, .unset, .unset]) rfl ?_
    show own_S p e below T2 m 4 #[rv sr, iv (0 : Int32), iv (1 : Int32), rv a2, .unset, .unset] [] _
    refine XS.aloadN X2.here hx rfl (hb hby own_d5_4) rfl rfl ?_
    show own_S p e below T2 m 5 #[rv sr, iv (0 : Int32), iv (1 : Int32), rv a2, .unset, .unset] [(.ref sr)] _
    refine XS.iloadN X2.here hx rfl (hb hby own_d5_5) rfl ?_
    show own_S p e below T2 m 6 #[rv sr, iv (0 : Int32), iv (1 : Int32), rv a2, .unset, .unset] [(.int (0 : Int32)), (.ref sr)] _
    refine XS.aloadN X2.here hx rfl (hb hby own_d5_6) rfl rfl ?_
    show own_S p e below T2 m 7 #[rv sr, iv (0 : Int32), iv (1 : Int32), rv a2, .unset, .unset] [(.ref a2), (.int (0 : Int32)), (.ref sr)] _
    refine XS.iconst X2.here hx rfl (hb hby own_d5_7) ?_
    show own_S p e below T2 m 8 #[rv sr, iv (0 : Int32), iv (1 : Int32), rv a2, .unset, .unset] [(.int (0 : Int32)), (.ref a2), (.int (0 : Int32)), (.ref sr)] _
    refine XS.iloadN X2.here hx rfl (hb hby own_d5_8) rfl ?_
    show own_S p e below T2 m 9 #[rv sr, iv (0 : Int32), iv (1 : Int32), rv a2, .unset, .unset] [(.int (1 : Int32)), (.int (0 : Int32)), (.ref a2), (.int (0 : Int32)), (.ref sr)] _
    exact kt
  refine own_st sg3 ?_
  obtain ⟨_, T4, L4, X4, hQ4, st4⟩ := own_callS (y := (⟨"java/lang/StringUTF16", "compress", "([CI[BII)I"⟩ : MethodName)) X2 hx hZ hown (hw _ (List.mem_of_getElem? (i := 24) rfl)) (hw _ (List.mem_of_getElem? (i := 25) rfl)) (hw _ (List.mem_of_getElem? (i := 21) rfl)) (hw _ (List.mem_of_getElem? (i := 26) rfl)) (by decide) (own_rmc5_1 l Z a0 hw sr a2 f (fun _ => 0) h2 n0 Z2 AX B2 g_a2 ne hf) e2 (g := (mkF m 9 #[rv sr, iv (0 : Int32), iv (1 : Int32), rv a2, .unset, .unset] [(.int (1 : Int32)), (.int (0 : Int32)), (.ref a2), (.int (0 : Int32)), (.ref sr)])) rfl (by rw [hml]; rfl) (argsL := [(.ref sr), (.int (0 : Int32)), (.ref a2), (.int (0 : Int32)), (.int (1 : Int32))]) (rest := []) (lenOf own_pd0 rfl) rfl (W := 0) (by show 2 * 0 + _ ≤ _; exact Nat.le_of_eq rfl) (hb hby own_d5_9) (by decide) (by decide) (by decide) (by decide)
  obtain ⟨rfl, Nq4, K4, A4⟩ := hQ4
  refine own_st st4 ?_
  have Z4 : n0 ≤ T4.heap.size := Nat.le_trans Z2 K4.1
  have N4 := Fr.app N0 Nq4
  show own_Go p e below _ T4 (mkF m 12 #[rv sr, iv (0 : Int32), iv (1 : Int32), rv a2, .unset, .unset] [(.int (1 : Int32))])
  have sg5 : own_V p e below T4 (mkF m 58 #[rv sr, iv (0 : Int32), iv (1 : Int32), rv a2, iv (1 : Int32), .unset] [(.ref a2)]) (mkF m 12 #[rv sr, iv (0 : Int32), iv (1 : Int32), rv a2, .unset, .unset] [(.int (1 : Int32))]) := by
    intro t kt
    refine XS.istore X4.here hx rfl (hb hby own_d5_12) rfl (l' := #[rv sr, iv (0 : Int32), iv (1 : Int32), rv a2, iv (1 : Int32), .unset]) rfl ?_
    show own_S p e below T4 m 14 #[rv sr, iv (0 : Int32), iv (1 : Int32), rv a2, iv (1 : Int32), .unset] [] _
    refine XS.iload X4.here hx rfl (hb hby own_d5_14) rfl ?_
    show own_S p e below T4 m 16 #[rv sr, iv (0 : Int32), iv (1 : Int32), rv a2, iv (1 : Int32), .unset] [(.int (1 : Int32))] _
    refine XS.iloadN X4.here hx rfl (hb hby own_d5_16) rfl ?_
    show own_S p e below T4 m 17 #[rv sr, iv (0 : Int32), iv (1 : Int32), rv a2, iv (1 : Int32), .unset] [(.int (1 : Int32)), (.int (1 : Int32))] _
    refine XS.icmpYes X4.here hx rfl (pc0 := 17) (pc' := 57) rfl (hb hby own_d5_17) rfl (teq (by decide : (1 : Int32) = (1 : Int32))).1 (by decide) (by decide) ?_
    show own_S p e below T4 m 57 #[rv sr, iv (0 : Int32), iv (1 : Int32), rv a2, iv (1 : Int32), .unset] [] _
    refine XS.aloadN X4.here hx rfl (hb hby own_d5_57) rfl rfl ?_
    show own_S p e below T4 m 58 #[rv sr, iv (0 : Int32), iv (1 : Int32), rv a2, iv (1 : Int32), .unset] [(.ref a2)] _
    exact kt
  refine own_st sg5 ?_
  exact own_retR X4 hx Bd.notSynchronized Bd.returns rfl rfl (hb hby own_d5_58) (by decide) (by decide) rfl ⟨a2, rfl, N4, KE.trans K4 (allS (Or.inr sz) all0), sz, A4⟩
theorem own_d7_0 : decode jdk_52_method_15_code 0 = .ok (.iload_n 1, 1) := by decide +kernel
theorem own_d7_1 : decode jdk_52_method_15_code 1 = .ok (.aload_n 0, 1) := by decide +kernel
theorem own_d7_2 : decode jdk_52_method_15_code 2 = .ok (.arraylength, 1) := by decide +kernel
theorem own_d7_3 : decode jdk_52_method_15_code 3 = .ok (.isub, 1) := by decide +kernel
theorem own_d7_4 : decode jdk_52_method_15_code 4 = .ok (.bipush 31, 2) := by decide +kernel
theorem own_d7_6 : decode jdk_52_method_15_code 6 = .ok (.iushr, 1) := by decide +kernel
theorem own_d7_7 : decode jdk_52_method_15_code 7 = .ok (.i2b, 1) := by decide +kernel
theorem own_d7_8 : decode jdk_52_method_15_code 8 = .ok (.ireturn, 1) := by decide +kernel
theorem own_efcf_1 (m : MethodId) (b : Nat) : entryFrame m #[(.ref b), (.int (1 : Int32))] 2 = mkF m 0 #[rv b, iv (1 : Int32)] [] := by first | (simp [entryFrame, mkF, argsToLocals, Value.category]; done) | rfl
set_option maxRecDepth 65536 in
set_option maxHeartbeats 40000000 in
theorem own_rmcf_1 (l : Launch) (Z : State) (a0 : Array Value) (hw : ∀ d ∈ tables_1, d.before a0 Z = true) (b : Nat) (f : Nat → Int32) (h0 : Heap) (n0 : Nat) (Z0 : n0 ≤ h0.size) (A : own_AI Z h0 b .byte 1 f) :
    own_Ct l Z (⟨"java/lang/StringUTF16", "coderFromArrayLen", "([BI)B"⟩ : MethodName) jdk_52_method_15_code 2 (some .byte) ({ frames := 0, cells := 0, slots := 0, locals := 0 } : Room) #[(.ref b), (.int (1 : Int32))] h0 (fun v h L => v = some (.int 0) ∧ Fr n0 L ∧ h = h0) := by
  refine own_body (y := (⟨"java/lang/StringUTF16", "coderFromArrayLen", "([BI)B"⟩ : MethodName)) (Q := fun v h L => v = some (.int 0) ∧ Fr n0 L ∧ h = h0) (plainFor_of_name own_pn0) ?_
  intro p e s m below meth c s₁ Bd hml0 hZ e0
  have hx := Bd.exec
  have hby := Bd.bytes
  have hml : c.maxLocals = 2 := hml0
  have hown : s.vm.findClass "java/lang/StringUTF16" = some m.cls := findClass_of_methodNamed Bd.named
  have hnm := (name_of_methodNamed Bd.named Bd.method).1
  have X0 : Stand p l e ({ frames := 0, cells := 0, slots := 0, locals := 0 } : Room) s m #[(.ref b), (.int (1 : Int32))] below meth c s₁ [] 0 0 := Stand.of_body Bd
  have N0 := Fr.nil n0
  rw [own_efcf_1]
  obtain ⟨rr, hrr⟩ : ∃ z : Int32, z = ((((1 : Int32) - (1 : Int32)).toUInt32 >>> ((31 : Int32) &&& 31).toUInt32).toInt32).toInt8.toInt32 := ⟨_, rfl⟩
  have sg1 : own_V p e below s₁ (mkF m 8 #[rv b, iv (1 : Int32)] [(.int rr)]) (mkF m 0 #[rv b, iv (1 : Int32)] []) := by
    intro t kt
    refine XS.iloadN X0.here hx rfl (hb hby own_d7_0) rfl ?_
    show own_S p e below s₁ m 1 #[rv b, iv (1 : Int32)] [(.int (1 : Int32))] _
    refine XS.aloadN X0.here hx rfl (hb hby own_d7_1) rfl rfl ?_
    show own_S p e below s₁ m 2 #[rv b, iv (1 : Int32)] [(.ref b), (.int (1 : Int32))] _
    refine own_len (z := (1 : Int32)) X0 hx hZ e0 A (by decide) (g := (mkF m 2 #[rv b, iv (1 : Int32)] [(.ref b), (.int (1 : Int32))])) rfl rfl (hb hby own_d7_2) _ ?_
    show own_S p e below s₁ m 3 #[rv b, iv (1 : Int32)] [(.int (1 : Int32)), (.int (1 : Int32))] _
    refine XS.isub X0.here hx rfl (hb hby own_d7_3) rfl ?_
    show own_S p e below s₁ m 4 #[rv b, iv (1 : Int32)] [(.int ((1 : Int32) - (1 : Int32)))] _
    refine XS.bipush X0.here hx rfl (hb hby own_d7_4) ?_
    show own_S p e below s₁ m 6 #[rv b, iv (1 : Int32)] [(.int (31 : Int32)), (.int ((1 : Int32) - (1 : Int32)))] _
    refine XS.iushr X0.here hx rfl (hb hby own_d7_6) rfl ?_
    show own_S p e below s₁ m 7 #[rv b, iv (1 : Int32)] [(.int ((((1 : Int32) - (1 : Int32)).toUInt32 >>> ((31 : Int32) &&& 31).toUInt32).toInt32))] _
    refine XS.i2b X0.here hx rfl (hb hby own_d7_7) rfl ?_
    show own_S p e below s₁ m 8 #[rv b, iv (1 : Int32)] [(.int ((((1 : Int32) - (1 : Int32)).toUInt32 >>> ((31 : Int32) &&& 31).toUInt32).toInt32).toInt8.toInt32)] _
    rw [hrr] at kt
    exact kt
  refine own_st sg1 ?_
  have hr0 : rr = 0 := by rw [hrr]; decide
  rw [hr0]
  show own_Go p e below _ s₁ (mkF m 8 #[rv b, iv (1 : Int32)] [(.int (0 : Int32))])
  exact own_retB X0 hx Bd.notSynchronized Bd.returns (hb hby own_d7_8) (by decide) (by decide) (by decide) e0 ⟨rfl, N0, rfl⟩
theorem own_d3_0 : decode jdk_42_method_149_code 0 = .ok (.aload_n 0, 1) := by decide +kernel
theorem own_d3_1 : decode jdk_42_method_149_code 1 = .ok (.invokespecial 1, 3) := by decide +kernel
theorem own_d3_4 : decode jdk_42_method_149_code 4 = .ok (.iload_n 3, 1) := by decide +kernel
theorem own_d3_5 : decode jdk_42_method_149_code 5 = .ok (.ifCond .ne 22, 3) := by decide +kernel
theorem own_d3_8 : decode jdk_42_method_149_code 8 = .ok (.aload_n 0, 1) := by decide +kernel
theorem own_d3_9 : decode jdk_42_method_149_code 9 = .ok (.ldc 7, 2) := by decide +kernel
theorem own_d3_11 : decode jdk_42_method_149_code 11 = .ok (.getfield 9, 3) := by decide +kernel
theorem own_d3_14 : decode jdk_42_method_149_code 14 = .ok (.putfield 9, 3) := by decide +kernel
theorem own_d3_17 : decode jdk_42_method_149_code 17 = .ok (.aload_n 0, 1) := by decide +kernel
theorem own_d3_18 : decode jdk_42_method_149_code 18 = .ok (.ldc 7, 2) := by decide +kernel
theorem own_d3_20 : decode jdk_42_method_149_code 20 = .ok (.getfield 15, 3) := by decide +kernel
theorem own_d3_23 : decode jdk_42_method_149_code 23 = .ok (.putfield 15, 3) := by decide +kernel
theorem own_d3_26 : decode jdk_42_method_149_code 26 = .ok (.return_, 1) := by decide +kernel
theorem own_d3_27 : decode jdk_42_method_149_code 27 = .ok (.getstatic 38, 3) := by decide +kernel
theorem own_d3_30 : decode jdk_42_method_149_code 30 = .ok (.ifCond .eq 28, 3) := by decide +kernel
theorem own_d3_33 : decode jdk_42_method_149_code 33 = .ok (.aload_n 1, 1) := by decide +kernel
theorem own_d3_34 : decode jdk_42_method_149_code 34 = .ok (.iload_n 2, 1) := by decide +kernel
theorem own_d3_35 : decode jdk_42_method_149_code 35 = .ok (.iload_n 3, 1) := by decide +kernel
theorem own_d3_36 : decode jdk_42_method_149_code 36 = .ok (.invokestatic 177, 3) := by decide +kernel
theorem own_d3_39 : decode jdk_42_method_149_code 39 = .ok (.astore 5, 2) := by decide +kernel
theorem own_d3_41 : decode jdk_42_method_149_code 41 = .ok (.aload_n 0, 1) := by decide +kernel
theorem own_d3_42 : decode jdk_42_method_149_code 42 = .ok (.aload 5, 2) := by decide +kernel
theorem own_d3_44 : decode jdk_42_method_149_code 44 = .ok (.iload_n 3, 1) := by decide +kernel
theorem own_d3_45 : decode jdk_42_method_149_code 45 = .ok (.invokestatic 47, 3) := by decide +kernel
theorem own_d3_48 : decode jdk_42_method_149_code 48 = .ok (.putfield 15, 3) := by decide +kernel
theorem own_d3_51 : decode jdk_42_method_149_code 51 = .ok (.aload_n 0, 1) := by decide +kernel
theorem own_d3_52 : decode jdk_42_method_149_code 52 = .ok (.aload 5, 2) := by decide +kernel
theorem own_d3_54 : decode jdk_42_method_149_code 54 = .ok (.putfield 9, 3) := by decide +kernel
theorem own_d3_57 : decode jdk_42_method_149_code 57 = .ok (.return_, 1) := by decide +kernel
theorem own_d3_58 : decode jdk_42_method_149_code 58 = .ok (.aload_n 0, 1) := by decide +kernel
theorem own_d3_59 : decode jdk_42_method_149_code 59 = .ok (.iconst 1, 1) := by decide +kernel
theorem own_d3_60 : decode jdk_42_method_149_code 60 = .ok (.putfield 15, 3) := by decide +kernel
theorem own_d3_63 : decode jdk_42_method_149_code 63 = .ok (.aload_n 0, 1) := by decide +kernel
theorem own_d3_64 : decode jdk_42_method_149_code 64 = .ok (.aload_n 1, 1) := by decide +kernel
theorem own_d3_65 : decode jdk_42_method_149_code 65 = .ok (.iload_n 2, 1) := by decide +kernel
theorem own_d3_66 : decode jdk_42_method_149_code 66 = .ok (.iload_n 3, 1) := by decide +kernel
theorem own_d3_67 : decode jdk_42_method_149_code 67 = .ok (.invokestatic 180, 3) := by decide +kernel
theorem own_d3_70 : decode jdk_42_method_149_code 70 = .ok (.putfield 9, 3) := by decide +kernel
theorem own_d3_73 : decode jdk_42_method_149_code 73 = .ok (.return_, 1) := by decide +kernel
theorem own_pd1 : parseMethodDescriptor "([CII)[B" = some ⟨[(.array .char), .int, .int], some (.array .byte)⟩ := by decide +kernel
theorem own_pd2 : parseMethodDescriptor "([BI)B" = some ⟨[(.array .byte), .int], some .byte⟩ := by decide +kernel
theorem own_pn1 : plainName "java/lang/String" = true := by first | (simp [plainName, overriddenIn]; done) | decide +kernel
theorem own_efsv_1 (m : MethodId) (a : Nat) (sr : Nat) : entryFrame m #[(.ref a), (.ref sr), (.int (0 : Int32)), (.int (1 : Int32)), .null] 6 = mkF m 0 #[rv a, rv sr, iv (0 : Int32), iv (1 : Int32), .val .null, .unset] [] := by first | (simp [entryFrame, mkF, argsToLocals, Value.category]; done) | rfl
set_option maxRecDepth 65536 in
set_option maxHeartbeats 40000000 in
theorem own_rmsv_1 (l : Launch) (Z : State) (a0 : Array Value) (hw : ∀ d ∈ tables_1, d.before a0 Z = true) (a : Nat) (sr : Nat) (cc : Int32) (f : Nat → Int32) (h0 : Heap) (n0 : Nat) (Z0 : n0 ≤ h0.size) (EE : Exa Z h0 a "java/lang/String") (Fv : Fld Z h0 a "java/lang/String" "value" "[B" .null) (Fc : Fld Z h0 a "java/lang/String" "coder" "B" (.int (0 : Int32))) (A : own_AI Z h0 sr .char 1 f) (hf : ∀ i, i < 1 → ¬ (255 : Int32) < f i) (SC : Sta Z h0 "java/lang/String" "COMPACT_STRINGS" "Z" (.int cc)) (hcc : ¬ cc = 0) (g_a : n0 ≤ a) :
    own_Ct l Z (⟨"java/lang/String", "<init>", "([CIILjava/lang/Void;)V"⟩ : MethodName) jdk_42_method_149_code 6 none ({ frames := 2, cells := 1, slots := 1, locals := 35 } : Room) #[(.ref a), (.ref sr), (.int (0 : Int32)), (.int (1 : Int32)), .null] h0 (fun v h L => v = none ∧ Fr n0 L ∧ Keep h0 h [a] ∧ Exa Z h a "java/lang/String" ∧ Fld Z h a "java/lang/String" "coder" "B" (.int 0) ∧ ∃ b : Nat, h0.size ≤ b ∧ Fld Z h a "java/lang/String" "value" "[B" (.ref b) ∧ own_AI Z h b .byte 1 (fun i => own_b (f i))) := by
  refine own_body (y := (⟨"java/lang/String", "<init>", "([CIILjava/lang/Void;)V"⟩ : MethodName)) (Q := fun v h L => v = none ∧ Fr n0 L ∧ Keep h0 h [a] ∧ Exa Z h a "java/lang/String" ∧ Fld Z h a "java/lang/String" "coder" "B" (.int 0) ∧ ∃ b : Nat, h0.size ≤ b ∧ Fld Z h a "java/lang/String" "value" "[B" (.ref b) ∧ own_AI Z h b .byte 1 (fun i => own_b (f i))) (plainFor_of_name own_pn1) ?_
  intro p e s m below meth c s₁ Bd hml0 hZ e0
  have hx := Bd.exec
  have hby := Bd.bytes
  have hml : c.maxLocals = 6 := hml0
  have hown : s.vm.findClass "java/lang/String" = some m.cls := findClass_of_methodNamed Bd.named
  have hnm := (name_of_methodNamed Bd.named Bd.method).1
  have X0 : Stand p l e ({ frames := 2, cells := 1, slots := 1, locals := 35 } : Room) s m #[(.ref a), (.ref sr), (.int (0 : Int32)), (.int (1 : Int32)), .null] below meth c s₁ [] 0 0 := Stand.of_body Bd
  have N0 := Fr.nil n0
  rw [own_efsv_1]
  have lta : a < h0.size := EE.lt
  have sg1 : own_V p e below s₁ (mkF m 1 #[rv a, rv sr, iv (0 : Int32), iv (1 : Int32), .val .null, .unset] [(.ref a)]) (mkF m 0 #[rv a, rv sr, iv (0 : Int32), iv (1 : Int32), .val .null, .unset] []) := by
    intro t kt
    refine XS.aloadN X0.here hx rfl (hb hby own_d3_0) rfl rfl ?_
    show own_S p e below s₁ m 1 #[rv a, rv sr, iv (0 : Int32), iv (1 : Int32), .val .null, .unset] [(.ref a)] _
    exact kt
  refine own_st sg1 ?_
  obtain ⟨T2, X2, e2, st2⟩ := initO X0 hx hZ hown (hw _ (List.mem_of_getElem? (i := 15) rfl)) (hw _ (List.mem_of_getElem? (i := 16) rfl)) (hw _ (List.mem_of_getElem? (i := 17) rfl)) e0 (g := (mkF m 1 #[rv a, rv sr, iv (0 : Int32), iv (1 : Int32), .val .null, .unset] [(.ref a)])) rfl (by rw [hml]; rfl) rfl (hb hby own_d3_1) (by decide) (W := 0) (by show 2 * 0 + _ ≤ _; exact Nat.le_of_eq rfl) (by decide)
  refine own_st st2 ?_
  show own_Go p e below _ T2 (mkF m 4 #[rv a, rv sr, iv (0 : Int32), iv (1 : Int32), .val .null, .unset] [])
  have sg3 : own_V p e below T2 (mkF m 27 #[rv a, rv sr, iv (0 : Int32), iv (1 : Int32), .val .null, .unset] []) (mkF m 4 #[rv a, rv sr, iv (0 : Int32), iv (1 : Int32), .val .null, .unset] []) := by
    intro t kt
    refine XS.iloadN X2.here hx rfl (hb hby own_d3_4) rfl ?_
    show own_S p e below T2 m 5 #[rv a, rv sr, iv (0 : Int32), iv (1 : Int32), .val .null, .unset] [(.int (1 : Int32))] _
    refine XS.ifYes X2.here hx rfl (pc0 := 5) (pc' := 27) rfl (hb hby own_d3_5) rfl ((if0 _ _).trans (feq (by decide : ¬ (1 : Int32) = (0 : Int32))).2) (by decide) (by decide) ?_
    show own_S p e below T2 m 27 #[rv a, rv sr, iv (0 : Int32), iv (1 : Int32), .val .null, .unset] [] _
    exact kt
  refine own_st sg3 ?_
  obtain ⟨T4, X4, e4, st4⟩ := getS2 X2 hx hZ hown (host := "") (Or.inl (hw _ (List.mem_of_getElem? (i := 18) rfl))) Via.refl e2 SC (g := (mkF m 27 #[rv a, rv sr, iv (0 : Int32), iv (1 : Int32), .val .null, .unset] [])) rfl (hb hby own_d3_27)
  refine own_st st4 ?_
  show own_Go p e below _ T4 (mkF m 30 #[rv a, rv sr, iv (0 : Int32), iv (1 : Int32), .val .null, .unset] [(.int cc)])
  have hc5 : ¬ cc = (0 : Int32) := hcc
  have sg6 : own_V p e below T4 (mkF m 33 #[rv a, rv sr, iv (0 : Int32), iv (1 : Int32), .val .null, .unset] []) (mkF m 30 #[rv a, rv sr, iv (0 : Int32), iv (1 : Int32), .val .null, .unset] [(.int cc)]) := by
    intro t kt
    refine XS.ifNo X4.here hx rfl (hb hby own_d3_30) rfl ((if0 _ _).trans (feq hc5).1) ?_
    exact kt
  refine own_st sg6 ?_
  have sg7 : own_V p e below T4 (mkF m 36 #[rv a, rv sr, iv (0 : Int32), iv (1 : Int32), .val .null, .unset] [(.int (1 : Int32)), (.int (0 : Int32)), (.ref sr)]) (mkF m 33 #[rv a, rv sr, iv (0 : Int32), iv (1 : Int32), .val .null, .unset] []) := by
    intro t kt
    refine XS.aloadN X4.here hx rfl (hb hby own_d3_33) rfl rfl ?_
    show own_S p e below T4 m 34 #[rv a, rv sr, iv (0 : Int32), iv (1 : Int32), .val .null, .unset] [(.ref sr)] _
    refine XS.iloadN X4.here hx rfl (hb hby own_d3_34) rfl ?_
    show own_S p e below T4 m 35 #[rv a, rv sr, iv (0 : Int32), iv (1 : Int32), .val .null, .unset] [(.int (0 : Int32)), (.ref sr)] _
    refine XS.iloadN X4.here hx rfl (hb hby own_d3_35) rfl ?_
    show own_S p e below T4 m 36 #[rv a, rv sr, iv (0 : Int32), iv (1 : Int32), .val .null, .unset] [(.int (1 : Int32)), (.int (0 : Int32)), (.ref sr)] _
    exact kt
  refine own_st sg7 ?_
  obtain ⟨_, T8, L8, X8, hQ8, st8⟩ := own_callS (y := (⟨"java/lang/StringUTF16", "compress", "([CII)[B"⟩ : MethodName)) X4 hx hZ hown (hw _ (List.mem_of_getElem? (i := 19) rfl)) (hw _ (List.mem_of_getElem? (i := 20) rfl)) (hw _ (List.mem_of_getElem? (i := 21) rfl)) (hw _ (List.mem_of_getElem? (i := 22) rfl)) (by decide) (own_rmc3_1 l Z a0 hw sr f h0 n0 Z0 A hf) e4 (g := (mkF m 36 #[rv a, rv sr, iv (0 : Int32), iv (1 : Int32), .val .null, .unset] [(.int (1 : Int32)), (.int (0 : Int32)), (.ref sr)])) rfl (by rw [hml]; rfl) (argsL := [(.ref sr), (.int (0 : Int32)), (.int (1 : Int32))]) (rest := []) (lenOf own_pd1 rfl) rfl (W := 0) (by show 2 * 0 + _ ≤ _; exact Nat.le_of_eq rfl) (hb hby own_d3_36) (by decide) (by decide) (by decide) (by decide)
  obtain ⟨b8, rfl, Nq8, K8, sb8, A8⟩ := hQ8
  refine own_st st8 ?_
  have Z8 : n0 ≤ T8.heap.size := Nat.le_trans Z0 K8.1
  have N8 := Fr.app N0 Nq8
  show own_Go p e below _ T8 (mkF m 39 #[rv a, rv sr, iv (0 : Int32), iv (1 : Int32), .val .null, .unset] [(.ref b8)])
  have EE_8 := EE.keep K8
  have Fv_8 := Fv.keep K8 nin0
  have Fc_8 := Fc.keep K8 nin0
  have KA8 : Keep h0 T8.heap [a] := (Keep.refl h0 [a]).trans K8 all0
  have sg9 : own_V p e below T8 (mkF m 45 #[rv a, rv sr, iv (0 : Int32), iv (1 : Int32), .val .null, rv b8] [(.int (1 : Int32)), (.ref b8), (.ref a)]) (mkF m 39 #[rv a, rv sr, iv (0 : Int32), iv (1 : Int32), .val .null, .unset] [(.ref b8)]) := by
    intro t kt
    refine XS.astore X8.here hx rfl (hb hby own_d3_39) rfl rfl (l' := #[rv a, rv sr, iv (0 : Int32), iv (1 : Int32), .val .null, rv b8]) rfl ?_
    show own_S p e below T8 m 41 #[rv a, rv sr, iv (0 : Int32), iv (1 : Int32), .val .null, rv b8] [] _
    refine XS.aloadN X8.here hx rfl (hb hby own_d3_41) rfl rfl ?_
    show own_S p e below T8 m 42 #[rv a, rv sr, iv (0 : Int32), iv (1 : Int32), .val .null, rv b8] [(.ref a)] _
    refine XS.aload X8.here hx rfl (hb hby own_d3_42) rfl rfl ?_
    show own_S p e below T8 m 44 #[rv a, rv sr, iv (0 : Int32), iv (1 : Int32), .val .null, rv b8] [(.ref b8), (.ref a)] _
    refine XS.iloadN X8.here hx rfl (hb hby own_d3_44) rfl ?_
    show own_S p e below T8 m 45 #[rv a, rv sr, iv (0 : Int32), iv (1 : Int32), .val .null, rv b8] [(.int (1 : Int32)), (.ref b8), (.ref a)] _
    exact kt
  refine own_st sg9 ?_
  obtain ⟨_, T10, L10, X10, hQ10, st10⟩ := own_callS (y := (⟨"java/lang/StringUTF16", "coderFromArrayLen", "([BI)B"⟩ : MethodName)) X8 hx hZ hown (hw _ (List.mem_of_getElem? (i := 27) rfl)) (hw _ (List.mem_of_getElem? (i := 28) rfl)) (hw _ (List.mem_of_getElem? (i := 21) rfl)) (hw _ (List.mem_of_getElem? (i := 29) rfl)) (by decide) (own_rmcf_1 l Z a0 hw b8 (fun i => own_b (f i)) T8.heap n0 Z8 A8) rfl (g := (mkF m 45 #[rv a, rv sr, iv (0 : Int32), iv (1 : Int32), .val .null, rv b8] [(.int (1 : Int32)), (.ref b8), (.ref a)])) rfl (by rw [hml]; rfl) (argsL := [(.ref b8), (.int (1 : Int32))]) (rest := [(.ref a)]) (lenOf own_pd2 rfl) rfl (W := 1) (by show 2 * 0 + _ ≤ _; exact Nat.le_of_eq rfl) (hb hby own_d3_45) (by decide) (by decide) (by decide) (by decide)
  obtain ⟨rfl, Nq10, e10⟩ := hQ10
  refine own_st st10 ?_
  have N10 := Fr.app N8 Nq10
  show own_Go p e below _ T10 (mkF m 48 #[rv a, rv sr, iv (0 : Int32), iv (1 : Int32), .val .null, rv b8] [(.int (0 : Int32)), (.ref a)])
  obtain ⟨T11, h11, X11, e11, W11, st11⟩ := putFN X10 hx hZ hown (hw _ (List.mem_of_getElem? (i := 30) rfl)) Via.refl e10 Fc_8 EE_8 (Or.inr ⟨(hw _ (List.mem_of_getElem? (i := 31) rfl)), rfl, hnm⟩) (hw _ (List.mem_of_getElem? (i := 6) rfl)) (ty := .byte) (v' := (.int (nar .byte (0 : Int32)))) (by decide) rfl (fits_nar_byte _) (g := (mkF m 48 #[rv a, rv sr, iv (0 : Int32), iv (1 : Int32), .val .null, rv b8] [(.int (0 : Int32)), (.ref a)])) rfl rfl (hb hby own_d3_48)
  refine own_st st11 ?_
  have Z11 : n0 ≤ h11.size := by rw [Wr.size W11]; exact Z8
  have N11 := Fr.snoc X11 N10 g_a
  show own_Go p e below _ T11 (mkF m 51 #[rv a, rv sr, iv (0 : Int32), iv (1 : Int32), .val .null, rv b8] [])
  have KK11 := Keep.of_wr W11
  have Fv_11 := Fv_8.other W11 (Or.inr (slot_ne (Or.inr (hw _ (List.mem_of_getElem? (i := 33) rfl))) (Or.inr (hw _ (List.mem_of_getElem? (i := 31) rfl))) (by decide) (t := (.array .byte)) (t' := .byte) (by decide) (by decide)))
  have EE_11 := EE_8.keep KK11
  have AB_11 := A8.keep KK11 (own_ninS (by omega) nin0)
  have Fc_11 := Fc_8.same W11
  have KA11 : Keep h0 h11 [a] := KA8.wr W11 (Or.inl (List.mem_of_getElem? (i := 0) rfl))
  have sg12 : own_V p e below T11 (mkF m 54 #[rv a, rv sr, iv (0 : Int32), iv (1 : Int32), .val .null, rv b8] [(.ref b8), (.ref a)]) (mkF m 51 #[rv a, rv sr, iv (0 : Int32), iv (1 : Int32), .val .null, rv b8] []) := by
    intro t kt
    refine XS.aloadN X11.here hx rfl (hb hby own_d3_51) rfl rfl ?_
    show own_S p e below T11 m 52 #[rv a, rv sr, iv (0 : Int32), iv (1 : Int32), .val .null, rv b8] [(.ref a)] _
    refine XS.aload X11.here hx rfl (hb hby own_d3_52) rfl rfl ?_
    show own_S p e below T11 m 54 #[rv a, rv sr, iv (0 : Int32), iv (1 : Int32), .val .null, rv b8] [(.ref b8), (.ref a)] _
    exact kt
  refine own_st sg12 ?_
  obtain ⟨T13, h13, X13, e13, W13, st13⟩ := putF X11 hx hZ hown (host := "") (Or.inl (hw _ (List.mem_of_getElem? (i := 32) rfl))) Via.refl e11 Fv_11 EE_11 (Or.inr ⟨(hw _ (List.mem_of_getElem? (i := 33) rfl)), rfl, hnm⟩) (hw _ (List.mem_of_getElem? (i := 6) rfl)) (ty := (.array .byte)) (by decide) rfl rfl (g := (mkF m 54 #[rv a, rv sr, iv (0 : Int32), iv (1 : Int32), .val .null, rv b8] [(.ref b8), (.ref a)])) rfl rfl (hb hby own_d3_54)
  refine own_st st13 ?_
  have Z13 : n0 ≤ h13.size := by rw [Wr.size W13]; exact Z11
  have N13 := Fr.snoc X13 N11 g_a
  show own_Go p e below _ T13 (mkF m 57 #[rv a, rv sr, iv (0 : Int32), iv (1 : Int32), .val .null, rv b8] [])
  have KK13 := Keep.of_wr W13
  have Fc_13 := Fc_11.other W13 (Or.inr (slot_ne (Or.inr (hw _ (List.mem_of_getElem? (i := 31) rfl))) (Or.inr (hw _ (List.mem_of_getElem? (i := 33) rfl))) (by decide) (t := .byte) (t' := (.array .byte)) (by decide) (by decide)))
  have EE_13 := EE_11.keep KK13
  have AB_13 := AB_11.keep KK13 (own_ninS (by omega) nin0)
  have Fv_13 := Fv_11.same W13
  have KA13 : Keep h0 h13 [a] := KA11.wr W13 (Or.inl (List.mem_of_getElem? (i := 0) rfl))
  have FC : Fld Z h13 a "java/lang/String" "coder" "B" (.int 0) := Fc_13
  exact own_retV X13 hx Bd.notSynchronized Bd.returns (hb hby own_d3_57) (by decide) (by decide) e13 ⟨rfl, N13, KA13, EE_13, FC, b8, sb8, Fv_13, AB_13⟩
theorem own_d2_0 : decode jdk_42_method_3_code 0 = .ok (.aload_n 0, 1) := by decide +kernel
theorem own_d2_1 : decode jdk_42_method_3_code 1 = .ok (.aload_n 1, 1) := by decide +kernel
theorem own_d2_2 : decode jdk_42_method_3_code 2 = .ok (.iconst 0, 1) := by decide +kernel
theorem own_d2_3 : decode jdk_42_method_3_code 3 = .ok (.aload_n 1, 1) := by decide +kernel
theorem own_d2_4 : decode jdk_42_method_3_code 4 = .ok (.arraylength, 1) := by decide +kernel
theorem own_d2_5 : decode jdk_42_method_3_code 5 = .ok (.aconst_null, 1) := by decide +kernel
theorem own_d2_6 : decode jdk_42_method_3_code 6 = .ok (.invokespecial 27, 3) := by decide +kernel
theorem own_d2_9 : decode jdk_42_method_3_code 9 = .ok (.return_, 1) := by decide +kernel
theorem own_pd3 : parseMethodDescriptor "([CIILjava/lang/Void;)V" = some ⟨[(.array .char), .int, .int, (.object "java/lang/Void")], none⟩ := by decide +kernel
theorem own_efsi_1 (m : MethodId) (a : Nat) (sr : Nat) : entryFrame m #[(.ref a), (.ref sr)] 2 = mkF m 0 #[rv a, rv sr] [] := by first | (simp [entryFrame, mkF, argsToLocals, Value.category]; done) | rfl
set_option maxRecDepth 65536 in
set_option maxHeartbeats 40000000 in
theorem own_rmsi_1 (l : Launch) (Z : State) (a0 : Array Value) (hw : ∀ d ∈ tables_1, d.before a0 Z = true) (a : Nat) (sr : Nat) (cc : Int32) (f : Nat → Int32) (h0 : Heap) (n0 : Nat) (Z0 : n0 ≤ h0.size) (EE : Exa Z h0 a "java/lang/String") (Fv : Fld Z h0 a "java/lang/String" "value" "[B" .null) (Fc : Fld Z h0 a "java/lang/String" "coder" "B" (.int (0 : Int32))) (A : own_AI Z h0 sr .char 1 f) (hf : ∀ i, i < 1 → ¬ (255 : Int32) < f i) (SC : Sta Z h0 "java/lang/String" "COMPACT_STRINGS" "Z" (.int cc)) (hcc : ¬ cc = 0) (g_a : n0 ≤ a) :
    own_Ct l Z (⟨"java/lang/String", "<init>", "([C)V"⟩ : MethodName) jdk_42_method_3_code 2 none ({ frames := 3, cells := 1, slots := 1, locals := 52 } : Room) #[(.ref a), (.ref sr)] h0 (fun v h L => v = none ∧ Fr n0 L ∧ Keep h0 h [a] ∧ Exa Z h a "java/lang/String" ∧ Fld Z h a "java/lang/String" "coder" "B" (.int 0) ∧ ∃ b : Nat, h0.size ≤ b ∧ Fld Z h a "java/lang/String" "value" "[B" (.ref b) ∧ own_AI Z h b .byte 1 (fun i => own_b (f i))) := by
  refine own_body (y := (⟨"java/lang/String", "<init>", "([C)V"⟩ : MethodName)) (Q := fun v h L => v = none ∧ Fr n0 L ∧ Keep h0 h [a] ∧ Exa Z h a "java/lang/String" ∧ Fld Z h a "java/lang/String" "coder" "B" (.int 0) ∧ ∃ b : Nat, h0.size ≤ b ∧ Fld Z h a "java/lang/String" "value" "[B" (.ref b) ∧ own_AI Z h b .byte 1 (fun i => own_b (f i))) (plainFor_of_name own_pn1) ?_
  intro p e s m below meth c s₁ Bd hml0 hZ e0
  have hx := Bd.exec
  have hby := Bd.bytes
  have hml : c.maxLocals = 2 := hml0
  have hown : s.vm.findClass "java/lang/String" = some m.cls := findClass_of_methodNamed Bd.named
  have hnm := (name_of_methodNamed Bd.named Bd.method).1
  have X0 : Stand p l e ({ frames := 3, cells := 1, slots := 1, locals := 52 } : Room) s m #[(.ref a), (.ref sr)] below meth c s₁ [] 0 0 := Stand.of_body Bd
  have N0 := Fr.nil n0
  rw [own_efsi_1]
  have sg1 : own_V p e below s₁ (mkF m 6 #[rv a, rv sr] [.null, (.int (1 : Int32)), (.int (0 : Int32)), (.ref sr), (.ref a)]) (mkF m 0 #[rv a, rv sr] []) := by
    intro t kt
    refine XS.aloadN X0.here hx rfl (hb hby own_d2_0) rfl rfl ?_
    show own_S p e below s₁ m 1 #[rv a, rv sr] [(.ref a)] _
    refine XS.aloadN X0.here hx rfl (hb hby own_d2_1) rfl rfl ?_
    show own_S p e below s₁ m 2 #[rv a, rv sr] [(.ref sr), (.ref a)] _
    refine XS.iconst X0.here hx rfl (hb hby own_d2_2) ?_
    show own_S p e below s₁ m 3 #[rv a, rv sr] [(.int (0 : Int32)), (.ref sr), (.ref a)] _
    refine XS.aloadN X0.here hx rfl (hb hby own_d2_3) rfl rfl ?_
    show own_S p e below s₁ m 4 #[rv a, rv sr] [(.ref sr), (.int (0 : Int32)), (.ref sr), (.ref a)] _
    refine own_len (z := (1 : Int32)) X0 hx hZ e0 A (by decide) (g := (mkF m 4 #[rv a, rv sr] [(.ref sr), (.int (0 : Int32)), (.ref sr), (.ref a)])) rfl rfl (hb hby own_d2_4) _ ?_
    show own_S p e below s₁ m 5 #[rv a, rv sr] [(.int (1 : Int32)), (.int (0 : Int32)), (.ref sr), (.ref a)] _
    refine XS.aconstNull X0.here hx rfl (hb hby own_d2_5) ?_
    show own_S p e below s₁ m 6 #[rv a, rv sr] [.null, (.int (1 : Int32)), (.int (0 : Int32)), (.ref sr), (.ref a)] _
    exact kt
  refine own_st sg1 ?_
  obtain ⟨_, T2, L2, X2, hQ2, st2⟩ := own_callI (y := (⟨"java/lang/String", "<init>", "([CIILjava/lang/Void;)V"⟩ : MethodName)) (a := a) X0 hx hZ hown rfl (hw _ (List.mem_of_getElem? (i := 11) rfl)) (hw _ (List.mem_of_getElem? (i := 12) rfl)) (hw _ (List.mem_of_getElem? (i := 7) rfl)) (hw _ (List.mem_of_getElem? (i := 14) rfl)) (by decide) (own_rmsv_1 l Z a0 hw a sr cc f h0 n0 Z0 EE Fv Fc A hf SC hcc g_a) e0 (g := (mkF m 6 #[rv a, rv sr] [.null, (.int (1 : Int32)), (.int (0 : Int32)), (.ref sr), (.ref a)])) rfl (by rw [hml]; rfl) (argsL := [(.ref sr), (.int (0 : Int32)), (.int (1 : Int32)), .null]) (rest := []) (lenOf own_pd3 rfl) rfl (W := 0) (by show 2 * 0 + _ ≤ _; exact Nat.le_of_eq rfl) (hb hby own_d2_6) (by decide) (by decide) (by decide) (by decide)
  obtain ⟨rfl, Nq2, R2⟩ := hQ2
  refine own_st st2 ?_
  have Z2 : n0 ≤ T2.heap.size := Nat.le_trans Z0 R2.1.1
  have N2 := Fr.app N0 Nq2
  show own_Go p e below _ T2 (mkF m 9 #[rv a, rv sr] [])
  exact own_retV X2 hx Bd.notSynchronized Bd.returns (hb hby own_d2_9) (by decide) (by decide) rfl ⟨rfl, N2, R2⟩
def own_Str (Z : State) (h : Heap) (a b : Nat) (n : Nat) (f : Nat → Int32) : Prop := Exa Z h a "java/lang/String" ∧ Fld Z h a "java/lang/String" "coder" "B" (.int 0) ∧ Fld Z h a "java/lang/String" "value" "[B" (.ref b) ∧ own_AI Z h b .byte n f
theorem own_Str.keep {Z : State} {h h' : Heap} {a b : Nat} {n : Nat} {f : Nat → Int32} {ws : List Addr} (S : own_Str Z h a b n f) (K : Keep h h' ws) (n1 : a ∉ ws) (n2 : b ∉ ws) : own_Str Z h' a b n f := ⟨S.1.keep K, S.2.1.keep K n1, S.2.2.1.keep K n1, S.2.2.2.keep K n2⟩
theorem own_Str.lt {Z : State} {h : Heap} {a b : Nat} {n : Nat} {f : Nat → Int32} (S : own_Str Z h a b n f) : a < h.size := S.1.lt
def own_txc (x : Int32) : Int32 := own_b (nar .char (x &&& (255 : Int32)).toUInt32.toUInt16.toUInt32.toInt32)

theorem own_lo (x : Int32) : ¬ (255 : Int32) < nar .char (x &&& (255 : Int32)).toUInt32.toUInt16.toUInt32.toInt32 := by
  have m : (x &&& (255 : Int32)).toInt = x.toInt % ((2 ^ 8 : Nat) : Int) := c_mask x 255 8 (by decide) (by decide)
  have m' : (x &&& (255 : Int32)).toInt = x.toInt % 256 := m
  show ¬ (255 : Int32) < (x &&& (255 : Int32)).toUInt32.toUInt16.toUInt32.toInt32.toUInt32.toUInt16.toUInt32.toInt32
  rw [i2c_mask, i2c_mask, Int32.lt_iff_toInt_lt]
  have e : (255 : Int32).toInt = 255 := by decide
  rw [e]; omega
theorem own_d1_0 : decode method_2_code 0 = .ok (.iconst 1, 1) := by decide +kernel
theorem own_d1_1 : decode method_2_code 1 = .ok (.newarray .char, 2) := by decide +kernel
theorem own_d1_3 : decode method_2_code 3 = .ok (.astore_n 1, 1) := by decide +kernel
theorem own_d1_4 : decode method_2_code 4 = .ok (.aload_n 1, 1) := by decide +kernel
theorem own_d1_5 : decode method_2_code 5 = .ok (.iconst 0, 1) := by decide +kernel
theorem own_d1_6 : decode method_2_code 6 = .ok (.iload_n 0, 1) := by decide +kernel
theorem own_d1_7 : decode method_2_code 7 = .ok (.sipush 255, 3) := by decide +kernel
theorem own_d1_10 : decode method_2_code 10 = .ok (.iand, 1) := by decide +kernel
theorem own_d1_11 : decode method_2_code 11 = .ok (.i2c, 1) := by decide +kernel
theorem own_d1_12 : decode method_2_code 12 = .ok (.castore, 1) := by decide +kernel
theorem own_d1_13 : decode method_2_code 13 = .ok (.new 7, 3) := by decide +kernel
theorem own_d1_16 : decode method_2_code 16 = .ok (.dup, 1) := by decide +kernel
theorem own_d1_17 : decode method_2_code 17 = .ok (.aload_n 1, 1) := by decide +kernel
theorem own_d1_18 : decode method_2_code 18 = .ok (.invokespecial 9, 3) := by decide +kernel
theorem own_d1_21 : decode method_2_code 21 = .ok (.areturn, 1) := by decide +kernel
theorem own_pd4 : parseMethodDescriptor "([C)V" = some ⟨[(.array .char)], none⟩ := by decide +kernel
theorem own_pn2 : plainName "com/example/coverfold/coverfold/UsageSharesTextsOfKindPinLaw" = true := by first | (simp [plainName, overriddenIn]; done) | decide +kernel
theorem own_eftx (m : MethodId) (x : Int32) : entryFrame m #[(.int x)] 2 = mkF m 0 #[iv x, .unset] [] := by first | (simp [entryFrame, mkF, argsToLocals, Value.category]; done) | rfl
set_option maxRecDepth 65536 in
set_option maxHeartbeats 40000000 in
theorem own_rmtx (l : Launch) (Z : State) (a0 : Array Value) (hw : ∀ d ∈ tables_1, d.before a0 Z = true) (x : Int32) (cc : Int32) (h0 : Heap) (n0 : Nat) (Z0 : n0 ≤ h0.size) (SC : Sta Z h0 "java/lang/String" "COMPACT_STRINGS" "Z" (.int cc)) (hcc : ¬ cc = 0) :
    own_Ct l Z (⟨"com/example/coverfold/coverfold/UsageSharesTextsOfKindPinLaw", "text", "(I)Ljava/lang/String;"⟩ : MethodName) method_2_code 2 (some (.object "java/lang/String")) ({ frames := 4, cells := 3, slots := 6, locals := 66 } : Room) #[(.int x)] h0 (fun v h L => ∃ a b : Nat, v = some (.ref a) ∧ Fr n0 L ∧ Keep h0 h [] ∧ h0.size ≤ a ∧ h0.size ≤ b ∧ own_Str Z h a b 1 (fun _ => own_txc x)) := by
  refine own_body (y := (⟨"com/example/coverfold/coverfold/UsageSharesTextsOfKindPinLaw", "text", "(I)Ljava/lang/String;"⟩ : MethodName)) (Q := fun v h L => ∃ a b : Nat, v = some (.ref a) ∧ Fr n0 L ∧ Keep h0 h [] ∧ h0.size ≤ a ∧ h0.size ≤ b ∧ own_Str Z h a b 1 (fun _ => own_txc x)) (plainFor_of_name own_pn2) ?_
  intro p e s m below meth c s₁ Bd hml0 hZ e0
  have hx := Bd.exec
  have hby := Bd.bytes
  have hml : c.maxLocals = 2 := hml0
  have hown : s.vm.findClass "com/example/coverfold/coverfold/UsageSharesTextsOfKindPinLaw" = some m.cls := findClass_of_methodNamed Bd.named
  have hnm := (name_of_methodNamed Bd.named Bd.method).1
  have X0 : Stand p l e ({ frames := 4, cells := 3, slots := 6, locals := 66 } : Room) s m #[(.int x)] below meth c s₁ [] 0 0 := Stand.of_body Bd
  have N0 := Fr.nil n0
  rw [own_eftx]
  have sg1 : own_V p e below s₁ (mkF m 1 #[iv x, .unset] [(.int (1 : Int32))]) (mkF m 0 #[iv x, .unset] []) := by
    intro t kt
    refine XS.iconst X0.here hx rfl (hb hby own_d1_0) ?_
    show own_S p e below s₁ m 1 #[iv x, .unset] [(.int (1 : Int32))] _
    exact kt
  refine own_st sg1 ?_
  obtain ⟨T2, h2, a2, g2, X2, e2, E2, A2, st2⟩ := own_newP (n := 1) X0 hx hZ (hw _ (List.mem_of_getElem? (i := 4) rfl)) e0 (by decide) rfl (g := (mkF m 1 #[iv x, .unset] [(.int (1 : Int32))])) rfl rfl (hb hby own_d1_1) (cap := 1) (by decide) (by decide) (by decide) (by decide)
  refine own_st st2 ?_
  have g_a2 : n0 ≤ a2 := by rw [g2]; exact Z0
  have Z2 : n0 ≤ h2.size := Nat.le_trans Z0 E2.1
  have B2 : own_AI Z h2 a2 .char 1 (fun _ => 0) := A2
  show own_Go p e below _ T2 (mkF m 3 #[iv x, .unset] [(.ref a2)])
  have K2 : Keep h0 h2 [] := (Keep.refl h0 []).ext E2
  have szc : h0.size ≤ a2 := Nat.le_of_eq g2.symm
  have sg3 : own_V p e below T2 (mkF m 12 #[iv x, rv a2] [(.int (x &&& (255 : Int32)).toUInt32.toUInt16.toUInt32.toInt32), (.int (0 : Int32)), (.ref a2)]) (mkF m 3 #[iv x, .unset] [(.ref a2)]) := by
    intro t kt
    refine XS.astoreN X2.here hx rfl (hb hby own_d1_3) rfl rfl (l' := #[iv x, rv a2]) rfl ?_
    show own_S p e below T2 m 4 #[iv x, rv a2] [] _
    refine XS.aloadN X2.here hx rfl (hb hby own_d1_4) rfl rfl ?_
    show own_S p e below T2 m 5 #[iv x, rv a2] [(.ref a2)] _
    refine XS.iconst X2.here hx rfl (hb hby own_d1_5) ?_
    show own_S p e below T2 m 6 #[iv x, rv a2] [(.int (0 : Int32)), (.ref a2)] _
    refine XS.iloadN X2.here hx rfl (hb hby own_d1_6) rfl ?_
    show own_S p e below T2 m 7 #[iv x, rv a2] [(.int x), (.int (0 : Int32)), (.ref a2)] _
    refine XS.sipush X2.here hx rfl (hb hby own_d1_7) ?_
    show own_S p e below T2 m 10 #[iv x, rv a2] [(.int (255 : Int32)), (.int x), (.int (0 : Int32)), (.ref a2)] _
    refine XS.iand X2.here hx rfl (hb hby own_d1_10) rfl ?_
    show own_S p e below T2 m 11 #[iv x, rv a2] [(.int (x &&& (255 : Int32))), (.int (0 : Int32)), (.ref a2)] _
    refine XS.i2c X2.here hx rfl (hb hby own_d1_11) rfl ?_
    show own_S p e below T2 m 12 #[iv x, rv a2] [(.int (x &&& (255 : Int32)).toUInt32.toUInt16.toUInt32.toInt32), (.int (0 : Int32)), (.ref a2)] _
    exact kt
  refine own_st sg3 ?_
  obtain ⟨T4, h4, X4, e4, W4, A4, st4⟩ := own_wrC X2 hx hZ e2 B2 (k := 0) (by decide) (by decide) (g := (mkF m 12 #[iv x, rv a2] [(.int (x &&& (255 : Int32)).toUInt32.toUInt16.toUInt32.toInt32), (.int (0 : Int32)), (.ref a2)])) rfl rfl (hb hby own_d1_12)
  refine own_st st4 ?_
  have Z4 : n0 ≤ h4.size := by rw [Wr.size W4]; exact Z2
  have N4 := Fr.snoc X4 N0 g_a2
  show own_Go p e below _ T4 (mkF m 13 #[iv x, rv a2] [])
  have K4 : Keep h0 h4 [] := K2.wr W4 (Or.inr szc)
  obtain ⟨T5, h5, X5, e5, E5, A5, D5, -, st5⟩ := newO X4 hx hZ hown (hw _ (List.mem_of_getElem? (i := 5) rfl)) (hw _ (List.mem_of_getElem? (i := 6) rfl)) (hw _ (List.mem_of_getElem? (i := 7) rfl)) e4 (g := (mkF m 13 #[iv x, rv a2] [])) rfl (hb hby own_d1_13) (by decide) (by decide)
  obtain ⟨a5, g5⟩ : ∃ z, z = h4.size := ⟨_, rfl⟩
  rw [← g5] at A5 D5 st5
  refine own_st st5 ?_
  have g_a5 : n0 ≤ a5 := by rw [g5]; exact Z4
  have Z5 : n0 ≤ h5.size := Nat.le_trans Z4 E5.1
  show own_Go p e below _ T5 (mkF m 16 #[iv x, rv a2] [(.ref a5)])
  have sza : h0.size ≤ a5 := by rw [g5]; exact K4.1
  have K5 : Keep h0 h5 [] := K4.ext E5
  have BX := A4.ext E5
  have SX := own_Sta.keep SC K5
  have Gvalue : Fld Z h5 a5 "java/lang/String" "value" "[B" .null := D5 (Or.inr (hw _ (List.mem_of_getElem? (i := 33) rfl))) (ty := (.array .byte)) (by decide)
  have Gcoder : Fld Z h5 a5 "java/lang/String" "coder" "B" (.int (0 : Int32)) := D5 (Or.inr (hw _ (List.mem_of_getElem? (i := 31) rfl))) (ty := .byte) (by decide)
  have sg6 : own_V p e below T5 (mkF m 18 #[iv x, rv a2] [(.ref a2), (.ref a5), (.ref a5)]) (mkF m 16 #[iv x, rv a2] [(.ref a5)]) := by
    intro t kt
    refine XS.dup X5.here hx rfl (hb hby own_d1_16) rfl rfl ?_
    show own_S p e below T5 m 17 #[iv x, rv a2] [(.ref a5), (.ref a5)] _
    refine XS.aloadN X5.here hx rfl (hb hby own_d1_17) rfl rfl ?_
    show own_S p e below T5 m 18 #[iv x, rv a2] [(.ref a2), (.ref a5), (.ref a5)] _
    exact kt
  refine own_st sg6 ?_
  obtain ⟨_, T7, L7, X7, hQ7, st7⟩ := own_callI (y := (⟨"java/lang/String", "<init>", "([C)V"⟩ : MethodName)) (a := a5) X5 hx hZ hown rfl (hw _ (List.mem_of_getElem? (i := 8) rfl)) (hw _ (List.mem_of_getElem? (i := 9) rfl)) (hw _ (List.mem_of_getElem? (i := 7) rfl)) (hw _ (List.mem_of_getElem? (i := 10) rfl)) (by decide) (own_rmsi_1 l Z a0 hw a5 a2 cc _ h5 n0 Z5 A5 Gvalue Gcoder BX (own_cs_1 (own_lo _)) SX hcc g_a5) e5 (g := (mkF m 18 #[iv x, rv a2] [(.ref a2), (.ref a5), (.ref a5)])) rfl (by rw [hml]; rfl) (argsL := [(.ref a2)]) (rest := [(.ref a5)]) (lenOf own_pd4 rfl) rfl (W := 1) (by show 2 * 0 + _ ≤ _; exact Nat.le_of_eq rfl) (hb hby own_d1_18) (by decide) (by decide) (by decide) (by decide)
  obtain ⟨rfl, Nq7, K7, E7, FC7, b7, sb7, FV7, AB7⟩ := hQ7
  refine own_st st7 ?_
  have Z7 : n0 ≤ T7.heap.size := Nat.le_trans Z5 K7.1
  have N7 := Fr.app N4 Nq7
  show own_Go p e below _ T7 (mkF m 21 #[iv x, rv a2] [(.ref a5)])
  have AS : own_AI Z T7.heap b7 .byte 1 (fun _ => own_txc x) := AB7.congr (own_cs_1 rfl)
  exact own_retR X7 hx Bd.notSynchronized Bd.returns rfl rfl (hb hby own_d1_21) (by decide) (by decide) rfl ⟨a5, b7, rfl, N7, K5.trans K7 (allS (Or.inr sza) all0), sza, Nat.le_trans K5.1 sb7, E7, FC7, FV7, AS⟩
theorem own_d17_0 : decode jdk_42_method_152_code 0 = .ok (.getstatic 38, 3) := by decide +kernel
theorem own_d17_3 : decode jdk_42_method_152_code 3 = .ok (.ifCond .eq 10, 3) := by decide +kernel
theorem own_d17_6 : decode jdk_42_method_152_code 6 = .ok (.aload_n 0, 1) := by decide +kernel
theorem own_d17_7 : decode jdk_42_method_152_code 7 = .ok (.getfield 15, 3) := by decide +kernel
theorem own_d17_10 : decode jdk_42_method_152_code 10 = .ok (.goto 4, 3) := by decide +kernel
theorem own_d17_13 : decode jdk_42_method_152_code 13 = .ok (.iconst 1, 1) := by decide +kernel
theorem own_d17_14 : decode jdk_42_method_152_code 14 = .ok (.ireturn, 1) := by decide +kernel
theorem own_efcod (m : MethodId) (a : Nat) : entryFrame m #[(.ref a)] 1 = mkF m 0 #[rv a] [] := by first | (simp [entryFrame, mkF, argsToLocals, Value.category]; done) | rfl
set_option maxRecDepth 65536 in
set_option maxHeartbeats 40000000 in
theorem own_rmcod (l : Launch) (Z : State) (a0 : Array Value) (hw : ∀ d ∈ tables_1, d.before a0 Z = true) (a : Nat) (cc : Int32) (h0 : Heap) (n0 : Nat) (Z0 : n0 ≤ h0.size) (FC : Fld Z h0 a "java/lang/String" "coder" "B" (.int 0)) (SC : Sta Z h0 "java/lang/String" "COMPACT_STRINGS" "Z" (.int cc)) (hcc : ¬ cc = 0) :
    own_Ct l Z (⟨"java/lang/String", "coder", "()B"⟩ : MethodName) jdk_42_method_152_code 1 (some .byte) ({ frames := 0, cells := 0, slots := 0, locals := 0 } : Room) #[(.ref a)] h0 (fun v h L => v = some (.int 0) ∧ Fr n0 L ∧ h = h0) := by
  refine own_body (y := (⟨"java/lang/String", "coder", "()B"⟩ : MethodName)) (Q := fun v h L => v = some (.int 0) ∧ Fr n0 L ∧ h = h0) (plainFor_of_name own_pn1) ?_
  intro p e s m below meth c s₁ Bd hml0 hZ e0
  have hx := Bd.exec
  have hby := Bd.bytes
  have hml : c.maxLocals = 1 := hml0
  have hown : s.vm.findClass "java/lang/String" = some m.cls := findClass_of_methodNamed Bd.named
  have hnm := (name_of_methodNamed Bd.named Bd.method).1
  have X0 : Stand p l e ({ frames := 0, cells := 0, slots := 0, locals := 0 } : Room) s m #[(.ref a)] below meth c s₁ [] 0 0 := Stand.of_body Bd
  have N0 := Fr.nil n0
  rw [own_efcod]
  obtain ⟨T1, X1, e1, st1⟩ := getS2 X0 hx hZ hown (host := "") (Or.inl (hw _ (List.mem_of_getElem? (i := 18) rfl))) Via.refl e0 SC (g := (mkF m 0 #[rv a] [])) rfl (hb hby own_d17_0)
  refine own_st st1 ?_
  show own_Go p e below _ T1 (mkF m 3 #[rv a] [(.int cc)])
  have hc2 : ¬ cc = (0 : Int32) := hcc
  have sg3 : own_V p e below T1 (mkF m 6 #[rv a] []) (mkF m 3 #[rv a] [(.int cc)]) := by
    intro t kt
    refine XS.ifNo X1.here hx rfl (hb hby own_d17_3) rfl ((if0 _ _).trans (feq hc2).1) ?_
    exact kt
  refine own_st sg3 ?_
  have sg4 : own_V p e below T1 (mkF m 7 #[rv a] [(.ref a)]) (mkF m 6 #[rv a] []) := by
    intro t kt
    refine XS.aloadN X1.here hx rfl (hb hby own_d17_6) rfl rfl ?_
    show own_S p e below T1 m 7 #[rv a] [(.ref a)] _
    exact kt
  refine own_st sg4 ?_
  obtain ⟨T5, X5, e5, st5⟩ := getF X1 hx hZ hown (host := "") (Or.inl (hw _ (List.mem_of_getElem? (i := 30) rfl))) Via.refl e1 FC (g := (mkF m 7 #[rv a] [(.ref a)])) rfl rfl (hb hby own_d17_7)
  refine own_st st5 ?_
  show own_Go p e below _ T5 (mkF m 10 #[rv a] [(.int (0 : Int32))])
  have sg6 : own_V p e below T5 (mkF m 14 #[rv a] [(.int (0 : Int32))]) (mkF m 10 #[rv a] [(.int (0 : Int32))]) := by
    intro t kt
    refine XS.goto X5.here hx rfl (pc0 := 10) (pc' := 14) rfl (hb hby own_d17_10) (by decide) (by decide) ?_
    show own_S p e below T5 m 14 #[rv a] [(.int (0 : Int32))] _
    exact kt
  refine own_st sg6 ?_
  exact own_retB X5 hx Bd.notSynchronized Bd.returns (hb hby own_d17_14) (by decide) (by decide) (by decide) e5 ⟨rfl, N0, rfl⟩
theorem own_d16_0 : decode jdk_42_method_54_code 0 = .ok (.aload_n 0, 1) := by decide +kernel
theorem own_d16_1 : decode jdk_42_method_54_code 1 = .ok (.getfield 9, 3) := by decide +kernel
theorem own_d16_4 : decode jdk_42_method_54_code 4 = .ok (.arraylength, 1) := by decide +kernel
theorem own_d16_5 : decode jdk_42_method_54_code 5 = .ok (.aload_n 0, 1) := by decide +kernel
theorem own_d16_6 : decode jdk_42_method_54_code 6 = .ok (.invokevirtual 335, 3) := by decide +kernel
theorem own_d16_9 : decode jdk_42_method_54_code 9 = .ok (.ishr, 1) := by decide +kernel
theorem own_d16_10 : decode jdk_42_method_54_code 10 = .ok (.ireturn, 1) := by decide +kernel
theorem own_pd5 : parseMethodDescriptor "()B" = some ⟨[], some .byte⟩ := by decide +kernel
theorem own_eflen (m : MethodId) (a : Nat) : entryFrame m #[(.ref a)] 1 = mkF m 0 #[rv a] [] := by first | (simp [entryFrame, mkF, argsToLocals, Value.category]; done) | rfl
set_option maxRecDepth 65536 in
set_option maxHeartbeats 40000000 in
theorem own_rmlen (l : Launch) (Z : State) (a0 : Array Value) (hw : ∀ d ∈ tables_1, d.before a0 Z = true) (a : Nat) (b : Nat) (cc : Int32) (f : Nat → Int32) (h0 : Heap) (n0 : Nat) (Z0 : n0 ≤ h0.size) (SS : own_Str Z h0 a b 1 f) (SC : Sta Z h0 "java/lang/String" "COMPACT_STRINGS" "Z" (.int cc)) (hcc : ¬ cc = 0) :
    own_Ct l Z (⟨"java/lang/String", "length", "()I"⟩ : MethodName) jdk_42_method_54_code 1 (some .int) ({ frames := 1, cells := 0, slots := 0, locals := 13 } : Room) #[(.ref a)] h0 (fun v h L => v = some (.int 1) ∧ Fr n0 L ∧ h = h0) := by
  refine own_body (y := (⟨"java/lang/String", "length", "()I"⟩ : MethodName)) (Q := fun v h L => v = some (.int 1) ∧ Fr n0 L ∧ h = h0) (plainFor_of_name own_pn1) ?_
  intro p e s m below meth c s₁ Bd hml0 hZ e0
  have hx := Bd.exec
  have hby := Bd.bytes
  have hml : c.maxLocals = 1 := hml0
  have hown : s.vm.findClass "java/lang/String" = some m.cls := findClass_of_methodNamed Bd.named
  have hnm := (name_of_methodNamed Bd.named Bd.method).1
  have X0 : Stand p l e ({ frames := 1, cells := 0, slots := 0, locals := 13 } : Room) s m #[(.ref a)] below meth c s₁ [] 0 0 := Stand.of_body Bd
  have N0 := Fr.nil n0
  rw [own_eflen]
  have sg1 : own_V p e below s₁ (mkF m 1 #[rv a] [(.ref a)]) (mkF m 0 #[rv a] []) := by
    intro t kt
    refine XS.aloadN X0.here hx rfl (hb hby own_d16_0) rfl rfl ?_
    show own_S p e below s₁ m 1 #[rv a] [(.ref a)] _
    exact kt
  refine own_st sg1 ?_
  obtain ⟨T2, X2, e2, st2⟩ := getF X0 hx hZ hown (host := "") (Or.inl (hw _ (List.mem_of_getElem? (i := 32) rfl))) Via.refl e0 SS.2.2.1 (g := (mkF m 1 #[rv a] [(.ref a)])) rfl rfl (hb hby own_d16_1)
  refine own_st st2 ?_
  show own_Go p e below _ T2 (mkF m 4 #[rv a] [(.ref b)])
  have sg3 : own_V p e below T2 (mkF m 6 #[rv a] [(.ref a), (.int (1 : Int32))]) (mkF m 4 #[rv a] [(.ref b)]) := by
    intro t kt
    refine own_len (z := (1 : Int32)) X2 hx hZ e2 SS.2.2.2 (by decide) (g := (mkF m 4 #[rv a] [(.ref b)])) rfl rfl (hb hby own_d16_4) _ ?_
    show own_S p e below T2 m 5 #[rv a] [(.int (1 : Int32))] _
    refine XS.aloadN X2.here hx rfl (hb hby own_d16_5) rfl rfl ?_
    show own_S p e below T2 m 6 #[rv a] [(.ref a), (.int (1 : Int32))] _
    exact kt
  refine own_st sg3 ?_
  obtain ⟨_, T4, L4, X4, hQ4, st4⟩ := own_callV (y := (⟨"java/lang/String", "coder", "()B"⟩ : MethodName)) (y0 := (⟨"java/lang/String", "coder", "()B"⟩ : MethodName)) (a := a) (C := "java/lang/String") X2 hx hZ hown SS.1 (hw _ (List.mem_of_getElem? (i := 76) rfl)) (hw _ (List.mem_of_getElem? (i := 77) rfl)) (hw _ (List.mem_of_getElem? (i := 79) rfl)) (notFace_of_selects (args := #[]) (mvT hZ (hw _ (List.mem_of_getElem? (i := 79) rfl)))) (hw _ (List.mem_of_getElem? (i := 78) rfl)) (hw _ (List.mem_of_getElem? (i := 7) rfl)) (hw _ (List.mem_of_getElem? (i := 80) rfl)) (by decide) (own_rmcod l Z a0 hw a cc h0 n0 Z0 SS.2.1 SC hcc) e2 (g := (mkF m 6 #[rv a] [(.ref a), (.int (1 : Int32))])) rfl (by rw [hml]; rfl) (argsL := []) (rest := [(.int (1 : Int32))]) (lenOf own_pd5 rfl) rfl (W := 1) (by show 2 * 0 + _ ≤ _; exact Nat.le_of_eq rfl) (hb hby own_d16_6) (by decide) (by decide) (by decide) (by decide)
  obtain ⟨rfl, Nq4, e4⟩ := hQ4
  refine own_st st4 ?_
  have N4 := Fr.app N0 Nq4
  show own_Go p e below _ T4 (mkF m 9 #[rv a] [(.int (0 : Int32)), (.int (1 : Int32))])
  obtain ⟨rr, hrr⟩ : ∃ z : Int32, z = ((1 : Int32) >>> ((0 : Int32) &&& 31)) := ⟨_, rfl⟩
  have sg5 : own_V p e below T4 (mkF m 10 #[rv a] [(.int rr)]) (mkF m 9 #[rv a] [(.int (0 : Int32)), (.int (1 : Int32))]) := by
    intro t kt
    refine XS.ishr X4.here hx rfl (hb hby own_d16_9) rfl ?_
    show own_S p e below T4 m 10 #[rv a] [(.int ((1 : Int32) >>> ((0 : Int32) &&& 31)))] _
    rw [hrr] at kt
    exact kt
  refine own_st sg5 ?_
  have hr0 : rr = 1 := by rw [hrr]; decide
  rw [hr0]
  show own_Go p e below _ T4 (mkF m 10 #[rv a] [(.int (1 : Int32))])
  exact own_retI X4 hx Bd.notSynchronized Bd.returns (hb hby own_d16_10) (by decide) (by decide) e4 ⟨rfl, N4, rfl⟩
theorem own_d13_0 : decode jdk_42_method_55_code 0 = .ok (.aload_n 0, 1) := by decide +kernel
theorem own_d13_1 : decode jdk_42_method_55_code 1 = .ok (.getfield 9, 3) := by decide +kernel
theorem own_d13_4 : decode jdk_42_method_55_code 4 = .ok (.arraylength, 1) := by decide +kernel
theorem own_d13_5 : decode jdk_42_method_55_code 5 = .ok (.ifCond .ne 7, 3) := by decide +kernel
theorem own_d13_8 : decode jdk_42_method_55_code 8 = .ok (.iconst 1, 1) := by decide +kernel
theorem own_d13_9 : decode jdk_42_method_55_code 9 = .ok (.goto 4, 3) := by decide +kernel
theorem own_d13_12 : decode jdk_42_method_55_code 12 = .ok (.iconst 0, 1) := by decide +kernel
theorem own_d13_13 : decode jdk_42_method_55_code 13 = .ok (.ireturn, 1) := by decide +kernel
theorem own_efemp0 (m : MethodId) (a : Nat) : entryFrame m #[(.ref a)] 1 = mkF m 0 #[rv a] [] := by first | (simp [entryFrame, mkF, argsToLocals, Value.category]; done) | rfl
set_option maxRecDepth 65536 in
set_option maxHeartbeats 40000000 in
theorem own_rmemp0 (l : Launch) (Z : State) (a0 : Array Value) (hw : ∀ d ∈ tables_1, d.before a0 Z = true) (a : Nat) (b : Nat) (f : Nat → Int32) (h0 : Heap) (n0 : Nat) (Z0 : n0 ≤ h0.size) (SS : own_Str Z h0 a b 0 f) :
    own_Ct l Z (⟨"java/lang/String", "isEmpty", "()Z"⟩ : MethodName) jdk_42_method_55_code 1 (some .boolean) ({ frames := 0, cells := 0, slots := 0, locals := 0 } : Room) #[(.ref a)] h0 (fun v h L => v = some (.int 1) ∧ Fr n0 L ∧ h = h0) := by
  refine own_body (y := (⟨"java/lang/String", "isEmpty", "()Z"⟩ : MethodName)) (Q := fun v h L => v = some (.int 1) ∧ Fr n0 L ∧ h = h0) (plainFor_of_name own_pn1) ?_
  intro p e s m below meth c s₁ Bd hml0 hZ e0
  have hx := Bd.exec
  have hby := Bd.bytes
  have hml : c.maxLocals = 1 := hml0
  have hown : s.vm.findClass "java/lang/String" = some m.cls := findClass_of_methodNamed Bd.named
  have hnm := (name_of_methodNamed Bd.named Bd.method).1
  have X0 : Stand p l e ({ frames := 0, cells := 0, slots := 0, locals := 0 } : Room) s m #[(.ref a)] below meth c s₁ [] 0 0 := Stand.of_body Bd
  have N0 := Fr.nil n0
  rw [own_efemp0]
  have sg1 : own_V p e below s₁ (mkF m 1 #[rv a] [(.ref a)]) (mkF m 0 #[rv a] []) := by
    intro t kt
    refine XS.aloadN X0.here hx rfl (hb hby own_d13_0) rfl rfl ?_
    show own_S p e below s₁ m 1 #[rv a] [(.ref a)] _
    exact kt
  refine own_st sg1 ?_
  obtain ⟨T2, X2, e2, st2⟩ := getF X0 hx hZ hown (host := "") (Or.inl (hw _ (List.mem_of_getElem? (i := 32) rfl))) Via.refl e0 SS.2.2.1 (g := (mkF m 1 #[rv a] [(.ref a)])) rfl rfl (hb hby own_d13_1)
  refine own_st st2 ?_
  show own_Go p e below _ T2 (mkF m 4 #[rv a] [(.ref b)])
  have sg3 : own_V p e below T2 (mkF m 13 #[rv a] [(.int (1 : Int32))]) (mkF m 4 #[rv a] [(.ref b)]) := by
    intro t kt
    refine own_len (z := (0 : Int32)) X2 hx hZ e2 SS.2.2.2 (by decide) (g := (mkF m 4 #[rv a] [(.ref b)])) rfl rfl (hb hby own_d13_4) _ ?_
    show own_S p e below T2 m 5 #[rv a] [(.int (0 : Int32))] _
    refine XS.ifNo X2.here hx rfl (hb hby own_d13_5) rfl ((if0 _ _).trans (teq (by decide : (0 : Int32) = (0 : Int32))).2) ?_
    show own_S p e below T2 m 8 #[rv a] [] _
    refine XS.iconst X2.here hx rfl (hb hby own_d13_8) ?_
    show own_S p e below T2 m 9 #[rv a] [(.int (1 : Int32))] _
    refine XS.goto X2.here hx rfl (pc0 := 9) (pc' := 13) rfl (hb hby own_d13_9) (by decide) (by decide) ?_
    show own_S p e below T2 m 13 #[rv a] [(.int (1 : Int32))] _
    exact kt
  refine own_st sg3 ?_
  exact own_retZ X2 hx Bd.notSynchronized Bd.returns (hb hby own_d13_13) (by decide) (by decide) (by decide) e2 ⟨rfl, N0, rfl⟩
theorem own_efemp1 (m : MethodId) (a : Nat) : entryFrame m #[(.ref a)] 1 = mkF m 0 #[rv a] [] := by first | (simp [entryFrame, mkF, argsToLocals, Value.category]; done) | rfl
set_option maxRecDepth 65536 in
set_option maxHeartbeats 40000000 in
theorem own_rmemp1 (l : Launch) (Z : State) (a0 : Array Value) (hw : ∀ d ∈ tables_1, d.before a0 Z = true) (a : Nat) (b : Nat) (f : Nat → Int32) (h0 : Heap) (n0 : Nat) (Z0 : n0 ≤ h0.size) (SS : own_Str Z h0 a b 1 f) :
    own_Ct l Z (⟨"java/lang/String", "isEmpty", "()Z"⟩ : MethodName) jdk_42_method_55_code 1 (some .boolean) ({ frames := 0, cells := 0, slots := 0, locals := 0 } : Room) #[(.ref a)] h0 (fun v h L => v = some (.int 0) ∧ Fr n0 L ∧ h = h0) := by
  refine own_body (y := (⟨"java/lang/String", "isEmpty", "()Z"⟩ : MethodName)) (Q := fun v h L => v = some (.int 0) ∧ Fr n0 L ∧ h = h0) (plainFor_of_name own_pn1) ?_
  intro p e s m below meth c s₁ Bd hml0 hZ e0
  have hx := Bd.exec
  have hby := Bd.bytes
  have hml : c.maxLocals = 1 := hml0
  have hown : s.vm.findClass "java/lang/String" = some m.cls := findClass_of_methodNamed Bd.named
  have hnm := (name_of_methodNamed Bd.named Bd.method).1
  have X0 : Stand p l e ({ frames := 0, cells := 0, slots := 0, locals := 0 } : Room) s m #[(.ref a)] below meth c s₁ [] 0 0 := Stand.of_body Bd
  have N0 := Fr.nil n0
  rw [own_efemp1]
  have sg1 : own_V p e below s₁ (mkF m 1 #[rv a] [(.ref a)]) (mkF m 0 #[rv a] []) := by
    intro t kt
    refine XS.aloadN X0.here hx rfl (hb hby own_d13_0) rfl rfl ?_
    show own_S p e below s₁ m 1 #[rv a] [(.ref a)] _
    exact kt
  refine own_st sg1 ?_
  obtain ⟨T2, X2, e2, st2⟩ := getF X0 hx hZ hown (host := "") (Or.inl (hw _ (List.mem_of_getElem? (i := 32) rfl))) Via.refl e0 SS.2.2.1 (g := (mkF m 1 #[rv a] [(.ref a)])) rfl rfl (hb hby own_d13_1)
  refine own_st st2 ?_
  show own_Go p e below _ T2 (mkF m 4 #[rv a] [(.ref b)])
  have sg3 : own_V p e below T2 (mkF m 13 #[rv a] [(.int (0 : Int32))]) (mkF m 4 #[rv a] [(.ref b)]) := by
    intro t kt
    refine own_len (z := (1 : Int32)) X2 hx hZ e2 SS.2.2.2 (by decide) (g := (mkF m 4 #[rv a] [(.ref b)])) rfl rfl (hb hby own_d13_4) _ ?_
    show own_S p e below T2 m 5 #[rv a] [(.int (1 : Int32))] _
    refine XS.ifYes X2.here hx rfl (pc0 := 5) (pc' := 12) rfl (hb hby own_d13_5) rfl ((if0 _ _).trans (feq (by decide : ¬ (1 : Int32) = (0 : Int32))).2) (by decide) (by decide) ?_
    show own_S p e below T2 m 12 #[rv a] [] _
    refine XS.iconst X2.here hx rfl (hb hby own_d13_12) ?_
    show own_S p e below T2 m 13 #[rv a] [(.int (0 : Int32))] _
    exact kt
  refine own_st sg3 ?_
  exact own_retZ X2 hx Bd.notSynchronized Bd.returns (hb hby own_d13_13) (by decide) (by decide) (by decide) e2 ⟨rfl, N0, rfl⟩
theorem own_d18_0 : decode jdk_48_method_14_code 0 = .ok (.iconst 0, 1) := by decide +kernel
theorem own_d18_1 : decode jdk_48_method_14_code 1 = .ok (.istore 5, 2) := by decide +kernel
theorem own_d18_3 : decode jdk_48_method_14_code 3 = .ok (.iload 4, 2) := by decide +kernel
theorem own_d18_5 : decode jdk_48_method_14_code 5 = .ok (.bipush 7, 2) := by decide +kernel
theorem own_d18_7 : decode jdk_48_method_14_code 7 = .ok (.if_icmp .le 63, 3) := by decide +kernel
theorem own_d18_10 : decode jdk_48_method_14_code 10 = .ok (.aload_n 0, 1) := by decide +kernel
theorem own_d18_11 : decode jdk_48_method_14_code 11 = .ok (.iload_n 1, 1) := by decide +kernel
theorem own_d18_12 : decode jdk_48_method_14_code 12 = .ok (.baload, 1) := by decide +kernel
theorem own_d18_13 : decode jdk_48_method_14_code 13 = .ok (.aload_n 2, 1) := by decide +kernel
theorem own_d18_14 : decode jdk_48_method_14_code 14 = .ok (.iload_n 3, 1) := by decide +kernel
theorem own_d18_15 : decode jdk_48_method_14_code 15 = .ok (.baload, 1) := by decide +kernel
theorem own_d18_16 : decode jdk_48_method_14_code 16 = .ok (.if_icmp .eq 5, 3) := by decide +kernel
theorem own_d18_19 : decode jdk_48_method_14_code 19 = .ok (.iconst 0, 1) := by decide +kernel
theorem own_d18_20 : decode jdk_48_method_14_code 20 = .ok (.ireturn, 1) := by decide +kernel
theorem own_d18_21 : decode jdk_48_method_14_code 21 = .ok (.getstatic 126, 3) := by decide +kernel
theorem own_d18_24 : decode jdk_48_method_14_code 24 = .ok (.iload_n 1, 1) := by decide +kernel
theorem own_d18_25 : decode jdk_48_method_14_code 25 = .ok (.iadd, 1) := by decide +kernel
theorem own_d18_26 : decode jdk_48_method_14_code 26 = .ok (.istore 6, 2) := by decide +kernel
theorem own_d18_28 : decode jdk_48_method_14_code 28 = .ok (.getstatic 126, 3) := by decide +kernel
theorem own_d18_31 : decode jdk_48_method_14_code 31 = .ok (.iload_n 3, 1) := by decide +kernel
theorem own_d18_32 : decode jdk_48_method_14_code 32 = .ok (.iadd, 1) := by decide +kernel
theorem own_d18_33 : decode jdk_48_method_14_code 33 = .ok (.istore 7, 2) := by decide +kernel
theorem own_d18_35 : decode jdk_48_method_14_code 35 = .ok (.aload_n 0, 1) := by decide +kernel
theorem own_d18_36 : decode jdk_48_method_14_code 36 = .ok (.iload 6, 2) := by decide +kernel
theorem own_d18_38 : decode jdk_48_method_14_code 38 = .ok (.i2l, 1) := by decide +kernel
theorem own_d18_39 : decode jdk_48_method_14_code 39 = .ok (.aload_n 2, 1) := by decide +kernel
theorem own_d18_40 : decode jdk_48_method_14_code 40 = .ok (.iload 7, 2) := by decide +kernel
theorem own_d18_42 : decode jdk_48_method_14_code 42 = .ok (.i2l, 1) := by decide +kernel
theorem own_d18_43 : decode jdk_48_method_14_code 43 = .ok (.iload 4, 2) := by decide +kernel
theorem own_d18_45 : decode jdk_48_method_14_code 45 = .ok (.getstatic 129, 3) := by decide +kernel
theorem own_d18_48 : decode jdk_48_method_14_code 48 = .ok (.invokestatic 122, 3) := by decide +kernel
theorem own_d18_51 : decode jdk_48_method_14_code 51 = .ok (.istore 5, 2) := by decide +kernel
theorem own_d18_53 : decode jdk_48_method_14_code 53 = .ok (.iload 5, 2) := by decide +kernel
theorem own_d18_55 : decode jdk_48_method_14_code 55 = .ok (.ifCond .lt 6, 3) := by decide +kernel
theorem own_d18_58 : decode jdk_48_method_14_code 58 = .ok (.iload 5, 2) := by decide +kernel
theorem own_d18_60 : decode jdk_48_method_14_code 60 = .ok (.ireturn, 1) := by decide +kernel
theorem own_d18_61 : decode jdk_48_method_14_code 61 = .ok (.iload 4, 2) := by decide +kernel
theorem own_d18_63 : decode jdk_48_method_14_code 63 = .ok (.iload 5, 2) := by decide +kernel
theorem own_d18_65 : decode jdk_48_method_14_code 65 = .ok (.iconst (-1), 1) := by decide +kernel
theorem own_d18_66 : decode jdk_48_method_14_code 66 = .ok (.ixor, 1) := by decide +kernel
theorem own_d18_67 : decode jdk_48_method_14_code 67 = .ok (.isub, 1) := by decide +kernel
theorem own_d18_68 : decode jdk_48_method_14_code 68 = .ok (.istore 5, 2) := by decide +kernel
theorem own_d18_70 : decode jdk_48_method_14_code 70 = .ok (.iload 5, 2) := by decide +kernel
theorem own_d18_72 : decode jdk_48_method_14_code 72 = .ok (.iload 4, 2) := by decide +kernel
theorem own_d18_74 : decode jdk_48_method_14_code 74 = .ok (.if_icmp .ge 27, 3) := by decide +kernel
theorem own_d18_77 : decode jdk_48_method_14_code 77 = .ok (.aload_n 0, 1) := by decide +kernel
theorem own_d18_78 : decode jdk_48_method_14_code 78 = .ok (.iload_n 1, 1) := by decide +kernel
theorem own_d18_79 : decode jdk_48_method_14_code 79 = .ok (.iload 5, 2) := by decide +kernel
theorem own_d18_81 : decode jdk_48_method_14_code 81 = .ok (.iadd, 1) := by decide +kernel
theorem own_d18_82 : decode jdk_48_method_14_code 82 = .ok (.baload, 1) := by decide +kernel
theorem own_d18_83 : decode jdk_48_method_14_code 83 = .ok (.aload_n 2, 1) := by decide +kernel
theorem own_d18_84 : decode jdk_48_method_14_code 84 = .ok (.iload_n 3, 1) := by decide +kernel
theorem own_d18_85 : decode jdk_48_method_14_code 85 = .ok (.iload 5, 2) := by decide +kernel
theorem own_d18_87 : decode jdk_48_method_14_code 87 = .ok (.iadd, 1) := by decide +kernel
theorem own_d18_88 : decode jdk_48_method_14_code 88 = .ok (.baload, 1) := by decide +kernel
theorem own_d18_89 : decode jdk_48_method_14_code 89 = .ok (.if_icmp .eq 6, 3) := by decide +kernel
theorem own_d18_92 : decode jdk_48_method_14_code 92 = .ok (.iload 5, 2) := by decide +kernel
theorem own_d18_94 : decode jdk_48_method_14_code 94 = .ok (.ireturn, 1) := by decide +kernel
theorem own_d18_95 : decode jdk_48_method_14_code 95 = .ok (.iinc 5 1, 3) := by decide +kernel
theorem own_d18_98 : decode jdk_48_method_14_code 98 = .ok (.goto (-28), 3) := by decide +kernel
theorem own_d18_101 : decode jdk_48_method_14_code 101 = .ok (.iconst (-1), 1) := by decide +kernel
theorem own_d18_102 : decode jdk_48_method_14_code 102 = .ok (.ireturn, 1) := by decide +kernel
theorem own_pn3 : plainName "jdk/internal/util/ArraysSupport" = true := by first | (simp [plainName, overriddenIn]; done) | decide +kernel
theorem own_efmm (m : MethodId) (a : Nat) (b : Nat) : entryFrame m #[(.ref a), (.int (0 : Int32)), (.ref b), (.int (0 : Int32)), (.int (1 : Int32))] 8 = mkF m 0 #[rv a, iv (0 : Int32), rv b, iv (0 : Int32), iv (1 : Int32), .unset, .unset, .unset] [] := by first | (simp [entryFrame, mkF, argsToLocals, Value.category]; done) | rfl
set_option maxRecDepth 65536 in
set_option maxHeartbeats 40000000 in
theorem own_rmmm (l : Launch) (Z : State) (a0 : Array Value) (hw : ∀ d ∈ tables_1, d.before a0 Z = true) (a : Nat) (b : Nat) (f g2 : Nat → Int32) (h0 : Heap) (n0 : Nat) (Z0 : n0 ≤ h0.size) (A : own_AI Z h0 a .byte 1 f) (B : own_AI Z h0 b .byte 1 g2) (hfg : f 0 = g2 0) :
    own_Ct l Z (⟨"jdk/internal/util/ArraysSupport", "mismatch", "([BI[BII)I"⟩ : MethodName) jdk_48_method_14_code 8 (some .int) ({ frames := 0, cells := 0, slots := 0, locals := 0 } : Room) #[(.ref a), (.int (0 : Int32)), (.ref b), (.int (0 : Int32)), (.int (1 : Int32))] h0 (fun v h L => v = some (.int (-1)) ∧ Fr n0 L ∧ h = h0) := by
  refine own_body (y := (⟨"jdk/internal/util/ArraysSupport", "mismatch", "([BI[BII)I"⟩ : MethodName)) (Q := fun v h L => v = some (.int (-1)) ∧ Fr n0 L ∧ h = h0) (plainFor_of_name own_pn3) ?_
  intro p e s m below meth c s₁ Bd hml0 hZ e0
  have hx := Bd.exec
  have hby := Bd.bytes
  have hml : c.maxLocals = 8 := hml0
  have hown : s.vm.findClass "jdk/internal/util/ArraysSupport" = some m.cls := findClass_of_methodNamed Bd.named
  have hnm := (name_of_methodNamed Bd.named Bd.method).1
  have X0 : Stand p l e ({ frames := 0, cells := 0, slots := 0, locals := 0 } : Room) s m #[(.ref a), (.int (0 : Int32)), (.ref b), (.int (0 : Int32)), (.int (1 : Int32))] below meth c s₁ [] 0 0 := Stand.of_body Bd
  have N0 := Fr.nil n0
  rw [own_efmm]
  have sg1 : own_V p e below s₁ (mkF m 70 #[rv a, iv (0 : Int32), rv b, iv (0 : Int32), iv (1 : Int32), iv (0 : Int32), .unset, .unset] []) (mkF m 0 #[rv a, iv (0 : Int32), rv b, iv (0 : Int32), iv (1 : Int32), .unset, .unset, .unset] []) := by
    intro t kt
    refine XS.iconst X0.here hx rfl (hb hby own_d18_0) ?_
    show own_S p e below s₁ m 1 #[rv a, iv (0 : Int32), rv b, iv (0 : Int32), iv (1 : Int32), .unset, .unset, .unset] [(.int (0 : Int32))] _
    refine XS.istore X0.here hx rfl (hb hby own_d18_1) rfl (l' := #[rv a, iv (0 : Int32), rv b, iv (0 : Int32), iv (1 : Int32), iv (0 : Int32), .unset, .unset]) rfl ?_
    show own_S p e below s₁ m 3 #[rv a, iv (0 : Int32), rv b, iv (0 : Int32), iv (1 : Int32), iv (0 : Int32), .unset, .unset] [] _
    refine XS.iload X0.here hx rfl (hb hby own_d18_3) rfl ?_
    show own_S p e below s₁ m 5 #[rv a, iv (0 : Int32), rv b, iv (0 : Int32), iv (1 : Int32), iv (0 : Int32), .unset, .unset] [(.int (1 : Int32))] _
    refine XS.bipush X0.here hx rfl (hb hby own_d18_5) ?_
    show own_S p e below s₁ m 7 #[rv a, iv (0 : Int32), rv b, iv (0 : Int32), iv (1 : Int32), iv (0 : Int32), .unset, .unset] [(.int (7 : Int32)), (.int (1 : Int32))] _
    refine XS.icmpYes X0.here hx rfl (pc0 := 7) (pc' := 70) rfl (hb hby own_d18_7) rfl (flt (by decide : ¬ (7 : Int32) < (1 : Int32))).2.2.2 (by decide) (by decide) ?_
    show own_S p e below s₁ m 70 #[rv a, iv (0 : Int32), rv b, iv (0 : Int32), iv (1 : Int32), iv (0 : Int32), .unset, .unset] [] _
    exact kt
  refine own_st sg1 ?_
  have sg2 : own_V p e below s₁ (mkF m 89 #[rv a, iv (0 : Int32), rv b, iv (0 : Int32), iv (1 : Int32), iv (0 : Int32), .unset, .unset] [(.int (g2 0)), (.int (f 0))]) (mkF m 70 #[rv a, iv (0 : Int32), rv b, iv (0 : Int32), iv (1 : Int32), iv (0 : Int32), .unset, .unset] []) := by
    intro t kt
    refine XS.iload X0.here hx rfl (hb hby own_d18_70) rfl ?_
    show own_S p e below s₁ m 72 #[rv a, iv (0 : Int32), rv b, iv (0 : Int32), iv (1 : Int32), iv (0 : Int32), .unset, .unset] [(.int (0 : Int32))] _
    refine XS.iload X0.here hx rfl (hb hby own_d18_72) rfl ?_
    show own_S p e below s₁ m 74 #[rv a, iv (0 : Int32), rv b, iv (0 : Int32), iv (1 : Int32), iv (0 : Int32), .unset, .unset] [(.int (1 : Int32)), (.int (0 : Int32))] _
    refine XS.icmpNo X0.here hx rfl (hb hby own_d18_74) rfl (tlt (by decide : (0 : Int32) < (1 : Int32))).2.1 ?_
    show own_S p e below s₁ m 77 #[rv a, iv (0 : Int32), rv b, iv (0 : Int32), iv (1 : Int32), iv (0 : Int32), .unset, .unset] [] _
    refine XS.aloadN X0.here hx rfl (hb hby own_d18_77) rfl rfl ?_
    show own_S p e below s₁ m 78 #[rv a, iv (0 : Int32), rv b, iv (0 : Int32), iv (1 : Int32), iv (0 : Int32), .unset, .unset] [(.ref a)] _
    refine XS.iloadN X0.here hx rfl (hb hby own_d18_78) rfl ?_
    show own_S p e below s₁ m 79 #[rv a, iv (0 : Int32), rv b, iv (0 : Int32), iv (1 : Int32), iv (0 : Int32), .unset, .unset] [(.int (0 : Int32)), (.ref a)] _
    refine XS.iload X0.here hx rfl (hb hby own_d18_79) rfl ?_
    show own_S p e below s₁ m 81 #[rv a, iv (0 : Int32), rv b, iv (0 : Int32), iv (1 : Int32), iv (0 : Int32), .unset, .unset] [(.int (0 : Int32)), (.int (0 : Int32)), (.ref a)] _
    refine XS.iadd X0.here hx rfl (hb hby own_d18_81) rfl ?_
    show own_S p e below s₁ m 82 #[rv a, iv (0 : Int32), rv b, iv (0 : Int32), iv (1 : Int32), iv (0 : Int32), .unset, .unset] [(.int ((0 : Int32) + (0 : Int32))), (.ref a)] _
    refine own_rdB X0 hx hZ e0 A (k := 0) (by decide) (by decide) (g := (mkF m 82 #[rv a, iv (0 : Int32), rv b, iv (0 : Int32), iv (1 : Int32), iv (0 : Int32), .unset, .unset] [(.int ((0 : Int32) + (0 : Int32))), (.ref a)])) rfl rfl (hb hby own_d18_82) _ ?_
    show own_S p e below s₁ m 83 #[rv a, iv (0 : Int32), rv b, iv (0 : Int32), iv (1 : Int32), iv (0 : Int32), .unset, .unset] [(.int (f 0))] _
    refine XS.aloadN X0.here hx rfl (hb hby own_d18_83) rfl rfl ?_
    show own_S p e below s₁ m 84 #[rv a, iv (0 : Int32), rv b, iv (0 : Int32), iv (1 : Int32), iv (0 : Int32), .unset, .unset] [(.ref b), (.int (f 0))] _
    refine XS.iloadN X0.here hx rfl (hb hby own_d18_84) rfl ?_
    show own_S p e below s₁ m 85 #[rv a, iv (0 : Int32), rv b, iv (0 : Int32), iv (1 : Int32), iv (0 : Int32), .unset, .unset] [(.int (0 : Int32)), (.ref b), (.int (f 0))] _
    refine XS.iload X0.here hx rfl (hb hby own_d18_85) rfl ?_
    show own_S p e below s₁ m 87 #[rv a, iv (0 : Int32), rv b, iv (0 : Int32), iv (1 : Int32), iv (0 : Int32), .unset, .unset] [(.int (0 : Int32)), (.int (0 : Int32)), (.ref b), (.int (f 0))] _
    refine XS.iadd X0.here hx rfl (hb hby own_d18_87) rfl ?_
    show own_S p e below s₁ m 88 #[rv a, iv (0 : Int32), rv b, iv (0 : Int32), iv (1 : Int32), iv (0 : Int32), .unset, .unset] [(.int ((0 : Int32) + (0 : Int32))), (.ref b), (.int (f 0))] _
    refine own_rdB X0 hx hZ e0 B (k := 0) (by decide) (by decide) (g := (mkF m 88 #[rv a, iv (0 : Int32), rv b, iv (0 : Int32), iv (1 : Int32), iv (0 : Int32), .unset, .unset] [(.int ((0 : Int32) + (0 : Int32))), (.ref b), (.int (f 0))])) rfl rfl (hb hby own_d18_88) _ ?_
    show own_S p e below s₁ m 89 #[rv a, iv (0 : Int32), rv b, iv (0 : Int32), iv (1 : Int32), iv (0 : Int32), .unset, .unset] [(.int (g2 0)), (.int (f 0))] _
    exact kt
  refine own_st sg2 ?_
  have hc3 : (f 0) = (g2 0) := hfg
  have sg4 : own_V p e below s₁ (mkF m 95 #[rv a, iv (0 : Int32), rv b, iv (0 : Int32), iv (1 : Int32), iv (0 : Int32), .unset, .unset] []) (mkF m 89 #[rv a, iv (0 : Int32), rv b, iv (0 : Int32), iv (1 : Int32), iv (0 : Int32), .unset, .unset] [(.int (g2 0)), (.int (f 0))]) := by
    intro t kt
    refine XS.icmpYes X0.here hx rfl (pc0 := 89) (pc' := 95) rfl (hb hby own_d18_89) rfl (teq hc3).1 (by decide) (by decide) ?_
    exact kt
  refine own_st sg4 ?_
  have sg5 : own_V p e below s₁ (mkF m 102 #[rv a, iv (0 : Int32), rv b, iv (0 : Int32), iv (1 : Int32), iv ((0 : Int32) + (1 : Int32)), .unset, .unset] [(.int (-1 : Int32))]) (mkF m 95 #[rv a, iv (0 : Int32), rv b, iv (0 : Int32), iv (1 : Int32), iv (0 : Int32), .unset, .unset] []) := by
    intro t kt
    refine XS.iinc X0.here hx rfl (hb hby own_d18_95) rfl (l' := #[rv a, iv (0 : Int32), rv b, iv (0 : Int32), iv (1 : Int32), iv ((0 : Int32) + (1 : Int32)), .unset, .unset]) rfl ?_
    show own_S p e below s₁ m 98 #[rv a, iv (0 : Int32), rv b, iv (0 : Int32), iv (1 : Int32), iv ((0 : Int32) + (1 : Int32)), .unset, .unset] [] _
    refine XS.goto X0.here hx rfl (pc0 := 98) (pc' := 70) rfl (hb hby own_d18_98) (by decide) (by decide) ?_
    show own_S p e below s₁ m 70 #[rv a, iv (0 : Int32), rv b, iv (0 : Int32), iv (1 : Int32), iv ((0 : Int32) + (1 : Int32)), .unset, .unset] [] _
    refine XS.iload X0.here hx rfl (hb hby own_d18_70) rfl ?_
    show own_S p e below s₁ m 72 #[rv a, iv (0 : Int32), rv b, iv (0 : Int32), iv (1 : Int32), iv ((0 : Int32) + (1 : Int32)), .unset, .unset] [(.int ((0 : Int32) + (1 : Int32)))] _
    refine XS.iload X0.here hx rfl (hb hby own_d18_72) rfl ?_
    show own_S p e below s₁ m 74 #[rv a, iv (0 : Int32), rv b, iv (0 : Int32), iv (1 : Int32), iv ((0 : Int32) + (1 : Int32)), .unset, .unset] [(.int (1 : Int32)), (.int ((0 : Int32) + (1 : Int32)))] _
    refine XS.icmpYes X0.here hx rfl (pc0 := 74) (pc' := 101) rfl (hb hby own_d18_74) rfl (flt (by decide : ¬ ((0 : Int32) + (1 : Int32)) < (1 : Int32))).2.1 (by decide) (by decide) ?_
    show own_S p e below s₁ m 101 #[rv a, iv (0 : Int32), rv b, iv (0 : Int32), iv (1 : Int32), iv ((0 : Int32) + (1 : Int32)), .unset, .unset] [] _
    refine XS.iconst X0.here hx rfl (hb hby own_d18_101) ?_
    show own_S p e below s₁ m 102 #[rv a, iv (0 : Int32), rv b, iv (0 : Int32), iv (1 : Int32), iv ((0 : Int32) + (1 : Int32)), .unset, .unset] [(.int (-1 : Int32))] _
    exact kt
  refine own_st sg5 ?_
  exact own_retI X0 hx Bd.notSynchronized Bd.returns (hb hby own_d18_102) (by decide) (by decide) e0 ⟨rfl, N0, rfl⟩
theorem own_d15_0 : decode jdk_42_method_75_code 0 = .ok (.iload_n 2, 1) := by decide +kernel
theorem own_d15_1 : decode jdk_42_method_75_code 1 = .ok (.ifCond .lt 16, 3) := by decide +kernel
theorem own_d15_4 : decode jdk_42_method_75_code 4 = .ok (.iload_n 2, 1) := by decide +kernel
theorem own_d15_5 : decode jdk_42_method_75_code 5 = .ok (.aload_n 0, 1) := by decide +kernel
theorem own_d15_6 : decode jdk_42_method_75_code 6 = .ok (.invokevirtual 505, 3) := by decide +kernel
theorem own_d15_9 : decode jdk_42_method_75_code 9 = .ok (.aload_n 1, 1) := by decide +kernel
theorem own_d15_10 : decode jdk_42_method_75_code 10 = .ok (.invokevirtual 505, 3) := by decide +kernel
theorem own_d15_13 : decode jdk_42_method_75_code 13 = .ok (.isub, 1) := by decide +kernel
theorem own_d15_14 : decode jdk_42_method_75_code 14 = .ok (.if_icmp .le 5, 3) := by decide +kernel
theorem own_d15_17 : decode jdk_42_method_75_code 17 = .ok (.iconst 0, 1) := by decide +kernel
theorem own_d15_18 : decode jdk_42_method_75_code 18 = .ok (.ireturn, 1) := by decide +kernel
theorem own_d15_19 : decode jdk_42_method_75_code 19 = .ok (.aload_n 0, 1) := by decide +kernel
theorem own_d15_20 : decode jdk_42_method_75_code 20 = .ok (.getfield 9, 3) := by decide +kernel
theorem own_d15_23 : decode jdk_42_method_75_code 23 = .ok (.astore_n 3, 1) := by decide +kernel
theorem own_d15_24 : decode jdk_42_method_75_code 24 = .ok (.aload_n 1, 1) := by decide +kernel
theorem own_d15_25 : decode jdk_42_method_75_code 25 = .ok (.getfield 9, 3) := by decide +kernel
theorem own_d15_28 : decode jdk_42_method_75_code 28 = .ok (.astore 4, 2) := by decide +kernel
theorem own_d15_30 : decode jdk_42_method_75_code 30 = .ok (.iconst 0, 1) := by decide +kernel
theorem own_d15_31 : decode jdk_42_method_75_code 31 = .ok (.istore 5, 2) := by decide +kernel
theorem own_d15_33 : decode jdk_42_method_75_code 33 = .ok (.aload 4, 2) := by decide +kernel
theorem own_d15_35 : decode jdk_42_method_75_code 35 = .ok (.arraylength, 1) := by decide +kernel
theorem own_d15_36 : decode jdk_42_method_75_code 36 = .ok (.istore 6, 2) := by decide +kernel
theorem own_d15_38 : decode jdk_42_method_75_code 38 = .ok (.aload_n 0, 1) := by decide +kernel
theorem own_d15_39 : decode jdk_42_method_75_code 39 = .ok (.invokevirtual 335, 3) := by decide +kernel
theorem own_d15_42 : decode jdk_42_method_75_code 42 = .ok (.istore 7, 2) := by decide +kernel
theorem own_d15_44 : decode jdk_42_method_75_code 44 = .ok (.iload 7, 2) := by decide +kernel
theorem own_d15_46 : decode jdk_42_method_75_code 46 = .ok (.aload_n 1, 1) := by decide +kernel
theorem own_d15_47 : decode jdk_42_method_75_code 47 = .ok (.invokevirtual 335, 3) := by decide +kernel
theorem own_d15_50 : decode jdk_42_method_75_code 50 = .ok (.if_icmp .ne 32, 3) := by decide +kernel
theorem own_d15_53 : decode jdk_42_method_75_code 53 = .ok (.iload 7, 2) := by decide +kernel
theorem own_d15_55 : decode jdk_42_method_75_code 55 = .ok (.iconst 1, 1) := by decide +kernel
theorem own_d15_56 : decode jdk_42_method_75_code 56 = .ok (.if_icmp .ne 7, 3) := by decide +kernel
theorem own_d15_59 : decode jdk_42_method_75_code 59 = .ok (.iload_n 2, 1) := by decide +kernel
theorem own_d15_60 : decode jdk_42_method_75_code 60 = .ok (.iconst 1, 1) := by decide +kernel
theorem own_d15_61 : decode jdk_42_method_75_code 61 = .ok (.ishl, 1) := by decide +kernel
theorem own_d15_62 : decode jdk_42_method_75_code 62 = .ok (.istore_n 2, 1) := by decide +kernel
theorem own_d15_63 : decode jdk_42_method_75_code 63 = .ok (.aload_n 3, 1) := by decide +kernel
theorem own_d15_64 : decode jdk_42_method_75_code 64 = .ok (.iload_n 2, 1) := by decide +kernel
theorem own_d15_65 : decode jdk_42_method_75_code 65 = .ok (.aload 4, 2) := by decide +kernel
theorem own_d15_67 : decode jdk_42_method_75_code 67 = .ok (.iconst 0, 1) := by decide +kernel
theorem own_d15_68 : decode jdk_42_method_75_code 68 = .ok (.iload 6, 2) := by decide +kernel
theorem own_d15_70 : decode jdk_42_method_75_code 70 = .ok (.invokestatic 607, 3) := by decide +kernel
theorem own_d15_73 : decode jdk_42_method_75_code 73 = .ok (.ifCond .ge 7, 3) := by decide +kernel
theorem own_d15_76 : decode jdk_42_method_75_code 76 = .ok (.iconst 1, 1) := by decide +kernel
theorem own_d15_77 : decode jdk_42_method_75_code 77 = .ok (.goto 4, 3) := by decide +kernel
theorem own_d15_80 : decode jdk_42_method_75_code 80 = .ok (.iconst 0, 1) := by decide +kernel
theorem own_d15_81 : decode jdk_42_method_75_code 81 = .ok (.ireturn, 1) := by decide +kernel
theorem own_d15_82 : decode jdk_42_method_75_code 82 = .ok (.iload 7, 2) := by decide +kernel
theorem own_d15_84 : decode jdk_42_method_75_code 84 = .ok (.ifCond .ne 5, 3) := by decide +kernel
theorem own_d15_87 : decode jdk_42_method_75_code 87 = .ok (.iconst 0, 1) := by decide +kernel
theorem own_d15_88 : decode jdk_42_method_75_code 88 = .ok (.ireturn, 1) := by decide +kernel
theorem own_d15_89 : decode jdk_42_method_75_code 89 = .ok (.iload 5, 2) := by decide +kernel
theorem own_d15_91 : decode jdk_42_method_75_code 91 = .ok (.iload 6, 2) := by decide +kernel
theorem own_d15_93 : decode jdk_42_method_75_code 93 = .ok (.if_icmp .ge 28, 3) := by decide +kernel
theorem own_d15_96 : decode jdk_42_method_75_code 96 = .ok (.aload_n 3, 1) := by decide +kernel
theorem own_d15_97 : decode jdk_42_method_75_code 97 = .ok (.iload_n 2, 1) := by decide +kernel
theorem own_d15_98 : decode jdk_42_method_75_code 98 = .ok (.iinc 2 1, 3) := by decide +kernel
theorem own_d15_101 : decode jdk_42_method_75_code 101 = .ok (.invokestatic 360, 3) := by decide +kernel
theorem own_d15_104 : decode jdk_42_method_75_code 104 = .ok (.aload 4, 2) := by decide +kernel
theorem own_d15_106 : decode jdk_42_method_75_code 106 = .ok (.iload 5, 2) := by decide +kernel
theorem own_d15_108 : decode jdk_42_method_75_code 108 = .ok (.iinc 5 1, 3) := by decide +kernel
theorem own_d15_111 : decode jdk_42_method_75_code 111 = .ok (.baload, 1) := by decide +kernel
theorem own_d15_112 : decode jdk_42_method_75_code 112 = .ok (.sipush 255, 3) := by decide +kernel
theorem own_d15_115 : decode jdk_42_method_75_code 115 = .ok (.iand, 1) := by decide +kernel
theorem own_d15_116 : decode jdk_42_method_75_code 116 = .ok (.if_icmp .eq (-27), 3) := by decide +kernel
theorem own_d15_119 : decode jdk_42_method_75_code 119 = .ok (.iconst 0, 1) := by decide +kernel
theorem own_d15_120 : decode jdk_42_method_75_code 120 = .ok (.ireturn, 1) := by decide +kernel
theorem own_d15_121 : decode jdk_42_method_75_code 121 = .ok (.iconst 1, 1) := by decide +kernel
theorem own_d15_122 : decode jdk_42_method_75_code 122 = .ok (.ireturn, 1) := by decide +kernel
theorem own_pd6 : parseMethodDescriptor "()I" = some ⟨[], some .int⟩ := by decide +kernel
theorem own_pd7 : parseMethodDescriptor "([BI[BII)I" = some ⟨[(.array .byte), .int, (.array .byte), .int, .int], some .int⟩ := by decide +kernel
theorem own_efsw2 (m : MethodId) (a : Nat) (r : Nat) : entryFrame m #[(.ref a), (.ref r), (.int (0 : Int32))] 8 = mkF m 0 #[rv a, rv r, iv (0 : Int32), .unset, .unset, .unset, .unset, .unset] [] := by first | (simp [entryFrame, mkF, argsToLocals, Value.category]; done) | rfl
set_option maxRecDepth 65536 in
set_option maxHeartbeats 40000000 in
theorem own_rmsw2 (l : Launch) (Z : State) (a0 : Array Value) (hw : ∀ d ∈ tables_1, d.before a0 Z = true) (a : Nat) (r : Nat) (b rb : Nat) (cc : Int32) (f g2 : Nat → Int32) (h0 : Heap) (n0 : Nat) (Z0 : n0 ≤ h0.size) (SS : own_Str Z h0 a b 1 f) (SR : own_Str Z h0 r rb 1 g2) (hfg : f 0 = g2 0) (SC : Sta Z h0 "java/lang/String" "COMPACT_STRINGS" "Z" (.int cc)) (hcc : ¬ cc = 0) :
    own_Ct l Z (⟨"java/lang/String", "startsWith", "(Ljava/lang/String;I)Z"⟩ : MethodName) jdk_42_method_75_code 8 (some .boolean) ({ frames := 2, cells := 0, slots := 0, locals := 27 } : Room) #[(.ref a), (.ref r), (.int (0 : Int32))] h0 (fun v h L => v = some (.int 1) ∧ Fr n0 L ∧ h = h0) := by
  refine own_body (y := (⟨"java/lang/String", "startsWith", "(Ljava/lang/String;I)Z"⟩ : MethodName)) (Q := fun v h L => v = some (.int 1) ∧ Fr n0 L ∧ h = h0) (plainFor_of_name own_pn1) ?_
  intro p e s m below meth c s₁ Bd hml0 hZ e0
  have hx := Bd.exec
  have hby := Bd.bytes
  have hml : c.maxLocals = 8 := hml0
  have hown : s.vm.findClass "java/lang/String" = some m.cls := findClass_of_methodNamed Bd.named
  have hnm := (name_of_methodNamed Bd.named Bd.method).1
  have X0 : Stand p l e ({ frames := 2, cells := 0, slots := 0, locals := 27 } : Room) s m #[(.ref a), (.ref r), (.int (0 : Int32))] below meth c s₁ [] 0 0 := Stand.of_body Bd
  have N0 := Fr.nil n0
  rw [own_efsw2]
  have sg1 : own_V p e below s₁ (mkF m 6 #[rv a, rv r, iv (0 : Int32), .unset, .unset, .unset, .unset, .unset] [(.ref a), (.int (0 : Int32))]) (mkF m 0 #[rv a, rv r, iv (0 : Int32), .unset, .unset, .unset, .unset, .unset] []) := by
    intro t kt
    refine XS.iloadN X0.here hx rfl (hb hby own_d15_0) rfl ?_
    show own_S p e below s₁ m 1 #[rv a, rv r, iv (0 : Int32), .unset, .unset, .unset, .unset, .unset] [(.int (0 : Int32))] _
    refine XS.ifNo X0.here hx rfl (hb hby own_d15_1) rfl ((if0 _ _).trans (flt (by decide : ¬ (0 : Int32) < (0 : Int32))).1) ?_
    show own_S p e below s₁ m 4 #[rv a, rv r, iv (0 : Int32), .unset, .unset, .unset, .unset, .unset] [] _
    refine XS.iloadN X0.here hx rfl (hb hby own_d15_4) rfl ?_
    show own_S p e below s₁ m 5 #[rv a, rv r, iv (0 : Int32), .unset, .unset, .unset, .unset, .unset] [(.int (0 : Int32))] _
    refine XS.aloadN X0.here hx rfl (hb hby own_d15_5) rfl rfl ?_
    show own_S p e below s₁ m 6 #[rv a, rv r, iv (0 : Int32), .unset, .unset, .unset, .unset, .unset] [(.ref a), (.int (0 : Int32))] _
    exact kt
  refine own_st sg1 ?_
  obtain ⟨_, T2, L2, X2, hQ2, st2⟩ := own_callV (y := (⟨"java/lang/String", "length", "()I"⟩ : MethodName)) (y0 := (⟨"java/lang/String", "length", "()I"⟩ : MethodName)) (a := a) (C := "java/lang/String") X0 hx hZ hown SS.1 (hw _ (List.mem_of_getElem? (i := 71) rfl)) (hw _ (List.mem_of_getElem? (i := 72) rfl)) (hw _ (List.mem_of_getElem? (i := 74) rfl)) (notFace_of_selects (args := #[]) (mvT hZ (hw _ (List.mem_of_getElem? (i := 74) rfl)))) (hw _ (List.mem_of_getElem? (i := 73) rfl)) (hw _ (List.mem_of_getElem? (i := 7) rfl)) (hw _ (List.mem_of_getElem? (i := 75) rfl)) (by decide) (own_rmlen l Z a0 hw a b cc f h0 n0 Z0 SS SC hcc) e0 (g := (mkF m 6 #[rv a, rv r, iv (0 : Int32), .unset, .unset, .unset, .unset, .unset] [(.ref a), (.int (0 : Int32))])) rfl (by rw [hml]; rfl) (argsL := []) (rest := [(.int (0 : Int32))]) (lenOf own_pd6 rfl) rfl (W := 1) (by show 2 * 0 + _ ≤ _; exact Nat.le_of_eq rfl) (hb hby own_d15_6) (by decide) (by decide) (by decide) (by decide)
  obtain ⟨rfl, Nq2, e2⟩ := hQ2
  refine own_st st2 ?_
  have N2 := Fr.app N0 Nq2
  show own_Go p e below _ T2 (mkF m 9 #[rv a, rv r, iv (0 : Int32), .unset, .unset, .unset, .unset, .unset] [(.int (1 : Int32)), (.int (0 : Int32))])
  have sg3 : own_V p e below T2 (mkF m 10 #[rv a, rv r, iv (0 : Int32), .unset, .unset, .unset, .unset, .unset] [(.ref r), (.int (1 : Int32)), (.int (0 : Int32))]) (mkF m 9 #[rv a, rv r, iv (0 : Int32), .unset, .unset, .unset, .unset, .unset] [(.int (1 : Int32)), (.int (0 : Int32))]) := by
    intro t kt
    refine XS.aloadN X2.here hx rfl (hb hby own_d15_9) rfl rfl ?_
    show own_S p e below T2 m 10 #[rv a, rv r, iv (0 : Int32), .unset, .unset, .unset, .unset, .unset] [(.ref r), (.int (1 : Int32)), (.int (0 : Int32))] _
    exact kt
  refine own_st sg3 ?_
  obtain ⟨_, T4, L4, X4, hQ4, st4⟩ := own_callV (y := (⟨"java/lang/String", "length", "()I"⟩ : MethodName)) (y0 := (⟨"java/lang/String", "length", "()I"⟩ : MethodName)) (a := r) (C := "java/lang/String") X2 hx hZ hown SR.1 (hw _ (List.mem_of_getElem? (i := 71) rfl)) (hw _ (List.mem_of_getElem? (i := 72) rfl)) (hw _ (List.mem_of_getElem? (i := 74) rfl)) (notFace_of_selects (args := #[]) (mvT hZ (hw _ (List.mem_of_getElem? (i := 74) rfl)))) (hw _ (List.mem_of_getElem? (i := 73) rfl)) (hw _ (List.mem_of_getElem? (i := 7) rfl)) (hw _ (List.mem_of_getElem? (i := 75) rfl)) (by decide) (own_rmlen l Z a0 hw r rb cc g2 h0 n0 Z0 SR SC hcc) e2 (g := (mkF m 10 #[rv a, rv r, iv (0 : Int32), .unset, .unset, .unset, .unset, .unset] [(.ref r), (.int (1 : Int32)), (.int (0 : Int32))])) rfl (by rw [hml]; rfl) (argsL := []) (rest := [(.int (1 : Int32)), (.int (0 : Int32))]) (lenOf own_pd6 rfl) rfl (W := 2) (by show 2 * 0 + _ ≤ _; exact Nat.le_of_eq rfl) (hb hby own_d15_10) (by decide) (by decide) (by decide) (by decide)
  obtain ⟨rfl, Nq4, e4⟩ := hQ4
  refine own_st st4 ?_
  have N4 := Fr.app N2 Nq4
  show own_Go p e below _ T4 (mkF m 13 #[rv a, rv r, iv (0 : Int32), .unset, .unset, .unset, .unset, .unset] [(.int (1 : Int32)), (.int (1 : Int32)), (.int (0 : Int32))])
  have sg5 : own_V p e below T4 (mkF m 20 #[rv a, rv r, iv (0 : Int32), .unset, .unset, .unset, .unset, .unset] [(.ref a)]) (mkF m 13 #[rv a, rv r, iv (0 : Int32), .unset, .unset, .unset, .unset, .unset] [(.int (1 : Int32)), (.int (1 : Int32)), (.int (0 : Int32))]) := by
    intro t kt
    refine XS.isub X4.here hx rfl (hb hby own_d15_13) rfl ?_
    show own_S p e below T4 m 14 #[rv a, rv r, iv (0 : Int32), .unset, .unset, .unset, .unset, .unset] [(.int ((1 : Int32) - (1 : Int32))), (.int (0 : Int32))] _
    refine XS.icmpYes X4.here hx rfl (pc0 := 14) (pc' := 19) rfl (hb hby own_d15_14) rfl (flt (by decide : ¬ ((1 : Int32) - (1 : Int32)) < (0 : Int32))).2.2.2 (by decide) (by decide) ?_
    show own_S p e below T4 m 19 #[rv a, rv r, iv (0 : Int32), .unset, .unset, .unset, .unset, .unset] [] _
    refine XS.aloadN X4.here hx rfl (hb hby own_d15_19) rfl rfl ?_
    show own_S p e below T4 m 20 #[rv a, rv r, iv (0 : Int32), .unset, .unset, .unset, .unset, .unset] [(.ref a)] _
    exact kt
  refine own_st sg5 ?_
  obtain ⟨T6, X6, e6, st6⟩ := getF X4 hx hZ hown (host := "") (Or.inl (hw _ (List.mem_of_getElem? (i := 32) rfl))) Via.refl e4 SS.2.2.1 (g := (mkF m 20 #[rv a, rv r, iv (0 : Int32), .unset, .unset, .unset, .unset, .unset] [(.ref a)])) rfl rfl (hb hby own_d15_20)
  refine own_st st6 ?_
  show own_Go p e below _ T6 (mkF m 23 #[rv a, rv r, iv (0 : Int32), .unset, .unset, .unset, .unset, .unset] [(.ref b)])
  have sg7 : own_V p e below T6 (mkF m 25 #[rv a, rv r, iv (0 : Int32), rv b, .unset, .unset, .unset, .unset] [(.ref r)]) (mkF m 23 #[rv a, rv r, iv (0 : Int32), .unset, .unset, .unset, .unset, .unset] [(.ref b)]) := by
    intro t kt
    refine XS.astoreN X6.here hx rfl (hb hby own_d15_23) rfl rfl (l' := #[rv a, rv r, iv (0 : Int32), rv b, .unset, .unset, .unset, .unset]) rfl ?_
    show own_S p e below T6 m 24 #[rv a, rv r, iv (0 : Int32), rv b, .unset, .unset, .unset, .unset] [] _
    refine XS.aloadN X6.here hx rfl (hb hby own_d15_24) rfl rfl ?_
    show own_S p e below T6 m 25 #[rv a, rv r, iv (0 : Int32), rv b, .unset, .unset, .unset, .unset] [(.ref r)] _
    exact kt
  refine own_st sg7 ?_
  obtain ⟨T8, X8, e8, st8⟩ := getF X6 hx hZ hown (host := "") (Or.inl (hw _ (List.mem_of_getElem? (i := 32) rfl))) Via.refl e6 SR.2.2.1 (g := (mkF m 25 #[rv a, rv r, iv (0 : Int32), rv b, .unset, .unset, .unset, .unset] [(.ref r)])) rfl rfl (hb hby own_d15_25)
  refine own_st st8 ?_
  show own_Go p e below _ T8 (mkF m 28 #[rv a, rv r, iv (0 : Int32), rv b, .unset, .unset, .unset, .unset] [(.ref rb)])
  have sg9 : own_V p e below T8 (mkF m 39 #[rv a, rv r, iv (0 : Int32), rv b, rv rb, iv (0 : Int32), iv (1 : Int32), .unset] [(.ref a)]) (mkF m 28 #[rv a, rv r, iv (0 : Int32), rv b, .unset, .unset, .unset, .unset] [(.ref rb)]) := by
    intro t kt
    refine XS.astore X8.here hx rfl (hb hby own_d15_28) rfl rfl (l' := #[rv a, rv r, iv (0 : Int32), rv b, rv rb, .unset, .unset, .unset]) rfl ?_
    show own_S p e below T8 m 30 #[rv a, rv r, iv (0 : Int32), rv b, rv rb, .unset, .unset, .unset] [] _
    refine XS.iconst X8.here hx rfl (hb hby own_d15_30) ?_
    show own_S p e below T8 m 31 #[rv a, rv r, iv (0 : Int32), rv b, rv rb, .unset, .unset, .unset] [(.int (0 : Int32))] _
    refine XS.istore X8.here hx rfl (hb hby own_d15_31) rfl (l' := #[rv a, rv r, iv (0 : Int32), rv b, rv rb, iv (0 : Int32), .unset, .unset]) rfl ?_
    show own_S p e below T8 m 33 #[rv a, rv r, iv (0 : Int32), rv b, rv rb, iv (0 : Int32), .unset, .unset] [] _
    refine XS.aload X8.here hx rfl (hb hby own_d15_33) rfl rfl ?_
    show own_S p e below T8 m 35 #[rv a, rv r, iv (0 : Int32), rv b, rv rb, iv (0 : Int32), .unset, .unset] [(.ref rb)] _
    refine own_len (z := (1 : Int32)) X8 hx hZ e8 SR.2.2.2 (by decide) (g := (mkF m 35 #[rv a, rv r, iv (0 : Int32), rv b, rv rb, iv (0 : Int32), .unset, .unset] [(.ref rb)])) rfl rfl (hb hby own_d15_35) _ ?_
    show own_S p e below T8 m 36 #[rv a, rv r, iv (0 : Int32), rv b, rv rb, iv (0 : Int32), .unset, .unset] [(.int (1 : Int32))] _
    refine XS.istore X8.here hx rfl (hb hby own_d15_36) rfl (l' := #[rv a, rv r, iv (0 : Int32), rv b, rv rb, iv (0 : Int32), iv (1 : Int32), .unset]) rfl ?_
    show own_S p e below T8 m 38 #[rv a, rv r, iv (0 : Int32), rv b, rv rb, iv (0 : Int32), iv (1 : Int32), .unset] [] _
    refine XS.aloadN X8.here hx rfl (hb hby own_d15_38) rfl rfl ?_
    show own_S p e below T8 m 39 #[rv a, rv r, iv (0 : Int32), rv b, rv rb, iv (0 : Int32), iv (1 : Int32), .unset] [(.ref a)] _
    exact kt
  refine own_st sg9 ?_
  obtain ⟨_, T10, L10, X10, hQ10, st10⟩ := own_callV (y := (⟨"java/lang/String", "coder", "()B"⟩ : MethodName)) (y0 := (⟨"java/lang/String", "coder", "()B"⟩ : MethodName)) (a := a) (C := "java/lang/String") X8 hx hZ hown SS.1 (hw _ (List.mem_of_getElem? (i := 76) rfl)) (hw _ (List.mem_of_getElem? (i := 77) rfl)) (hw _ (List.mem_of_getElem? (i := 79) rfl)) (notFace_of_selects (args := #[]) (mvT hZ (hw _ (List.mem_of_getElem? (i := 79) rfl)))) (hw _ (List.mem_of_getElem? (i := 78) rfl)) (hw _ (List.mem_of_getElem? (i := 7) rfl)) (hw _ (List.mem_of_getElem? (i := 80) rfl)) (by decide) (own_rmcod l Z a0 hw a cc h0 n0 Z0 SS.2.1 SC hcc) e8 (g := (mkF m 39 #[rv a, rv r, iv (0 : Int32), rv b, rv rb, iv (0 : Int32), iv (1 : Int32), .unset] [(.ref a)])) rfl (by rw [hml]; rfl) (argsL := []) (rest := []) (lenOf own_pd5 rfl) rfl (W := 0) (by show 2 * 0 + _ ≤ _; exact Nat.le_of_eq rfl) (hb hby own_d15_39) (by decide) (by decide) (by decide) (by decide)
  obtain ⟨rfl, Nq10, e10⟩ := hQ10
  refine own_st st10 ?_
  have N10 := Fr.app N4 Nq10
  show own_Go p e below _ T10 (mkF m 42 #[rv a, rv r, iv (0 : Int32), rv b, rv rb, iv (0 : Int32), iv (1 : Int32), .unset] [(.int (0 : Int32))])
  have sg11 : own_V p e below T10 (mkF m 47 #[rv a, rv r, iv (0 : Int32), rv b, rv rb, iv (0 : Int32), iv (1 : Int32), iv (0 : Int32)] [(.ref r), (.int (0 : Int32))]) (mkF m 42 #[rv a, rv r, iv (0 : Int32), rv b, rv rb, iv (0 : Int32), iv (1 : Int32), .unset] [(.int (0 : Int32))]) := by
    intro t kt
    refine XS.istore X10.here hx rfl (hb hby own_d15_42) rfl (l' := #[rv a, rv r, iv (0 : Int32), rv b, rv rb, iv (0 : Int32), iv (1 : Int32), iv (0 : Int32)]) rfl ?_
    show own_S p e below T10 m 44 #[rv a, rv r, iv (0 : Int32), rv b, rv rb, iv (0 : Int32), iv (1 : Int32), iv (0 : Int32)] [] _
    refine XS.iload X10.here hx rfl (hb hby own_d15_44) rfl ?_
    show own_S p e below T10 m 46 #[rv a, rv r, iv (0 : Int32), rv b, rv rb, iv (0 : Int32), iv (1 : Int32), iv (0 : Int32)] [(.int (0 : Int32))] _
    refine XS.aloadN X10.here hx rfl (hb hby own_d15_46) rfl rfl ?_
    show own_S p e below T10 m 47 #[rv a, rv r, iv (0 : Int32), rv b, rv rb, iv (0 : Int32), iv (1 : Int32), iv (0 : Int32)] [(.ref r), (.int (0 : Int32))] _
    exact kt
  refine own_st sg11 ?_
  obtain ⟨_, T12, L12, X12, hQ12, st12⟩ := own_callV (y := (⟨"java/lang/String", "coder", "()B"⟩ : MethodName)) (y0 := (⟨"java/lang/String", "coder", "()B"⟩ : MethodName)) (a := r) (C := "java/lang/String") X10 hx hZ hown SR.1 (hw _ (List.mem_of_getElem? (i := 76) rfl)) (hw _ (List.mem_of_getElem? (i := 77) rfl)) (hw _ (List.mem_of_getElem? (i := 79) rfl)) (notFace_of_selects (args := #[]) (mvT hZ (hw _ (List.mem_of_getElem? (i := 79) rfl)))) (hw _ (List.mem_of_getElem? (i := 78) rfl)) (hw _ (List.mem_of_getElem? (i := 7) rfl)) (hw _ (List.mem_of_getElem? (i := 80) rfl)) (by decide) (own_rmcod l Z a0 hw r cc h0 n0 Z0 SR.2.1 SC hcc) e10 (g := (mkF m 47 #[rv a, rv r, iv (0 : Int32), rv b, rv rb, iv (0 : Int32), iv (1 : Int32), iv (0 : Int32)] [(.ref r), (.int (0 : Int32))])) rfl (by rw [hml]; rfl) (argsL := []) (rest := [(.int (0 : Int32))]) (lenOf own_pd5 rfl) rfl (W := 1) (by show 2 * 0 + _ ≤ _; exact Nat.le_of_eq rfl) (hb hby own_d15_47) (by decide) (by decide) (by decide) (by decide)
  obtain ⟨rfl, Nq12, e12⟩ := hQ12
  refine own_st st12 ?_
  have N12 := Fr.app N10 Nq12
  show own_Go p e below _ T12 (mkF m 50 #[rv a, rv r, iv (0 : Int32), rv b, rv rb, iv (0 : Int32), iv (1 : Int32), iv (0 : Int32)] [(.int (0 : Int32)), (.int (0 : Int32))])
  have sg13 : own_V p e below T12 (mkF m 70 #[rv a, rv r, iv (0 : Int32), rv b, rv rb, iv (0 : Int32), iv (1 : Int32), iv (0 : Int32)] [(.int (1 : Int32)), (.int (0 : Int32)), (.ref rb), (.int (0 : Int32)), (.ref b)]) (mkF m 50 #[rv a, rv r, iv (0 : Int32), rv b, rv rb, iv (0 : Int32), iv (1 : Int32), iv (0 : Int32)] [(.int (0 : Int32)), (.int (0 : Int32))]) := by
    intro t kt
    refine XS.icmpNo X12.here hx rfl (hb hby own_d15_50) rfl (teq (by decide : (0 : Int32) = (0 : Int32))).2 ?_
    show own_S p e below T12 m 53 #[rv a, rv r, iv (0 : Int32), rv b, rv rb, iv (0 : Int32), iv (1 : Int32), iv (0 : Int32)] [] _
    refine XS.iload X12.here hx rfl (hb hby own_d15_53) rfl ?_
    show own_S p e below T12 m 55 #[rv a, rv r, iv (0 : Int32), rv b, rv rb, iv (0 : Int32), iv (1 : Int32), iv (0 : Int32)] [(.int (0 : Int32))] _
    refine XS.iconst X12.here hx rfl (hb hby own_d15_55) ?_
    show own_S p e below T12 m 56 #[rv a, rv r, iv (0 : Int32), rv b, rv rb, iv (0 : Int32), iv (1 : Int32), iv (0 : Int32)] [(.int (1 : Int32)), (.int (0 : Int32))] _
    refine XS.icmpYes X12.here hx rfl (pc0 := 56) (pc' := 63) rfl (hb hby own_d15_56) rfl (feq (by decide : ¬ (0 : Int32) = (1 : Int32))).2 (by decide) (by decide) ?_
    show own_S p e below T12 m 63 #[rv a, rv r, iv (0 : Int32), rv b, rv rb, iv (0 : Int32), iv (1 : Int32), iv (0 : Int32)] [] _
    refine XS.aloadN X12.here hx rfl (hb hby own_d15_63) rfl rfl ?_
    show own_S p e below T12 m 64 #[rv a, rv r, iv (0 : Int32), rv b, rv rb, iv (0 : Int32), iv (1 : Int32), iv (0 : Int32)] [(.ref b)] _
    refine XS.iloadN X12.here hx rfl (hb hby own_d15_64) rfl ?_
    show own_S p e below T12 m 65 #[rv a, rv r, iv (0 : Int32), rv b, rv rb, iv (0 : Int32), iv (1 : Int32), iv (0 : Int32)] [(.int (0 : Int32)), (.ref b)] _
    refine XS.aload X12.here hx rfl (hb hby own_d15_65) rfl rfl ?_
    show own_S p e below T12 m 67 #[rv a, rv r, iv (0 : Int32), rv b, rv rb, iv (0 : Int32), iv (1 : Int32), iv (0 : Int32)] [(.ref rb), (.int (0 : Int32)), (.ref b)] _
    refine XS.iconst X12.here hx rfl (hb hby own_d15_67) ?_
    show own_S p e below T12 m 68 #[rv a, rv r, iv (0 : Int32), rv b, rv rb, iv (0 : Int32), iv (1 : Int32), iv (0 : Int32)] [(.int (0 : Int32)), (.ref rb), (.int (0 : Int32)), (.ref b)] _
    refine XS.iload X12.here hx rfl (hb hby own_d15_68) rfl ?_
    show own_S p e below T12 m 70 #[rv a, rv r, iv (0 : Int32), rv b, rv rb, iv (0 : Int32), iv (1 : Int32), iv (0 : Int32)] [(.int (1 : Int32)), (.int (0 : Int32)), (.ref rb), (.int (0 : Int32)), (.ref b)] _
    exact kt
  refine own_st sg13 ?_
  obtain ⟨_, T14, L14, X14, hQ14, st14⟩ := own_callS (y := (⟨"jdk/internal/util/ArraysSupport", "mismatch", "([BI[BII)I"⟩ : MethodName)) X12 hx hZ hown (hw _ (List.mem_of_getElem? (i := 81) rfl)) (hw _ (List.mem_of_getElem? (i := 82) rfl)) (hw _ (List.mem_of_getElem? (i := 83) rfl)) (hw _ (List.mem_of_getElem? (i := 84) rfl)) (by decide) (own_rmmm l Z a0 hw b rb f g2 h0 n0 Z0 SS.2.2.2 SR.2.2.2 hfg) e12 (g := (mkF m 70 #[rv a, rv r, iv (0 : Int32), rv b, rv rb, iv (0 : Int32), iv (1 : Int32), iv (0 : Int32)] [(.int (1 : Int32)), (.int (0 : Int32)), (.ref rb), (.int (0 : Int32)), (.ref b)])) rfl (by rw [hml]; rfl) (argsL := [(.ref b), (.int (0 : Int32)), (.ref rb), (.int (0 : Int32)), (.int (1 : Int32))]) (rest := []) (lenOf own_pd7 rfl) rfl (W := 0) (by show 2 * 0 + _ ≤ _; exact Nat.le_of_eq rfl) (hb hby own_d15_70) (by decide) (by decide) (by decide) (by decide)
  obtain ⟨rfl, Nq14, e14⟩ := hQ14
  refine own_st st14 ?_
  have N14 := Fr.app N12 Nq14
  show own_Go p e below _ T14 (mkF m 73 #[rv a, rv r, iv (0 : Int32), rv b, rv rb, iv (0 : Int32), iv (1 : Int32), iv (0 : Int32)] [(.int (-1 : Int32))])
  have sg15 : own_V p e below T14 (mkF m 81 #[rv a, rv r, iv (0 : Int32), rv b, rv rb, iv (0 : Int32), iv (1 : Int32), iv (0 : Int32)] [(.int (1 : Int32))]) (mkF m 73 #[rv a, rv r, iv (0 : Int32), rv b, rv rb, iv (0 : Int32), iv (1 : Int32), iv (0 : Int32)] [(.int (-1 : Int32))]) := by
    intro t kt
    refine XS.ifNo X14.here hx rfl (hb hby own_d15_73) rfl ((if0 _ _).trans (tlt (by decide : (-1 : Int32) < (0 : Int32))).2.1) ?_
    show own_S p e below T14 m 76 #[rv a, rv r, iv (0 : Int32), rv b, rv rb, iv (0 : Int32), iv (1 : Int32), iv (0 : Int32)] [] _
    refine XS.iconst X14.here hx rfl (hb hby own_d15_76) ?_
    show own_S p e below T14 m 77 #[rv a, rv r, iv (0 : Int32), rv b, rv rb, iv (0 : Int32), iv (1 : Int32), iv (0 : Int32)] [(.int (1 : Int32))] _
    refine XS.goto X14.here hx rfl (pc0 := 77) (pc' := 81) rfl (hb hby own_d15_77) (by decide) (by decide) ?_
    show own_S p e below T14 m 81 #[rv a, rv r, iv (0 : Int32), rv b, rv rb, iv (0 : Int32), iv (1 : Int32), iv (0 : Int32)] [(.int (1 : Int32))] _
    exact kt
  refine own_st sg15 ?_
  exact own_retZ X14 hx Bd.notSynchronized Bd.returns (hb hby own_d15_81) (by decide) (by decide) (by decide) e14 ⟨rfl, N14, rfl⟩
theorem own_d14_0 : decode jdk_42_method_76_code 0 = .ok (.aload_n 0, 1) := by decide +kernel
theorem own_d14_1 : decode jdk_42_method_76_code 1 = .ok (.aload_n 1, 1) := by decide +kernel
theorem own_d14_2 : decode jdk_42_method_76_code 2 = .ok (.iconst 0, 1) := by decide +kernel
theorem own_d14_3 : decode jdk_42_method_76_code 3 = .ok (.invokevirtual 624, 3) := by decide +kernel
theorem own_d14_6 : decode jdk_42_method_76_code 6 = .ok (.ireturn, 1) := by decide +kernel
theorem own_pd8 : parseMethodDescriptor "(Ljava/lang/String;I)Z" = some ⟨[(.object "java/lang/String"), .int], some .boolean⟩ := by decide +kernel
theorem own_efsw1 (m : MethodId) (a : Nat) (r : Nat) : entryFrame m #[(.ref a), (.ref r)] 2 = mkF m 0 #[rv a, rv r] [] := by first | (simp [entryFrame, mkF, argsToLocals, Value.category]; done) | rfl
set_option maxRecDepth 65536 in
set_option maxHeartbeats 40000000 in
theorem own_rmsw1 (l : Launch) (Z : State) (a0 : Array Value) (hw : ∀ d ∈ tables_1, d.before a0 Z = true) (a : Nat) (r : Nat) (b rb : Nat) (cc : Int32) (f g2 : Nat → Int32) (h0 : Heap) (n0 : Nat) (Z0 : n0 ≤ h0.size) (SS : own_Str Z h0 a b 1 f) (SR : own_Str Z h0 r rb 1 g2) (hfg : f 0 = g2 0) (SC : Sta Z h0 "java/lang/String" "COMPACT_STRINGS" "Z" (.int cc)) (hcc : ¬ cc = 0) :
    own_Ct l Z (⟨"java/lang/String", "startsWith", "(Ljava/lang/String;)Z"⟩ : MethodName) jdk_42_method_76_code 2 (some .boolean) ({ frames := 3, cells := 0, slots := 0, locals := 46 } : Room) #[(.ref a), (.ref r)] h0 (fun v h L => v = some (.int 1) ∧ Fr n0 L ∧ h = h0) := by
  refine own_body (y := (⟨"java/lang/String", "startsWith", "(Ljava/lang/String;)Z"⟩ : MethodName)) (Q := fun v h L => v = some (.int 1) ∧ Fr n0 L ∧ h = h0) (plainFor_of_name own_pn1) ?_
  intro p e s m below meth c s₁ Bd hml0 hZ e0
  have hx := Bd.exec
  have hby := Bd.bytes
  have hml : c.maxLocals = 2 := hml0
  have hown : s.vm.findClass "java/lang/String" = some m.cls := findClass_of_methodNamed Bd.named
  have hnm := (name_of_methodNamed Bd.named Bd.method).1
  have X0 : Stand p l e ({ frames := 3, cells := 0, slots := 0, locals := 46 } : Room) s m #[(.ref a), (.ref r)] below meth c s₁ [] 0 0 := Stand.of_body Bd
  have N0 := Fr.nil n0
  rw [own_efsw1]
  have sg1 : own_V p e below s₁ (mkF m 3 #[rv a, rv r] [(.int (0 : Int32)), (.ref r), (.ref a)]) (mkF m 0 #[rv a, rv r] []) := by
    intro t kt
    refine XS.aloadN X0.here hx rfl (hb hby own_d14_0) rfl rfl ?_
    show own_S p e below s₁ m 1 #[rv a, rv r] [(.ref a)] _
    refine XS.aloadN X0.here hx rfl (hb hby own_d14_1) rfl rfl ?_
    show own_S p e below s₁ m 2 #[rv a, rv r] [(.ref r), (.ref a)] _
    refine XS.iconst X0.here hx rfl (hb hby own_d14_2) ?_
    show own_S p e below s₁ m 3 #[rv a, rv r] [(.int (0 : Int32)), (.ref r), (.ref a)] _
    exact kt
  refine own_st sg1 ?_
  obtain ⟨_, T2, L2, X2, hQ2, st2⟩ := own_callV (y := (⟨"java/lang/String", "startsWith", "(Ljava/lang/String;I)Z"⟩ : MethodName)) (y0 := (⟨"java/lang/String", "startsWith", "(Ljava/lang/String;I)Z"⟩ : MethodName)) (a := a) (C := "java/lang/String") X0 hx hZ hown SS.1 (hw _ (List.mem_of_getElem? (i := 66) rfl)) (hw _ (List.mem_of_getElem? (i := 67) rfl)) (hw _ (List.mem_of_getElem? (i := 69) rfl)) (notFace_of_selects (args := #[]) (mvT hZ (hw _ (List.mem_of_getElem? (i := 69) rfl)))) (hw _ (List.mem_of_getElem? (i := 68) rfl)) (hw _ (List.mem_of_getElem? (i := 7) rfl)) (hw _ (List.mem_of_getElem? (i := 70) rfl)) (by decide) (own_rmsw2 l Z a0 hw a r b rb cc f g2 h0 n0 Z0 SS SR hfg SC hcc) e0 (g := (mkF m 3 #[rv a, rv r] [(.int (0 : Int32)), (.ref r), (.ref a)])) rfl (by rw [hml]; rfl) (argsL := [(.ref r), (.int (0 : Int32))]) (rest := []) (lenOf own_pd8 rfl) rfl (W := 0) (by show 2 * 0 + _ ≤ _; exact Nat.le_of_eq rfl) (hb hby own_d14_3) (by decide) (by decide) (by decide) (by decide)
  obtain ⟨rfl, Nq2, e2⟩ := hQ2
  refine own_st st2 ?_
  have N2 := Fr.app N0 Nq2
  show own_Go p e below _ T2 (mkF m 6 #[rv a, rv r] [(.int (1 : Int32))])
  exact own_retZ X2 hx Bd.notSynchronized Bd.returns (hb hby own_d14_6) (by decide) (by decide) (by decide) e2 ⟨rfl, N2, rfl⟩
theorem own_d12_0 : decode prog_105_method_2_code 0 = .ok (.aload_n 0, 1) := by decide +kernel
theorem own_d12_1 : decode prog_105_method_2_code 1 = .ok (.invokevirtual 7, 3) := by decide +kernel
theorem own_d12_4 : decode prog_105_method_2_code 4 = .ok (.ifCond .ne 26, 3) := by decide +kernel
theorem own_d12_7 : decode prog_105_method_2_code 7 = .ok (.aload_n 0, 1) := by decide +kernel
theorem own_d12_8 : decode prog_105_method_2_code 8 = .ok (.aload_n 1, 1) := by decide +kernel
theorem own_d12_9 : decode prog_105_method_2_code 9 = .ok (.invokevirtual 13, 3) := by decide +kernel
theorem own_d12_12 : decode prog_105_method_2_code 12 = .ok (.ifCond .ne 18, 3) := by decide +kernel
theorem own_d12_15 : decode prog_105_method_2_code 15 = .ok (.new 17, 3) := by decide +kernel
theorem own_d12_18 : decode prog_105_method_2_code 18 = .ok (.dup, 1) := by decide +kernel
theorem own_d12_19 : decode prog_105_method_2_code 19 = .ok (.aload_n 0, 1) := by decide +kernel
theorem own_d12_20 : decode prog_105_method_2_code 20 = .ok (.aload_n 1, 1) := by decide +kernel
theorem own_d12_21 : decode prog_105_method_2_code 21 = .ok (.invokedynamic 19, 5) := by decide +kernel
theorem own_d12_26 : decode prog_105_method_2_code 26 = .ok (.invokespecial 23, 3) := by decide +kernel
theorem own_d12_29 : decode prog_105_method_2_code 29 = .ok (.athrow, 1) := by decide +kernel
theorem own_d12_30 : decode prog_105_method_2_code 30 = .ok (.return_, 1) := by decide +kernel
theorem own_pd9 : parseMethodDescriptor "()Z" = some ⟨[], some .boolean⟩ := by decide +kernel
theorem own_pn4 : plainName "com/example/coverfold/coverfold/Zones" = true := by first | (simp [plainName, overriddenIn]; done) | decide +kernel
theorem own_efcr0 (m : MethodId) (a : Nat) (r : Nat) : entryFrame m #[(.ref a), (.ref r)] 2 = mkF m 0 #[rv a, rv r] [] := by first | (simp [entryFrame, mkF, argsToLocals, Value.category]; done) | rfl
set_option maxRecDepth 65536 in
set_option maxHeartbeats 40000000 in
theorem own_rmcr0 (l : Launch) (Z : State) (a0 : Array Value) (hw : ∀ d ∈ tables_1, d.before a0 Z = true) (a : Nat) (r : Nat) (b : Nat) (f : Nat → Int32) (h0 : Heap) (n0 : Nat) (Z0 : n0 ≤ h0.size) (SS : own_Str Z h0 a b 0 f) :
    own_Ct l Z (⟨"com/example/coverfold/coverfold/Zones", "checkInRegion", "(Ljava/lang/String;Ljava/lang/String;)V"⟩ : MethodName) prog_105_method_2_code 2 none ({ frames := 1, cells := 0, slots := 0, locals := 12 } : Room) #[(.ref a), (.ref r)] h0 (fun v h L => v = none ∧ Fr n0 L ∧ h = h0) := by
  refine own_body (y := (⟨"com/example/coverfold/coverfold/Zones", "checkInRegion", "(Ljava/lang/String;Ljava/lang/String;)V"⟩ : MethodName)) (Q := fun v h L => v = none ∧ Fr n0 L ∧ h = h0) (plainFor_of_name own_pn4) ?_
  intro p e s m below meth c s₁ Bd hml0 hZ e0
  have hx := Bd.exec
  have hby := Bd.bytes
  have hml : c.maxLocals = 2 := hml0
  have hown : s.vm.findClass "com/example/coverfold/coverfold/Zones" = some m.cls := findClass_of_methodNamed Bd.named
  have hnm := (name_of_methodNamed Bd.named Bd.method).1
  have X0 : Stand p l e ({ frames := 1, cells := 0, slots := 0, locals := 12 } : Room) s m #[(.ref a), (.ref r)] below meth c s₁ [] 0 0 := Stand.of_body Bd
  have N0 := Fr.nil n0
  rw [own_efcr0]
  have sg1 : own_V p e below s₁ (mkF m 1 #[rv a, rv r] [(.ref a)]) (mkF m 0 #[rv a, rv r] []) := by
    intro t kt
    refine XS.aloadN X0.here hx rfl (hb hby own_d12_0) rfl rfl ?_
    show own_S p e below s₁ m 1 #[rv a, rv r] [(.ref a)] _
    exact kt
  refine own_st sg1 ?_
  obtain ⟨_, T2, L2, X2, hQ2, st2⟩ := own_callV (y := (⟨"java/lang/String", "isEmpty", "()Z"⟩ : MethodName)) (y0 := (⟨"java/lang/String", "isEmpty", "()Z"⟩ : MethodName)) (a := a) (C := "java/lang/String") X0 hx hZ hown SS.1 (hw _ (List.mem_of_getElem? (i := 56) rfl)) (hw _ (List.mem_of_getElem? (i := 57) rfl)) (hw _ (List.mem_of_getElem? (i := 59) rfl)) (notFace_of_selects (args := #[]) (mvT hZ (hw _ (List.mem_of_getElem? (i := 59) rfl)))) (hw _ (List.mem_of_getElem? (i := 58) rfl)) (hw _ (List.mem_of_getElem? (i := 7) rfl)) (hw _ (List.mem_of_getElem? (i := 60) rfl)) (by decide) (own_rmemp0 l Z a0 hw a b f h0 n0 Z0 SS) e0 (g := (mkF m 1 #[rv a, rv r] [(.ref a)])) rfl (by rw [hml]; rfl) (argsL := []) (rest := []) (lenOf own_pd9 rfl) rfl (W := 0) (by show 2 * 0 + _ ≤ _; exact Nat.le_of_eq rfl) (hb hby own_d12_1) (by decide) (by decide) (by decide) (by decide)
  obtain ⟨rfl, Nq2, e2⟩ := hQ2
  refine own_st st2 ?_
  have N2 := Fr.app N0 Nq2
  show own_Go p e below _ T2 (mkF m 4 #[rv a, rv r] [(.int (1 : Int32))])
  have sg3 : own_V p e below T2 (mkF m 30 #[rv a, rv r] []) (mkF m 4 #[rv a, rv r] [(.int (1 : Int32))]) := by
    intro t kt
    refine XS.ifYes X2.here hx rfl (pc0 := 4) (pc' := 30) rfl (hb hby own_d12_4) rfl ((if0 _ _).trans (feq (by decide : ¬ (1 : Int32) = (0 : Int32))).2) (by decide) (by decide) ?_
    show own_S p e below T2 m 30 #[rv a, rv r] [] _
    exact kt
  refine own_st sg3 ?_
  exact own_retV X2 hx Bd.notSynchronized Bd.returns (hb hby own_d12_30) (by decide) (by decide) e2 ⟨rfl, N2, rfl⟩
theorem own_pd10 : parseMethodDescriptor "(Ljava/lang/String;)Z" = some ⟨[(.object "java/lang/String")], some .boolean⟩ := by decide +kernel
theorem own_efcr1 (m : MethodId) (a : Nat) (r : Nat) : entryFrame m #[(.ref a), (.ref r)] 2 = mkF m 0 #[rv a, rv r] [] := by first | (simp [entryFrame, mkF, argsToLocals, Value.category]; done) | rfl
set_option maxRecDepth 65536 in
set_option maxHeartbeats 40000000 in
theorem own_rmcr1 (l : Launch) (Z : State) (a0 : Array Value) (hw : ∀ d ∈ tables_1, d.before a0 Z = true) (a : Nat) (r : Nat) (b rb : Nat) (cc : Int32) (f g2 : Nat → Int32) (h0 : Heap) (n0 : Nat) (Z0 : n0 ≤ h0.size) (SS : own_Str Z h0 a b 1 f) (SR : own_Str Z h0 r rb 1 g2) (hfg : f 0 = g2 0) (SC : Sta Z h0 "java/lang/String" "COMPACT_STRINGS" "Z" (.int cc)) (hcc : ¬ cc = 0) :
    own_Ct l Z (⟨"com/example/coverfold/coverfold/Zones", "checkInRegion", "(Ljava/lang/String;Ljava/lang/String;)V"⟩ : MethodName) prog_105_method_2_code 2 none ({ frames := 4, cells := 0, slots := 0, locals := 59 } : Room) #[(.ref a), (.ref r)] h0 (fun v h L => v = none ∧ Fr n0 L ∧ h = h0) := by
  refine own_body (y := (⟨"com/example/coverfold/coverfold/Zones", "checkInRegion", "(Ljava/lang/String;Ljava/lang/String;)V"⟩ : MethodName)) (Q := fun v h L => v = none ∧ Fr n0 L ∧ h = h0) (plainFor_of_name own_pn4) ?_
  intro p e s m below meth c s₁ Bd hml0 hZ e0
  have hx := Bd.exec
  have hby := Bd.bytes
  have hml : c.maxLocals = 2 := hml0
  have hown : s.vm.findClass "com/example/coverfold/coverfold/Zones" = some m.cls := findClass_of_methodNamed Bd.named
  have hnm := (name_of_methodNamed Bd.named Bd.method).1
  have X0 : Stand p l e ({ frames := 4, cells := 0, slots := 0, locals := 59 } : Room) s m #[(.ref a), (.ref r)] below meth c s₁ [] 0 0 := Stand.of_body Bd
  have N0 := Fr.nil n0
  rw [own_efcr1]
  have sg1 : own_V p e below s₁ (mkF m 1 #[rv a, rv r] [(.ref a)]) (mkF m 0 #[rv a, rv r] []) := by
    intro t kt
    refine XS.aloadN X0.here hx rfl (hb hby own_d12_0) rfl rfl ?_
    show own_S p e below s₁ m 1 #[rv a, rv r] [(.ref a)] _
    exact kt
  refine own_st sg1 ?_
  obtain ⟨_, T2, L2, X2, hQ2, st2⟩ := own_callV (y := (⟨"java/lang/String", "isEmpty", "()Z"⟩ : MethodName)) (y0 := (⟨"java/lang/String", "isEmpty", "()Z"⟩ : MethodName)) (a := a) (C := "java/lang/String") X0 hx hZ hown SS.1 (hw _ (List.mem_of_getElem? (i := 56) rfl)) (hw _ (List.mem_of_getElem? (i := 57) rfl)) (hw _ (List.mem_of_getElem? (i := 59) rfl)) (notFace_of_selects (args := #[]) (mvT hZ (hw _ (List.mem_of_getElem? (i := 59) rfl)))) (hw _ (List.mem_of_getElem? (i := 58) rfl)) (hw _ (List.mem_of_getElem? (i := 7) rfl)) (hw _ (List.mem_of_getElem? (i := 60) rfl)) (by decide) (own_rmemp1 l Z a0 hw a b f h0 n0 Z0 SS) e0 (g := (mkF m 1 #[rv a, rv r] [(.ref a)])) rfl (by rw [hml]; rfl) (argsL := []) (rest := []) (lenOf own_pd9 rfl) rfl (W := 0) (by show 2 * 0 + _ ≤ _; exact Nat.le_of_eq rfl) (hb hby own_d12_1) (by decide) (by decide) (by decide) (by decide)
  obtain ⟨rfl, Nq2, e2⟩ := hQ2
  refine own_st st2 ?_
  have N2 := Fr.app N0 Nq2
  show own_Go p e below _ T2 (mkF m 4 #[rv a, rv r] [(.int (0 : Int32))])
  have sg3 : own_V p e below T2 (mkF m 9 #[rv a, rv r] [(.ref r), (.ref a)]) (mkF m 4 #[rv a, rv r] [(.int (0 : Int32))]) := by
    intro t kt
    refine XS.ifNo X2.here hx rfl (hb hby own_d12_4) rfl ((if0 _ _).trans (teq (by decide : (0 : Int32) = (0 : Int32))).2) ?_
    show own_S p e below T2 m 7 #[rv a, rv r] [] _
    refine XS.aloadN X2.here hx rfl (hb hby own_d12_7) rfl rfl ?_
    show own_S p e below T2 m 8 #[rv a, rv r] [(.ref a)] _
    refine XS.aloadN X2.here hx rfl (hb hby own_d12_8) rfl rfl ?_
    show own_S p e below T2 m 9 #[rv a, rv r] [(.ref r), (.ref a)] _
    exact kt
  refine own_st sg3 ?_
  obtain ⟨_, T4, L4, X4, hQ4, st4⟩ := own_callV (y := (⟨"java/lang/String", "startsWith", "(Ljava/lang/String;)Z"⟩ : MethodName)) (y0 := (⟨"java/lang/String", "startsWith", "(Ljava/lang/String;)Z"⟩ : MethodName)) (a := a) (C := "java/lang/String") X2 hx hZ hown SS.1 (hw _ (List.mem_of_getElem? (i := 61) rfl)) (hw _ (List.mem_of_getElem? (i := 62) rfl)) (hw _ (List.mem_of_getElem? (i := 64) rfl)) (notFace_of_selects (args := #[]) (mvT hZ (hw _ (List.mem_of_getElem? (i := 64) rfl)))) (hw _ (List.mem_of_getElem? (i := 63) rfl)) (hw _ (List.mem_of_getElem? (i := 7) rfl)) (hw _ (List.mem_of_getElem? (i := 65) rfl)) (by decide) (own_rmsw1 l Z a0 hw a r b rb cc f g2 h0 n0 Z0 SS SR hfg SC hcc) e2 (g := (mkF m 9 #[rv a, rv r] [(.ref r), (.ref a)])) rfl (by rw [hml]; rfl) (argsL := [(.ref r)]) (rest := []) (lenOf own_pd10 rfl) rfl (W := 0) (by show 2 * 0 + _ ≤ _; exact Nat.le_of_eq rfl) (hb hby own_d12_9) (by decide) (by decide) (by decide) (by decide)
  obtain ⟨rfl, Nq4, e4⟩ := hQ4
  refine own_st st4 ?_
  have N4 := Fr.app N2 Nq4
  show own_Go p e below _ T4 (mkF m 12 #[rv a, rv r] [(.int (1 : Int32))])
  have sg5 : own_V p e below T4 (mkF m 30 #[rv a, rv r] []) (mkF m 12 #[rv a, rv r] [(.int (1 : Int32))]) := by
    intro t kt
    refine XS.ifYes X4.here hx rfl (pc0 := 12) (pc' := 30) rfl (hb hby own_d12_12) rfl ((if0 _ _).trans (feq (by decide : ¬ (1 : Int32) = (0 : Int32))).2) (by decide) (by decide) ?_
    show own_S p e below T4 m 30 #[rv a, rv r] [] _
    exact kt
  refine own_st sg5 ?_
  exact own_retV X4 hx Bd.notSynchronized Bd.returns (hb hby own_d12_30) (by decide) (by decide) e4 ⟨rfl, N4, rfl⟩
theorem own_d19_0 : decode prog_97_method_14_code 0 = .ok (.lload_n 2, 1) := by decide +kernel
theorem own_d19_1 : decode prog_97_method_14_code 1 = .ok (.lload_n 0, 1) := by decide +kernel
theorem own_d19_2 : decode prog_97_method_14_code 2 = .ok (.lcmp, 1) := by decide +kernel
theorem own_d19_3 : decode prog_97_method_14_code 3 = .ok (.ifCond .gt 24, 3) := by decide +kernel
theorem own_d19_6 : decode prog_97_method_14_code 6 = .ok (.new 109, 3) := by decide +kernel
theorem own_d19_9 : decode prog_97_method_14_code 9 = .ok (.dup, 1) := by decide +kernel
theorem own_d19_10 : decode prog_97_method_14_code 10 = .ok (.lload_n 2, 1) := by decide +kernel
theorem own_d19_11 : decode prog_97_method_14_code 11 = .ok (.invokestatic 179, 3) := by decide +kernel
theorem own_d19_14 : decode prog_97_method_14_code 14 = .ok (.lload_n 0, 1) := by decide +kernel
theorem own_d19_15 : decode prog_97_method_14_code 15 = .ok (.invokestatic 179, 3) := by decide +kernel
theorem own_d19_18 : decode prog_97_method_14_code 18 = .ok (.invokedynamic 183, 5) := by decide +kernel
theorem own_d19_23 : decode prog_97_method_14_code 23 = .ok (.invokespecial 114, 3) := by decide +kernel
theorem own_d19_26 : decode prog_97_method_14_code 26 = .ok (.athrow, 1) := by decide +kernel
theorem own_d19_27 : decode prog_97_method_14_code 27 = .ok (.return_, 1) := by decide +kernel
theorem own_pn5 : plainName "com/example/coverfold/coverfold/Timestamps" = true := by first | (simp [plainName, overriddenIn]; done) | decide +kernel
theorem own_efci (m : MethodId) (x : Int64) (y : Int64) : entryFrame m #[(.long x), (.long y)] 4 = mkF m 0 #[own_lv x, .second, own_lv y, .second] [] := by first | (simp [entryFrame, mkF, argsToLocals, Value.category]; done) | rfl
set_option maxRecDepth 65536 in
set_option maxHeartbeats 40000000 in
theorem own_rmci (l : Launch) (Z : State) (a0 : Array Value) (hw : ∀ d ∈ tables_1, d.before a0 Z = true) (x : Int64) (y : Int64) (h0 : Heap) (n0 : Nat) (Z0 : n0 ≤ h0.size) (hxy : x < y) :
    own_Ct l Z (⟨"com/example/coverfold/coverfold/Timestamps", "checkInterval", "(JJ)V"⟩ : MethodName) prog_97_method_14_code 4 none ({ frames := 0, cells := 0, slots := 0, locals := 0 } : Room) #[(.long x), (.long y)] h0 (fun v h L => v = none ∧ Fr n0 L ∧ h = h0) := by
  refine own_body (y := (⟨"com/example/coverfold/coverfold/Timestamps", "checkInterval", "(JJ)V"⟩ : MethodName)) (Q := fun v h L => v = none ∧ Fr n0 L ∧ h = h0) (plainFor_of_name own_pn5) ?_
  intro p e s m below meth c s₁ Bd hml0 hZ e0
  have hx := Bd.exec
  have hby := Bd.bytes
  have hml : c.maxLocals = 4 := hml0
  have hown : s.vm.findClass "com/example/coverfold/coverfold/Timestamps" = some m.cls := findClass_of_methodNamed Bd.named
  have hnm := (name_of_methodNamed Bd.named Bd.method).1
  have X0 : Stand p l e ({ frames := 0, cells := 0, slots := 0, locals := 0 } : Room) s m #[(.long x), (.long y)] below meth c s₁ [] 0 0 := Stand.of_body Bd
  have N0 := Fr.nil n0
  rw [own_efci]
  have sg1 : own_V p e below s₁ (mkF m 3 #[own_lv x, .second, own_lv y, .second] [(.int (lcmpW y x))]) (mkF m 0 #[own_lv x, .second, own_lv y, .second] []) := by
    intro t kt
    refine XS.lloadN X0.here hx rfl (hb hby own_d19_0) rfl ?_
    show own_S p e below s₁ m 1 #[own_lv x, .second, own_lv y, .second] [(.long y)] _
    refine XS.lloadN X0.here hx rfl (hb hby own_d19_1) rfl ?_
    show own_S p e below s₁ m 2 #[own_lv x, .second, own_lv y, .second] [(.long x), (.long y)] _
    refine XS.lcmp X0.here hx rfl (hb hby own_d19_2) rfl ?_
    show own_S p e below s₁ m 3 #[own_lv x, .second, own_lv y, .second] [(.int (lcmpW y x))] _
    exact kt
  refine own_st sg1 ?_
  have hc2 : x < y := hxy
  have sg3 : own_V p e below s₁ (mkF m 27 #[own_lv x, .second, own_lv y, .second] []) (mkF m 3 #[own_lv x, .second, own_lv y, .second] [(.int (lcmpW y x))]) := by
    intro t kt
    refine XS.ifYes X0.here hx rfl (pc0 := 3) (pc' := 27) rfl (hb hby own_d19_3) rfl (own_tgtL hc2).1 (by decide) (by decide) ?_
    exact kt
  refine own_st sg3 ?_
  exact own_retV X0 hx Bd.notSynchronized Bd.returns (hb hby own_d19_27) (by decide) (by decide) e0 ⟨rfl, N0, rfl⟩
def own_Us (Z : State) (h : Heap) (a s1 s2 s3 s4 s5 s6 : Nat) : Prop := Exa Z h a "com/example/coverfold/coverfold/Usage" ∧ Fld Z h a "com/example/coverfold/coverfold/Usage" "account" "Ljava/lang/String;" (.ref s1) ∧ Fld Z h a "com/example/coverfold/coverfold/Usage" "region" "Ljava/lang/String;" (.ref s2) ∧ Fld Z h a "com/example/coverfold/coverfold/Usage" "zone" "Ljava/lang/String;" (.ref s3) ∧ Fld Z h a "com/example/coverfold/coverfold/Usage" "instanceType" "Ljava/lang/String;" (.ref s4) ∧ Fld Z h a "com/example/coverfold/coverfold/Usage" "platform" "Ljava/lang/String;" (.ref s5) ∧ Fld Z h a "com/example/coverfold/coverfold/Usage" "tenancy" "Ljava/lang/String;" (.ref s6)
theorem own_Us.keep {Z : State} {h h' : Heap} {a s1 s2 s3 s4 s5 s6 : Nat} {ws : List Addr} (S : own_Us Z h a s1 s2 s3 s4 s5 s6) (K : Keep h h' ws) (q : a ∉ ws) : own_Us Z h' a s1 s2 s3 s4 s5 s6 := ⟨S.1.keep K, S.2.1.keep K q, S.2.2.1.keep K q, S.2.2.2.1.keep K q, S.2.2.2.2.1.keep K q, S.2.2.2.2.2.1.keep K q, S.2.2.2.2.2.2.keep K q⟩
theorem own_d11_0 : decode prog_99_method_2_code 0 = .ok (.aload_n 0, 1) := by decide +kernel
theorem own_d11_1 : decode prog_99_method_2_code 1 = .ok (.invokespecial 7, 3) := by decide +kernel
theorem own_d11_4 : decode prog_99_method_2_code 4 = .ok (.aload 4, 2) := by decide +kernel
theorem own_d11_6 : decode prog_99_method_2_code 6 = .ok (.aload_n 3, 1) := by decide +kernel
theorem own_d11_7 : decode prog_99_method_2_code 7 = .ok (.invokestatic 12, 3) := by decide +kernel
theorem own_d11_10 : decode prog_99_method_2_code 10 = .ok (.lload 8, 2) := by decide +kernel
theorem own_d11_12 : decode prog_99_method_2_code 12 = .ok (.lload 10, 2) := by decide +kernel
theorem own_d11_14 : decode prog_99_method_2_code 14 = .ok (.invokestatic 18, 3) := by decide +kernel
theorem own_d11_17 : decode prog_99_method_2_code 17 = .ok (.aload_n 0, 1) := by decide +kernel
theorem own_d11_18 : decode prog_99_method_2_code 18 = .ok (.aload_n 1, 1) := by decide +kernel
theorem own_d11_19 : decode prog_99_method_2_code 19 = .ok (.putfield 24, 3) := by decide +kernel
theorem own_d11_22 : decode prog_99_method_2_code 22 = .ok (.aload_n 0, 1) := by decide +kernel
theorem own_d11_23 : decode prog_99_method_2_code 23 = .ok (.aload_n 2, 1) := by decide +kernel
theorem own_d11_24 : decode prog_99_method_2_code 24 = .ok (.putfield 28, 3) := by decide +kernel
theorem own_d11_27 : decode prog_99_method_2_code 27 = .ok (.aload_n 0, 1) := by decide +kernel
theorem own_d11_28 : decode prog_99_method_2_code 28 = .ok (.aload_n 3, 1) := by decide +kernel
theorem own_d11_29 : decode prog_99_method_2_code 29 = .ok (.putfield 31, 3) := by decide +kernel
theorem own_d11_32 : decode prog_99_method_2_code 32 = .ok (.aload_n 0, 1) := by decide +kernel
theorem own_d11_33 : decode prog_99_method_2_code 33 = .ok (.aload 4, 2) := by decide +kernel
theorem own_d11_35 : decode prog_99_method_2_code 35 = .ok (.putfield 34, 3) := by decide +kernel
theorem own_d11_38 : decode prog_99_method_2_code 38 = .ok (.aload_n 0, 1) := by decide +kernel
theorem own_d11_39 : decode prog_99_method_2_code 39 = .ok (.aload 5, 2) := by decide +kernel
theorem own_d11_41 : decode prog_99_method_2_code 41 = .ok (.putfield 37, 3) := by decide +kernel
theorem own_d11_44 : decode prog_99_method_2_code 44 = .ok (.aload_n 0, 1) := by decide +kernel
theorem own_d11_45 : decode prog_99_method_2_code 45 = .ok (.aload 6, 2) := by decide +kernel
theorem own_d11_47 : decode prog_99_method_2_code 47 = .ok (.putfield 40, 3) := by decide +kernel
theorem own_d11_50 : decode prog_99_method_2_code 50 = .ok (.aload_n 0, 1) := by decide +kernel
theorem own_d11_51 : decode prog_99_method_2_code 51 = .ok (.aload 7, 2) := by decide +kernel
theorem own_d11_53 : decode prog_99_method_2_code 53 = .ok (.putfield 43, 3) := by decide +kernel
theorem own_d11_56 : decode prog_99_method_2_code 56 = .ok (.aload_n 0, 1) := by decide +kernel
theorem own_d11_57 : decode prog_99_method_2_code 57 = .ok (.lload 8, 2) := by decide +kernel
theorem own_d11_59 : decode prog_99_method_2_code 59 = .ok (.putfield 46, 3) := by decide +kernel
theorem own_d11_62 : decode prog_99_method_2_code 62 = .ok (.aload_n 0, 1) := by decide +kernel
theorem own_d11_63 : decode prog_99_method_2_code 63 = .ok (.lload 10, 2) := by decide +kernel
theorem own_d11_65 : decode prog_99_method_2_code 65 = .ok (.putfield 50, 3) := by decide +kernel
theorem own_d11_68 : decode prog_99_method_2_code 68 = .ok (.aload_n 0, 1) := by decide +kernel
theorem own_d11_69 : decode prog_99_method_2_code 69 = .ok (.aload 12, 2) := by decide +kernel
theorem own_d11_71 : decode prog_99_method_2_code 71 = .ok (.putfield 53, 3) := by decide +kernel
theorem own_d11_74 : decode prog_99_method_2_code 74 = .ok (.return_, 1) := by decide +kernel
theorem own_pd11 : parseMethodDescriptor "(Ljava/lang/String;Ljava/lang/String;)V" = some ⟨[(.object "java/lang/String"), (.object "java/lang/String")], none⟩ := by decide +kernel
theorem own_pd12 : parseMethodDescriptor "(JJ)V" = some ⟨[.long, .long], none⟩ := by decide +kernel
theorem own_pn6 : plainName "com/example/coverfold/coverfold/Usage" = true := by first | (simp [plainName, overriddenIn]; done) | decide +kernel
theorem own_efus10_0 (m : MethodId) (a : Nat) (sid : Nat) (sac : Nat) (srg : Nat) (szn : Nat) (sty : Nat) (spl : Nat) (stn : Nat) (t1 : Int64) (t2 : Int64) : entryFrame m #[(.ref a), (.ref sid), (.ref sac), (.ref srg), (.ref szn), (.ref sty), (.ref spl), (.ref stn), (.long t1), (.long t2), .null] 13 = mkF m 0 #[rv a, rv sid, rv sac, rv srg, rv szn, rv sty, rv spl, rv stn, own_lv t1, .second, own_lv t2, .second, .val .null] [] := by first | (simp [entryFrame, mkF, argsToLocals, Value.category]; done) | rfl
set_option maxRecDepth 65536 in
set_option maxHeartbeats 40000000 in
theorem own_rmus10_0 (l : Launch) (Z : State) (a0 : Array Value) (hw : ∀ d ∈ tables_1, d.before a0 Z = true) (a : Nat) (sid : Nat) (sac : Nat) (srg : Nat) (szn : Nat) (sty : Nat) (spl : Nat) (stn : Nat) (t1 : Int64) (t2 : Int64) (b : Nat) (f : Nat → Int32) (h0 : Heap) (n0 : Nat) (Z0 : n0 ≤ h0.size) (SS : own_Str Z h0 szn b 0 f) (EE : Exa Z h0 a "com/example/coverfold/coverfold/Usage") (FinstanceId : Fld Z h0 a "com/example/coverfold/coverfold/Usage" "instanceId" "Ljava/lang/String;" .null) (Faccount : Fld Z h0 a "com/example/coverfold/coverfold/Usage" "account" "Ljava/lang/String;" .null) (Fregion : Fld Z h0 a "com/example/coverfold/coverfold/Usage" "region" "Ljava/lang/String;" .null) (Fzone : Fld Z h0 a "com/example/coverfold/coverfold/Usage" "zone" "Ljava/lang/String;" .null) (FinstanceType : Fld Z h0 a "com/example/coverfold/coverfold/Usage" "instanceType" "Ljava/lang/String;" .null) (Fplatform : Fld Z h0 a "com/example/coverfold/coverfold/Usage" "platform" "Ljava/lang/String;" .null) (Ftenancy : Fld Z h0 a "com/example/coverfold/coverfold/Usage" "tenancy" "Ljava/lang/String;" .null) (Fstart : Fld Z h0 a "com/example/coverfold/coverfold/Usage" "start" "J" (.long (0 : Int64))) (Fend : Fld Z h0 a "com/example/coverfold/coverfold/Usage" "end" "J" (.long (0 : Int64))) (FpartSeconds : Fld Z h0 a "com/example/coverfold/coverfold/Usage" "partSeconds" "Lcom/example/coverfold/coverfold/Rational;" .null) (g_a : n0 ≤ a) (ht : t1 < t2) :
    own_Ct l Z (⟨"com/example/coverfold/coverfold/Usage", "<init>", "(Ljava/lang/String;Ljava/lang/String;Ljava/lang/String;Ljava/lang/String;Ljava/lang/String;Ljava/lang/String;Ljava/lang/String;JJLcom/example/coverfold/coverfold/Rational;)V"⟩ : MethodName) prog_99_method_2_code 13 none ({ frames := 2, cells := 0, slots := 0, locals := 25 } : Room) #[(.ref a), (.ref sid), (.ref sac), (.ref srg), (.ref szn), (.ref sty), (.ref spl), (.ref stn), (.long t1), (.long t2), .null] h0 (fun v h L => v = none ∧ Fr n0 L ∧ Keep h0 h [a] ∧ own_Us Z h a sac srg szn sty spl stn) := by
  refine own_body (y := (⟨"com/example/coverfold/coverfold/Usage", "<init>", "(Ljava/lang/String;Ljava/lang/String;Ljava/lang/String;Ljava/lang/String;Ljava/lang/String;Ljava/lang/String;Ljava/lang/String;JJLcom/example/coverfold/coverfold/Rational;)V"⟩ : MethodName)) (Q := fun v h L => v = none ∧ Fr n0 L ∧ Keep h0 h [a] ∧ own_Us Z h a sac srg szn sty spl stn) (plainFor_of_name own_pn6) ?_
  intro p e s m below meth c s₁ Bd hml0 hZ e0
  have hx := Bd.exec
  have hby := Bd.bytes
  have hml : c.maxLocals = 13 := hml0
  have hown : s.vm.findClass "com/example/coverfold/coverfold/Usage" = some m.cls := findClass_of_methodNamed Bd.named
  have hnm := (name_of_methodNamed Bd.named Bd.method).1
  have X0 : Stand p l e ({ frames := 2, cells := 0, slots := 0, locals := 25 } : Room) s m #[(.ref a), (.ref sid), (.ref sac), (.ref srg), (.ref szn), (.ref sty), (.ref spl), (.ref stn), (.long t1), (.long t2), .null] below meth c s₁ [] 0 0 := Stand.of_body Bd
  have N0 := Fr.nil n0
  rw [own_efus10_0]
  have sg1 : own_V p e below s₁ (mkF m 1 #[rv a, rv sid, rv sac, rv srg, rv szn, rv sty, rv spl, rv stn, own_lv t1, .second, own_lv t2, .second, .val .null] [(.ref a)]) (mkF m 0 #[rv a, rv sid, rv sac, rv srg, rv szn, rv sty, rv spl, rv stn, own_lv t1, .second, own_lv t2, .second, .val .null] []) := by
    intro t kt
    refine XS.aloadN X0.here hx rfl (hb hby own_d11_0) rfl rfl ?_
    show own_S p e below s₁ m 1 #[rv a, rv sid, rv sac, rv srg, rv szn, rv sty, rv spl, rv stn, own_lv t1, .second, own_lv t2, .second, .val .null] [(.ref a)] _
    exact kt
  refine own_st sg1 ?_
  obtain ⟨T2, X2, e2, st2⟩ := initO X0 hx hZ hown (hw _ (List.mem_of_getElem? (i := 51) rfl)) (hw _ (List.mem_of_getElem? (i := 16) rfl)) (hw _ (List.mem_of_getElem? (i := 17) rfl)) e0 (g := (mkF m 1 #[rv a, rv sid, rv sac, rv srg, rv szn, rv sty, rv spl, rv stn, own_lv t1, .second, own_lv t2, .second, .val .null] [(.ref a)])) rfl (by rw [hml]; rfl) rfl (hb hby own_d11_1) (by decide) (W := 0) (by show 2 * 0 + _ ≤ _; exact Nat.le_of_eq rfl) (by decide)
  refine own_st st2 ?_
  show own_Go p e below _ T2 (mkF m 4 #[rv a, rv sid, rv sac, rv srg, rv szn, rv sty, rv spl, rv stn, own_lv t1, .second, own_lv t2, .second, .val .null] [])
  have sg3 : own_V p e below T2 (mkF m 7 #[rv a, rv sid, rv sac, rv srg, rv szn, rv sty, rv spl, rv stn, own_lv t1, .second, own_lv t2, .second, .val .null] [(.ref srg), (.ref szn)]) (mkF m 4 #[rv a, rv sid, rv sac, rv srg, rv szn, rv sty, rv spl, rv stn, own_lv t1, .second, own_lv t2, .second, .val .null] []) := by
    intro t kt
    refine XS.aload X2.here hx rfl (hb hby own_d11_4) rfl rfl ?_
    show own_S p e below T2 m 6 #[rv a, rv sid, rv sac, rv srg, rv szn, rv sty, rv spl, rv stn, own_lv t1, .second, own_lv t2, .second, .val .null] [(.ref szn)] _
    refine XS.aloadN X2.here hx rfl (hb hby own_d11_6) rfl rfl ?_
    show own_S p e below T2 m 7 #[rv a, rv sid, rv sac, rv srg, rv szn, rv sty, rv spl, rv stn, own_lv t1, .second, own_lv t2, .second, .val .null] [(.ref srg), (.ref szn)] _
    exact kt
  refine own_st sg3 ?_
  obtain ⟨_, T4, L4, X4, hQ4, st4⟩ := own_callS (y := (⟨"com/example/coverfold/coverfold/Zones", "checkInRegion", "(Ljava/lang/String;Ljava/lang/String;)V"⟩ : MethodName)) X2 hx hZ hown (hw _ (List.mem_of_getElem? (i := 52) rfl)) (hw _ (List.mem_of_getElem? (i := 53) rfl)) (hw _ (List.mem_of_getElem? (i := 54) rfl)) (hw _ (List.mem_of_getElem? (i := 55) rfl)) (by decide) (own_rmcr0 l Z a0 hw szn srg b f h0 n0 Z0 SS) e2 (g := (mkF m 7 #[rv a, rv sid, rv sac, rv srg, rv szn, rv sty, rv spl, rv stn, own_lv t1, .second, own_lv t2, .second, .val .null] [(.ref srg), (.ref szn)])) rfl (by rw [hml]; rfl) (argsL := [(.ref szn), (.ref srg)]) (rest := []) (lenOf own_pd11 rfl) rfl (W := 0) (by show 2 * 0 + _ ≤ _; exact Nat.le_of_eq rfl) (hb hby own_d11_7) (by decide) (by decide) (by decide) (by decide)
  obtain ⟨rfl, Nq4, e4⟩ := hQ4
  refine own_st st4 ?_
  have N4 := Fr.app N0 Nq4
  show own_Go p e below _ T4 (mkF m 10 #[rv a, rv sid, rv sac, rv srg, rv szn, rv sty, rv spl, rv stn, own_lv t1, .second, own_lv t2, .second, .val .null] [])
  have sg5 : own_V p e below T4 (mkF m 14 #[rv a, rv sid, rv sac, rv srg, rv szn, rv sty, rv spl, rv stn, own_lv t1, .second, own_lv t2, .second, .val .null] [(.long t2), (.long t1)]) (mkF m 10 #[rv a, rv sid, rv sac, rv srg, rv szn, rv sty, rv spl, rv stn, own_lv t1, .second, own_lv t2, .second, .val .null] []) := by
    intro t kt
    refine XS.lload X4.here hx rfl (hb hby own_d11_10) rfl ?_
    show own_S p e below T4 m 12 #[rv a, rv sid, rv sac, rv srg, rv szn, rv sty, rv spl, rv stn, own_lv t1, .second, own_lv t2, .second, .val .null] [(.long t1)] _
    refine XS.lload X4.here hx rfl (hb hby own_d11_12) rfl ?_
    show own_S p e below T4 m 14 #[rv a, rv sid, rv sac, rv srg, rv szn, rv sty, rv spl, rv stn, own_lv t1, .second, own_lv t2, .second, .val .null] [(.long t2), (.long t1)] _
    exact kt
  refine own_st sg5 ?_
  obtain ⟨_, T6, L6, X6, hQ6, st6⟩ := own_callS (y := (⟨"com/example/coverfold/coverfold/Timestamps", "checkInterval", "(JJ)V"⟩ : MethodName)) X4 hx hZ hown (hw _ (List.mem_of_getElem? (i := 85) rfl)) (hw _ (List.mem_of_getElem? (i := 86) rfl)) (hw _ (List.mem_of_getElem? (i := 87) rfl)) (hw _ (List.mem_of_getElem? (i := 88) rfl)) (by decide) (own_rmci l Z a0 hw t1 t2 h0 n0 Z0 ht) e4 (g := (mkF m 14 #[rv a, rv sid, rv sac, rv srg, rv szn, rv sty, rv spl, rv stn, own_lv t1, .second, own_lv t2, .second, .val .null] [(.long t2), (.long t1)])) rfl (by rw [hml]; rfl) (argsL := [(.long t1), (.long t2)]) (rest := []) (lenOf own_pd12 rfl) rfl (W := 0) (by show 2 * 0 + _ ≤ _; exact Nat.le_of_eq rfl) (hb hby own_d11_14) (by decide) (by decide) (by decide) (by decide)
  obtain ⟨rfl, Nq6, e6⟩ := hQ6
  refine own_st st6 ?_
  have N6 := Fr.app N4 Nq6
  show own_Go p e below _ T6 (mkF m 17 #[rv a, rv sid, rv sac, rv srg, rv szn, rv sty, rv spl, rv stn, own_lv t1, .second, own_lv t2, .second, .val .null] [])
  have sg7 : own_V p e below T6 (mkF m 19 #[rv a, rv sid, rv sac, rv srg, rv szn, rv sty, rv spl, rv stn, own_lv t1, .second, own_lv t2, .second, .val .null] [(.ref sid), (.ref a)]) (mkF m 17 #[rv a, rv sid, rv sac, rv srg, rv szn, rv sty, rv spl, rv stn, own_lv t1, .second, own_lv t2, .second, .val .null] []) := by
    intro t kt
    refine XS.aloadN X6.here hx rfl (hb hby own_d11_17) rfl rfl ?_
    show own_S p e below T6 m 18 #[rv a, rv sid, rv sac, rv srg, rv szn, rv sty, rv spl, rv stn, own_lv t1, .second, own_lv t2, .second, .val .null] [(.ref a)] _
    refine XS.aloadN X6.here hx rfl (hb hby own_d11_18) rfl rfl ?_
    show own_S p e below T6 m 19 #[rv a, rv sid, rv sac, rv srg, rv szn, rv sty, rv spl, rv stn, own_lv t1, .second, own_lv t2, .second, .val .null] [(.ref sid), (.ref a)] _
    exact kt
  refine own_st sg7 ?_
  obtain ⟨T8, h8, X8, e8, W8, st8⟩ := putF X6 hx hZ hown (host := "") (Or.inl (hw _ (List.mem_of_getElem? (i := 89) rfl))) Via.refl e6 FinstanceId EE (Or.inr ⟨(hw _ (List.mem_of_getElem? (i := 90) rfl)), rfl, hnm⟩) (hw _ (List.mem_of_getElem? (i := 43) rfl)) (ty := (.object "java/lang/String")) (by decide) rfl rfl (g := (mkF m 19 #[rv a, rv sid, rv sac, rv srg, rv szn, rv sty, rv spl, rv stn, own_lv t1, .second, own_lv t2, .second, .val .null] [(.ref sid), (.ref a)])) rfl rfl (hb hby own_d11_19)
  refine own_st st8 ?_
  have Z8 : n0 ≤ h8.size := by rw [Wr.size W8]; exact Z0
  have N8 := Fr.snoc X8 N6 g_a
  show own_Go p e below _ T8 (mkF m 22 #[rv a, rv sid, rv sac, rv srg, rv szn, rv sty, rv spl, rv stn, own_lv t1, .second, own_lv t2, .second, .val .null] [])
  have KK8 := Keep.of_wr W8
  have Faccount_8 := Faccount.other W8 (Or.inr (slot_ne (Or.inr (hw _ (List.mem_of_getElem? (i := 92) rfl))) (Or.inr (hw _ (List.mem_of_getElem? (i := 90) rfl))) (by decide) (t := (.object "java/lang/String")) (t' := (.object "java/lang/String")) (by decide) (by decide)))
  have Fregion_8 := Fregion.other W8 (Or.inr (slot_ne (Or.inr (hw _ (List.mem_of_getElem? (i := 94) rfl))) (Or.inr (hw _ (List.mem_of_getElem? (i := 90) rfl))) (by decide) (t := (.object "java/lang/String")) (t' := (.object "java/lang/String")) (by decide) (by decide)))
  have Fzone_8 := Fzone.other W8 (Or.inr (slot_ne (Or.inr (hw _ (List.mem_of_getElem? (i := 96) rfl))) (Or.inr (hw _ (List.mem_of_getElem? (i := 90) rfl))) (by decide) (t := (.object "java/lang/String")) (t' := (.object "java/lang/String")) (by decide) (by decide)))
  have FinstanceType_8 := FinstanceType.other W8 (Or.inr (slot_ne (Or.inr (hw _ (List.mem_of_getElem? (i := 98) rfl))) (Or.inr (hw _ (List.mem_of_getElem? (i := 90) rfl))) (by decide) (t := (.object "java/lang/String")) (t' := (.object "java/lang/String")) (by decide) (by decide)))
  have Fplatform_8 := Fplatform.other W8 (Or.inr (slot_ne (Or.inr (hw _ (List.mem_of_getElem? (i := 100) rfl))) (Or.inr (hw _ (List.mem_of_getElem? (i := 90) rfl))) (by decide) (t := (.object "java/lang/String")) (t' := (.object "java/lang/String")) (by decide) (by decide)))
  have Ftenancy_8 := Ftenancy.other W8 (Or.inr (slot_ne (Or.inr (hw _ (List.mem_of_getElem? (i := 102) rfl))) (Or.inr (hw _ (List.mem_of_getElem? (i := 90) rfl))) (by decide) (t := (.object "java/lang/String")) (t' := (.object "java/lang/String")) (by decide) (by decide)))
  have Fstart_8 := Fstart.other W8 (Or.inr (slot_ne (Or.inr (hw _ (List.mem_of_getElem? (i := 104) rfl))) (Or.inr (hw _ (List.mem_of_getElem? (i := 90) rfl))) (by decide) (t := .long) (t' := (.object "java/lang/String")) (by decide) (by decide)))
  have Fend_8 := Fend.other W8 (Or.inr (slot_ne (Or.inr (hw _ (List.mem_of_getElem? (i := 106) rfl))) (Or.inr (hw _ (List.mem_of_getElem? (i := 90) rfl))) (by decide) (t := .long) (t' := (.object "java/lang/String")) (by decide) (by decide)))
  have FpartSeconds_8 := FpartSeconds.other W8 (Or.inr (slot_ne (Or.inr (hw _ (List.mem_of_getElem? (i := 108) rfl))) (Or.inr (hw _ (List.mem_of_getElem? (i := 90) rfl))) (by decide) (t := (.object "com/example/coverfold/coverfold/Rational")) (t' := (.object "java/lang/String")) (by decide) (by decide)))
  have EE_8 := EE.keep KK8
  have FinstanceId_8 := FinstanceId.same W8
  have KA8 : Keep h0 h8 [a] := (Keep.refl h0 [a]).wr W8 (Or.inl (List.mem_of_getElem? (i := 0) rfl))
  have sg9 : own_V p e below T8 (mkF m 24 #[rv a, rv sid, rv sac, rv srg, rv szn, rv sty, rv spl, rv stn, own_lv t1, .second, own_lv t2, .second, .val .null] [(.ref sac), (.ref a)]) (mkF m 22 #[rv a, rv sid, rv sac, rv srg, rv szn, rv sty, rv spl, rv stn, own_lv t1, .second, own_lv t2, .second, .val .null] []) := by
    intro t kt
    refine XS.aloadN X8.here hx rfl (hb hby own_d11_22) rfl rfl ?_
    show own_S p e below T8 m 23 #[rv a, rv sid, rv sac, rv srg, rv szn, rv sty, rv spl, rv stn, own_lv t1, .second, own_lv t2, .second, .val .null] [(.ref a)] _
    refine XS.aloadN X8.here hx rfl (hb hby own_d11_23) rfl rfl ?_
    show own_S p e below T8 m 24 #[rv a, rv sid, rv sac, rv srg, rv szn, rv sty, rv spl, rv stn, own_lv t1, .second, own_lv t2, .second, .val .null] [(.ref sac), (.ref a)] _
    exact kt
  refine own_st sg9 ?_
  obtain ⟨T10, h10, X10, e10, W10, st10⟩ := putF X8 hx hZ hown (host := "") (Or.inl (hw _ (List.mem_of_getElem? (i := 91) rfl))) Via.refl e8 Faccount_8 EE_8 (Or.inr ⟨(hw _ (List.mem_of_getElem? (i := 92) rfl)), rfl, hnm⟩) (hw _ (List.mem_of_getElem? (i := 43) rfl)) (ty := (.object "java/lang/String")) (by decide) rfl rfl (g := (mkF m 24 #[rv a, rv sid, rv sac, rv srg, rv szn, rv sty, rv spl, rv stn, own_lv t1, .second, own_lv t2, .second, .val .null] [(.ref sac), (.ref a)])) rfl rfl (hb hby own_d11_24)
  refine own_st st10 ?_
  have Z10 : n0 ≤ h10.size := by rw [Wr.size W10]; exact Z8
  have N10 := Fr.snoc X10 N8 g_a
  show own_Go p e below _ T10 (mkF m 27 #[rv a, rv sid, rv sac, rv srg, rv szn, rv sty, rv spl, rv stn, own_lv t1, .second, own_lv t2, .second, .val .null] [])
  have KK10 := Keep.of_wr W10
  have FinstanceId_10 := FinstanceId_8.other W10 (Or.inr (slot_ne (Or.inr (hw _ (List.mem_of_getElem? (i := 90) rfl))) (Or.inr (hw _ (List.mem_of_getElem? (i := 92) rfl))) (by decide) (t := (.object "java/lang/String")) (t' := (.object "java/lang/String")) (by decide) (by decide)))
  have Fregion_10 := Fregion_8.other W10 (Or.inr (slot_ne (Or.inr (hw _ (List.mem_of_getElem? (i := 94) rfl))) (Or.inr (hw _ (List.mem_of_getElem? (i := 92) rfl))) (by decide) (t := (.object "java/lang/String")) (t' := (.object "java/lang/String")) (by decide) (by decide)))
  have Fzone_10 := Fzone_8.other W10 (Or.inr (slot_ne (Or.inr (hw _ (List.mem_of_getElem? (i := 96) rfl))) (Or.inr (hw _ (List.mem_of_getElem? (i := 92) rfl))) (by decide) (t := (.object "java/lang/String")) (t' := (.object "java/lang/String")) (by decide) (by decide)))
  have FinstanceType_10 := FinstanceType_8.other W10 (Or.inr (slot_ne (Or.inr (hw _ (List.mem_of_getElem? (i := 98) rfl))) (Or.inr (hw _ (List.mem_of_getElem? (i := 92) rfl))) (by decide) (t := (.object "java/lang/String")) (t' := (.object "java/lang/String")) (by decide) (by decide)))
  have Fplatform_10 := Fplatform_8.other W10 (Or.inr (slot_ne (Or.inr (hw _ (List.mem_of_getElem? (i := 100) rfl))) (Or.inr (hw _ (List.mem_of_getElem? (i := 92) rfl))) (by decide) (t := (.object "java/lang/String")) (t' := (.object "java/lang/String")) (by decide) (by decide)))
  have Ftenancy_10 := Ftenancy_8.other W10 (Or.inr (slot_ne (Or.inr (hw _ (List.mem_of_getElem? (i := 102) rfl))) (Or.inr (hw _ (List.mem_of_getElem? (i := 92) rfl))) (by decide) (t := (.object "java/lang/String")) (t' := (.object "java/lang/String")) (by decide) (by decide)))
  have Fstart_10 := Fstart_8.other W10 (Or.inr (slot_ne (Or.inr (hw _ (List.mem_of_getElem? (i := 104) rfl))) (Or.inr (hw _ (List.mem_of_getElem? (i := 92) rfl))) (by decide) (t := .long) (t' := (.object "java/lang/String")) (by decide) (by decide)))
  have Fend_10 := Fend_8.other W10 (Or.inr (slot_ne (Or.inr (hw _ (List.mem_of_getElem? (i := 106) rfl))) (Or.inr (hw _ (List.mem_of_getElem? (i := 92) rfl))) (by decide) (t := .long) (t' := (.object "java/lang/String")) (by decide) (by decide)))
  have FpartSeconds_10 := FpartSeconds_8.other W10 (Or.inr (slot_ne (Or.inr (hw _ (List.mem_of_getElem? (i := 108) rfl))) (Or.inr (hw _ (List.mem_of_getElem? (i := 92) rfl))) (by decide) (t := (.object "com/example/coverfold/coverfold/Rational")) (t' := (.object "java/lang/String")) (by decide) (by decide)))
  have EE_10 := EE_8.keep KK10
  have Faccount_10 := Faccount_8.same W10
  have KA10 : Keep h0 h10 [a] := KA8.wr W10 (Or.inl (List.mem_of_getElem? (i := 0) rfl))
  have sg11 : own_V p e below T10 (mkF m 29 #[rv a, rv sid, rv sac, rv srg, rv szn, rv sty, rv spl, rv stn, own_lv t1, .second, own_lv t2, .second, .val .null] [(.ref srg), (.ref a)]) (mkF m 27 #[rv a, rv sid, rv sac, rv srg, rv szn, rv sty, rv spl, rv stn, own_lv t1, .second, own_lv t2, .second, .val .null] []) := by
    intro t kt
    refine XS.aloadN X10.here hx rfl (hb hby own_d11_27) rfl rfl ?_
    show own_S p e below T10 m 28 #[rv a, rv sid, rv sac, rv srg, rv szn, rv sty, rv spl, rv stn, own_lv t1, .second, own_lv t2, .second, .val .null] [(.ref a)] _
    refine XS.aloadN X10.here hx rfl (hb hby own_d11_28) rfl rfl ?_
    show own_S p e below T10 m 29 #[rv a, rv sid, rv sac, rv srg, rv szn, rv sty, rv spl, rv stn, own_lv t1, .second, own_lv t2, .second, .val .null] [(.ref srg), (.ref a)] _
    exact kt
  refine own_st sg11 ?_
  obtain ⟨T12, h12, X12, e12, W12, st12⟩ := putF X10 hx hZ hown (host := "") (Or.inl (hw _ (List.mem_of_getElem? (i := 93) rfl))) Via.refl e10 Fregion_10 EE_10 (Or.inr ⟨(hw _ (List.mem_of_getElem? (i := 94) rfl)), rfl, hnm⟩) (hw _ (List.mem_of_getElem? (i := 43) rfl)) (ty := (.object "java/lang/String")) (by decide) rfl rfl (g := (mkF m 29 #[rv a, rv sid, rv sac, rv srg, rv szn, rv sty, rv spl, rv stn, own_lv t1, .second, own_lv t2, .second, .val .null] [(.ref srg), (.ref a)])) rfl rfl (hb hby own_d11_29)
  refine own_st st12 ?_
  have Z12 : n0 ≤ h12.size := by rw [Wr.size W12]; exact Z10
  have N12 := Fr.snoc X12 N10 g_a
  show own_Go p e below _ T12 (mkF m 32 #[rv a, rv sid, rv sac, rv srg, rv szn, rv sty, rv spl, rv stn, own_lv t1, .second, own_lv t2, .second, .val .null] [])
  have KK12 := Keep.of_wr W12
  have FinstanceId_12 := FinstanceId_10.other W12 (Or.inr (slot_ne (Or.inr (hw _ (List.mem_of_getElem? (i := 90) rfl))) (Or.inr (hw _ (List.mem_of_getElem? (i := 94) rfl))) (by decide) (t := (.object "java/lang/String")) (t' := (.object "java/lang/String")) (by decide) (by decide)))
  have Faccount_12 := Faccount_10.other W12 (Or.inr (slot_ne (Or.inr (hw _ (List.mem_of_getElem? (i := 92) rfl))) (Or.inr (hw _ (List.mem_of_getElem? (i := 94) rfl))) (by decide) (t := (.object "java/lang/String")) (t' := (.object "java/lang/String")) (by decide) (by decide)))
  have Fzone_12 := Fzone_10.other W12 (Or.inr (slot_ne (Or.inr (hw _ (List.mem_of_getElem? (i := 96) rfl))) (Or.inr (hw _ (List.mem_of_getElem? (i := 94) rfl))) (by decide) (t := (.object "java/lang/String")) (t' := (.object "java/lang/String")) (by decide) (by decide)))
  have FinstanceType_12 := FinstanceType_10.other W12 (Or.inr (slot_ne (Or.inr (hw _ (List.mem_of_getElem? (i := 98) rfl))) (Or.inr (hw _ (List.mem_of_getElem? (i := 94) rfl))) (by decide) (t := (.object "java/lang/String")) (t' := (.object "java/lang/String")) (by decide) (by decide)))
  have Fplatform_12 := Fplatform_10.other W12 (Or.inr (slot_ne (Or.inr (hw _ (List.mem_of_getElem? (i := 100) rfl))) (Or.inr (hw _ (List.mem_of_getElem? (i := 94) rfl))) (by decide) (t := (.object "java/lang/String")) (t' := (.object "java/lang/String")) (by decide) (by decide)))
  have Ftenancy_12 := Ftenancy_10.other W12 (Or.inr (slot_ne (Or.inr (hw _ (List.mem_of_getElem? (i := 102) rfl))) (Or.inr (hw _ (List.mem_of_getElem? (i := 94) rfl))) (by decide) (t := (.object "java/lang/String")) (t' := (.object "java/lang/String")) (by decide) (by decide)))
  have Fstart_12 := Fstart_10.other W12 (Or.inr (slot_ne (Or.inr (hw _ (List.mem_of_getElem? (i := 104) rfl))) (Or.inr (hw _ (List.mem_of_getElem? (i := 94) rfl))) (by decide) (t := .long) (t' := (.object "java/lang/String")) (by decide) (by decide)))
  have Fend_12 := Fend_10.other W12 (Or.inr (slot_ne (Or.inr (hw _ (List.mem_of_getElem? (i := 106) rfl))) (Or.inr (hw _ (List.mem_of_getElem? (i := 94) rfl))) (by decide) (t := .long) (t' := (.object "java/lang/String")) (by decide) (by decide)))
  have FpartSeconds_12 := FpartSeconds_10.other W12 (Or.inr (slot_ne (Or.inr (hw _ (List.mem_of_getElem? (i := 108) rfl))) (Or.inr (hw _ (List.mem_of_getElem? (i := 94) rfl))) (by decide) (t := (.object "com/example/coverfold/coverfold/Rational")) (t' := (.object "java/lang/String")) (by decide) (by decide)))
  have EE_12 := EE_10.keep KK12
  have Fregion_12 := Fregion_10.same W12
  have KA12 : Keep h0 h12 [a] := KA10.wr W12 (Or.inl (List.mem_of_getElem? (i := 0) rfl))
  have sg13 : own_V p e below T12 (mkF m 35 #[rv a, rv sid, rv sac, rv srg, rv szn, rv sty, rv spl, rv stn, own_lv t1, .second, own_lv t2, .second, .val .null] [(.ref szn), (.ref a)]) (mkF m 32 #[rv a, rv sid, rv sac, rv srg, rv szn, rv sty, rv spl, rv stn, own_lv t1, .second, own_lv t2, .second, .val .null] []) := by
    intro t kt
    refine XS.aloadN X12.here hx rfl (hb hby own_d11_32) rfl rfl ?_
    show own_S p e below T12 m 33 #[rv a, rv sid, rv sac, rv srg, rv szn, rv sty, rv spl, rv stn, own_lv t1, .second, own_lv t2, .second, .val .null] [(.ref a)] _
    refine XS.aload X12.here hx rfl (hb hby own_d11_33) rfl rfl ?_
    show own_S p e below T12 m 35 #[rv a, rv sid, rv sac, rv srg, rv szn, rv sty, rv spl, rv stn, own_lv t1, .second, own_lv t2, .second, .val .null] [(.ref szn), (.ref a)] _
    exact kt
  refine own_st sg13 ?_
  obtain ⟨T14, h14, X14, e14, W14, st14⟩ := putF X12 hx hZ hown (host := "") (Or.inl (hw _ (List.mem_of_getElem? (i := 95) rfl))) Via.refl e12 Fzone_12 EE_12 (Or.inr ⟨(hw _ (List.mem_of_getElem? (i := 96) rfl)), rfl, hnm⟩) (hw _ (List.mem_of_getElem? (i := 43) rfl)) (ty := (.object "java/lang/String")) (by decide) rfl rfl (g := (mkF m 35 #[rv a, rv sid, rv sac, rv srg, rv szn, rv sty, rv spl, rv stn, own_lv t1, .second, own_lv t2, .second, .val .null] [(.ref szn), (.ref a)])) rfl rfl (hb hby own_d11_35)
  refine own_st st14 ?_
  have Z14 : n0 ≤ h14.size := by rw [Wr.size W14]; exact Z12
  have N14 := Fr.snoc X14 N12 g_a
  show own_Go p e below _ T14 (mkF m 38 #[rv a, rv sid, rv sac, rv srg, rv szn, rv sty, rv spl, rv stn, own_lv t1, .second, own_lv t2, .second, .val .null] [])
  have KK14 := Keep.of_wr W14
  have FinstanceId_14 := FinstanceId_12.other W14 (Or.inr (slot_ne (Or.inr (hw _ (List.mem_of_getElem? (i := 90) rfl))) (Or.inr (hw _ (List.mem_of_getElem? (i := 96) rfl))) (by decide) (t := (.object "java/lang/String")) (t' := (.object "java/lang/String")) (by decide) (by decide)))
  have Faccount_14 := Faccount_12.other W14 (Or.inr (slot_ne (Or.inr (hw _ (List.mem_of_getElem? (i := 92) rfl))) (Or.inr (hw _ (List.mem_of_getElem? (i := 96) rfl))) (by decide) (t := (.object "java/lang/String")) (t' := (.object "java/lang/String")) (by decide) (by decide)))
  have Fregion_14 := Fregion_12.other W14 (Or.inr (slot_ne (Or.inr (hw _ (List.mem_of_getElem? (i := 94) rfl))) (Or.inr (hw _ (List.mem_of_getElem? (i := 96) rfl))) (by decide) (t := (.object "java/lang/String")) (t' := (.object "java/lang/String")) (by decide) (by decide)))
  have FinstanceType_14 := FinstanceType_12.other W14 (Or.inr (slot_ne (Or.inr (hw _ (List.mem_of_getElem? (i := 98) rfl))) (Or.inr (hw _ (List.mem_of_getElem? (i := 96) rfl))) (by decide) (t := (.object "java/lang/String")) (t' := (.object "java/lang/String")) (by decide) (by decide)))
  have Fplatform_14 := Fplatform_12.other W14 (Or.inr (slot_ne (Or.inr (hw _ (List.mem_of_getElem? (i := 100) rfl))) (Or.inr (hw _ (List.mem_of_getElem? (i := 96) rfl))) (by decide) (t := (.object "java/lang/String")) (t' := (.object "java/lang/String")) (by decide) (by decide)))
  have Ftenancy_14 := Ftenancy_12.other W14 (Or.inr (slot_ne (Or.inr (hw _ (List.mem_of_getElem? (i := 102) rfl))) (Or.inr (hw _ (List.mem_of_getElem? (i := 96) rfl))) (by decide) (t := (.object "java/lang/String")) (t' := (.object "java/lang/String")) (by decide) (by decide)))
  have Fstart_14 := Fstart_12.other W14 (Or.inr (slot_ne (Or.inr (hw _ (List.mem_of_getElem? (i := 104) rfl))) (Or.inr (hw _ (List.mem_of_getElem? (i := 96) rfl))) (by decide) (t := .long) (t' := (.object "java/lang/String")) (by decide) (by decide)))
  have Fend_14 := Fend_12.other W14 (Or.inr (slot_ne (Or.inr (hw _ (List.mem_of_getElem? (i := 106) rfl))) (Or.inr (hw _ (List.mem_of_getElem? (i := 96) rfl))) (by decide) (t := .long) (t' := (.object "java/lang/String")) (by decide) (by decide)))
  have FpartSeconds_14 := FpartSeconds_12.other W14 (Or.inr (slot_ne (Or.inr (hw _ (List.mem_of_getElem? (i := 108) rfl))) (Or.inr (hw _ (List.mem_of_getElem? (i := 96) rfl))) (by decide) (t := (.object "com/example/coverfold/coverfold/Rational")) (t' := (.object "java/lang/String")) (by decide) (by decide)))
  have EE_14 := EE_12.keep KK14
  have Fzone_14 := Fzone_12.same W14
  have KA14 : Keep h0 h14 [a] := KA12.wr W14 (Or.inl (List.mem_of_getElem? (i := 0) rfl))
  have sg15 : own_V p e below T14 (mkF m 41 #[rv a, rv sid, rv sac, rv srg, rv szn, rv sty, rv spl, rv stn, own_lv t1, .second, own_lv t2, .second, .val .null] [(.ref sty), (.ref a)]) (mkF m 38 #[rv a, rv sid, rv sac, rv srg, rv szn, rv sty, rv spl, rv stn, own_lv t1, .second, own_lv t2, .second, .val .null] []) := by
    intro t kt
    refine XS.aloadN X14.here hx rfl (hb hby own_d11_38) rfl rfl ?_
    show own_S p e below T14 m 39 #[rv a, rv sid, rv sac, rv srg, rv szn, rv sty, rv spl, rv stn, own_lv t1, .second, own_lv t2, .second, .val .null] [(.ref a)] _
    refine XS.aload X14.here hx rfl (hb hby own_d11_39) rfl rfl ?_
    show own_S p e below T14 m 41 #[rv a, rv sid, rv sac, rv srg, rv szn, rv sty, rv spl, rv stn, own_lv t1, .second, own_lv t2, .second, .val .null] [(.ref sty), (.ref a)] _
    exact kt
  refine own_st sg15 ?_
  obtain ⟨T16, h16, X16, e16, W16, st16⟩ := putF X14 hx hZ hown (host := "") (Or.inl (hw _ (List.mem_of_getElem? (i := 97) rfl))) Via.refl e14 FinstanceType_14 EE_14 (Or.inr ⟨(hw _ (List.mem_of_getElem? (i := 98) rfl)), rfl, hnm⟩) (hw _ (List.mem_of_getElem? (i := 43) rfl)) (ty := (.object "java/lang/String")) (by decide) rfl rfl (g := (mkF m 41 #[rv a, rv sid, rv sac, rv srg, rv szn, rv sty, rv spl, rv stn, own_lv t1, .second, own_lv t2, .second, .val .null] [(.ref sty), (.ref a)])) rfl rfl (hb hby own_d11_41)
  refine own_st st16 ?_
  have Z16 : n0 ≤ h16.size := by rw [Wr.size W16]; exact Z14
  have N16 := Fr.snoc X16 N14 g_a
  show own_Go p e below _ T16 (mkF m 44 #[rv a, rv sid, rv sac, rv srg, rv szn, rv sty, rv spl, rv stn, own_lv t1, .second, own_lv t2, .second, .val .null] [])
  have KK16 := Keep.of_wr W16
  have FinstanceId_16 := FinstanceId_14.other W16 (Or.inr (slot_ne (Or.inr (hw _ (List.mem_of_getElem? (i := 90) rfl))) (Or.inr (hw _ (List.mem_of_getElem? (i := 98) rfl))) (by decide) (t := (.object "java/lang/String")) (t' := (.object "java/lang/String")) (by decide) (by decide)))
  have Faccount_16 := Faccount_14.other W16 (Or.inr (slot_ne (Or.inr (hw _ (List.mem_of_getElem? (i := 92) rfl))) (Or.inr (hw _ (List.mem_of_getElem? (i := 98) rfl))) (by decide) (t := (.object "java/lang/String")) (t' := (.object "java/lang/String")) (by decide) (by decide)))
  have Fregion_16 := Fregion_14.other W16 (Or.inr (slot_ne (Or.inr (hw _ (List.mem_of_getElem? (i := 94) rfl))) (Or.inr (hw _ (List.mem_of_getElem? (i := 98) rfl))) (by decide) (t := (.object "java/lang/String")) (t' := (.object "java/lang/String")) (by decide) (by decide)))
  have Fzone_16 := Fzone_14.other W16 (Or.inr (slot_ne (Or.inr (hw _ (List.mem_of_getElem? (i := 96) rfl))) (Or.inr (hw _ (List.mem_of_getElem? (i := 98) rfl))) (by decide) (t := (.object "java/lang/String")) (t' := (.object "java/lang/String")) (by decide) (by decide)))
  have Fplatform_16 := Fplatform_14.other W16 (Or.inr (slot_ne (Or.inr (hw _ (List.mem_of_getElem? (i := 100) rfl))) (Or.inr (hw _ (List.mem_of_getElem? (i := 98) rfl))) (by decide) (t := (.object "java/lang/String")) (t' := (.object "java/lang/String")) (by decide) (by decide)))
  have Ftenancy_16 := Ftenancy_14.other W16 (Or.inr (slot_ne (Or.inr (hw _ (List.mem_of_getElem? (i := 102) rfl))) (Or.inr (hw _ (List.mem_of_getElem? (i := 98) rfl))) (by decide) (t := (.object "java/lang/String")) (t' := (.object "java/lang/String")) (by decide) (by decide)))
  have Fstart_16 := Fstart_14.other W16 (Or.inr (slot_ne (Or.inr (hw _ (List.mem_of_getElem? (i := 104) rfl))) (Or.inr (hw _ (List.mem_of_getElem? (i := 98) rfl))) (by decide) (t := .long) (t' := (.object "java/lang/String")) (by decide) (by decide)))
  have Fend_16 := Fend_14.other W16 (Or.inr (slot_ne (Or.inr (hw _ (List.mem_of_getElem? (i := 106) rfl))) (Or.inr (hw _ (List.mem_of_getElem? (i := 98) rfl))) (by decide) (t := .long) (t' := (.object "java/lang/String")) (by decide) (by decide)))
  have FpartSeconds_16 := FpartSeconds_14.other W16 (Or.inr (slot_ne (Or.inr (hw _ (List.mem_of_getElem? (i := 108) rfl))) (Or.inr (hw _ (List.mem_of_getElem? (i := 98) rfl))) (by decide) (t := (.object "com/example/coverfold/coverfold/Rational")) (t' := (.object "java/lang/String")) (by decide) (by decide)))
  have EE_16 := EE_14.keep KK16
  have FinstanceType_16 := FinstanceType_14.same W16
  have KA16 : Keep h0 h16 [a] := KA14.wr W16 (Or.inl (List.mem_of_getElem? (i := 0) rfl))
  have sg17 : own_V p e below T16 (mkF m 47 #[rv a, rv sid, rv sac, rv srg, rv szn, rv sty, rv spl, rv stn, own_lv t1, .second, own_lv t2, .second, .val .null] [(.ref spl), (.ref a)]) (mkF m 44 #[rv a, rv sid, rv sac, rv srg, rv szn, rv sty, rv spl, rv stn, own_lv t1, .second, own_lv t2, .second, .val .null] []) := by
    intro t kt
    refine XS.aloadN X16.here hx rfl (hb hby own_d11_44) rfl rfl ?_
    show own_S p e below T16 m 45 #[rv a, rv sid, rv sac, rv srg, rv szn, rv sty, rv spl, rv stn, own_lv t1, .second, own_lv t2, .second, .val .null] [(.ref a)] _
    refine XS.aload X16.here hx rfl (hb hby own_d11_45) rfl rfl ?_
    show own_S p e below T16 m 47 #[rv a, rv sid, rv sac, rv srg, rv szn, rv sty, rv spl, rv stn, own_lv t1, .second, own_lv t2, .second, .val .null] [(.ref spl), (.ref a)] _
    exact kt
  refine own_st sg17 ?_
  obtain ⟨T18, h18, X18, e18, W18, st18⟩ := putF X16 hx hZ hown (host := "") (Or.inl (hw _ (List.mem_of_getElem? (i := 99) rfl))) Via.refl e16 Fplatform_16 EE_16 (Or.inr ⟨(hw _ (List.mem_of_getElem? (i := 100) rfl)), rfl, hnm⟩) (hw _ (List.mem_of_getElem? (i := 43) rfl)) (ty := (.object "java/lang/String")) (by decide) rfl rfl (g := (mkF m 47 #[rv a, rv sid, rv sac, rv srg, rv szn, rv sty, rv spl, rv stn, own_lv t1, .second, own_lv t2, .second, .val .null] [(.ref spl), (.ref a)])) rfl rfl (hb hby own_d11_47)
  refine own_st st18 ?_
  have Z18 : n0 ≤ h18.size := by rw [Wr.size W18]; exact Z16
  have N18 := Fr.snoc X18 N16 g_a
  show own_Go p e below _ T18 (mkF m 50 #[rv a, rv sid, rv sac, rv srg, rv szn, rv sty, rv spl, rv stn, own_lv t1, .second, own_lv t2, .second, .val .null] [])
  have KK18 := Keep.of_wr W18
  have FinstanceId_18 := FinstanceId_16.other W18 (Or.inr (slot_ne (Or.inr (hw _ (List.mem_of_getElem? (i := 90) rfl))) (Or.inr (hw _ (List.mem_of_getElem? (i := 100) rfl))) (by decide) (t := (.object "java/lang/String")) (t' := (.object "java/lang/String")) (by decide) (by decide)))
  have Faccount_18 := Faccount_16.other W18 (Or.inr (slot_ne (Or.inr (hw _ (List.mem_of_getElem? (i := 92) rfl))) (Or.inr (hw _ (List.mem_of_getElem? (i := 100) rfl))) (by decide) (t := (.object "java/lang/String")) (t' := (.object "java/lang/String")) (by decide) (by decide)))
  have Fregion_18 := Fregion_16.other W18 (Or.inr (slot_ne (Or.inr (hw _ (List.mem_of_getElem? (i := 94) rfl))) (Or.inr (hw _ (List.mem_of_getElem? (i := 100) rfl))) (by decide) (t := (.object "java/lang/String")) (t' := (.object "java/lang/String")) (by decide) (by decide)))
  have Fzone_18 := Fzone_16.other W18 (Or.inr (slot_ne (Or.inr (hw _ (List.mem_of_getElem? (i := 96) rfl))) (Or.inr (hw _ (List.mem_of_getElem? (i := 100) rfl))) (by decide) (t := (.object "java/lang/String")) (t' := (.object "java/lang/String")) (by decide) (by decide)))
  have FinstanceType_18 := FinstanceType_16.other W18 (Or.inr (slot_ne (Or.inr (hw _ (List.mem_of_getElem? (i := 98) rfl))) (Or.inr (hw _ (List.mem_of_getElem? (i := 100) rfl))) (by decide) (t := (.object "java/lang/String")) (t' := (.object "java/lang/String")) (by decide) (by decide)))
  have Ftenancy_18 := Ftenancy_16.other W18 (Or.inr (slot_ne (Or.inr (hw _ (List.mem_of_getElem? (i := 102) rfl))) (Or.inr (hw _ (List.mem_of_getElem? (i := 100) rfl))) (by decide) (t := (.object "java/lang/String")) (t' := (.object "java/lang/String")) (by decide) (by decide)))
  have Fstart_18 := Fstart_16.other W18 (Or.inr (slot_ne (Or.inr (hw _ (List.mem_of_getElem? (i := 104) rfl))) (Or.inr (hw _ (List.mem_of_getElem? (i := 100) rfl))) (by decide) (t := .long) (t' := (.object "java/lang/String")) (by decide) (by decide)))
  have Fend_18 := Fend_16.other W18 (Or.inr (slot_ne (Or.inr (hw _ (List.mem_of_getElem? (i := 106) rfl))) (Or.inr (hw _ (List.mem_of_getElem? (i := 100) rfl))) (by decide) (t := .long) (t' := (.object "java/lang/String")) (by decide) (by decide)))
  have FpartSeconds_18 := FpartSeconds_16.other W18 (Or.inr (slot_ne (Or.inr (hw _ (List.mem_of_getElem? (i := 108) rfl))) (Or.inr (hw _ (List.mem_of_getElem? (i := 100) rfl))) (by decide) (t := (.object "com/example/coverfold/coverfold/Rational")) (t' := (.object "java/lang/String")) (by decide) (by decide)))
  have EE_18 := EE_16.keep KK18
  have Fplatform_18 := Fplatform_16.same W18
  have KA18 : Keep h0 h18 [a] := KA16.wr W18 (Or.inl (List.mem_of_getElem? (i := 0) rfl))
  have sg19 : own_V p e below T18 (mkF m 53 #[rv a, rv sid, rv sac, rv srg, rv szn, rv sty, rv spl, rv stn, own_lv t1, .second, own_lv t2, .second, .val .null] [(.ref stn), (.ref a)]) (mkF m 50 #[rv a, rv sid, rv sac, rv srg, rv szn, rv sty, rv spl, rv stn, own_lv t1, .second, own_lv t2, .second, .val .null] []) := by
    intro t kt
    refine XS.aloadN X18.here hx rfl (hb hby own_d11_50) rfl rfl ?_
    show own_S p e below T18 m 51 #[rv a, rv sid, rv sac, rv srg, rv szn, rv sty, rv spl, rv stn, own_lv t1, .second, own_lv t2, .second, .val .null] [(.ref a)] _
    refine XS.aload X18.here hx rfl (hb hby own_d11_51) rfl rfl ?_
    show own_S p e below T18 m 53 #[rv a, rv sid, rv sac, rv srg, rv szn, rv sty, rv spl, rv stn, own_lv t1, .second, own_lv t2, .second, .val .null] [(.ref stn), (.ref a)] _
    exact kt
  refine own_st sg19 ?_
  obtain ⟨T20, h20, X20, e20, W20, st20⟩ := putF X18 hx hZ hown (host := "") (Or.inl (hw _ (List.mem_of_getElem? (i := 101) rfl))) Via.refl e18 Ftenancy_18 EE_18 (Or.inr ⟨(hw _ (List.mem_of_getElem? (i := 102) rfl)), rfl, hnm⟩) (hw _ (List.mem_of_getElem? (i := 43) rfl)) (ty := (.object "java/lang/String")) (by decide) rfl rfl (g := (mkF m 53 #[rv a, rv sid, rv sac, rv srg, rv szn, rv sty, rv spl, rv stn, own_lv t1, .second, own_lv t2, .second, .val .null] [(.ref stn), (.ref a)])) rfl rfl (hb hby own_d11_53)
  refine own_st st20 ?_
  have Z20 : n0 ≤ h20.size := by rw [Wr.size W20]; exact Z18
  have N20 := Fr.snoc X20 N18 g_a
  show own_Go p e below _ T20 (mkF m 56 #[rv a, rv sid, rv sac, rv srg, rv szn, rv sty, rv spl, rv stn, own_lv t1, .second, own_lv t2, .second, .val .null] [])
  have KK20 := Keep.of_wr W20
  have FinstanceId_20 := FinstanceId_18.other W20 (Or.inr (slot_ne (Or.inr (hw _ (List.mem_of_getElem? (i := 90) rfl))) (Or.inr (hw _ (List.mem_of_getElem? (i := 102) rfl))) (by decide) (t := (.object "java/lang/String")) (t' := (.object "java/lang/String")) (by decide) (by decide)))
  have Faccount_20 := Faccount_18.other W20 (Or.inr (slot_ne (Or.inr (hw _ (List.mem_of_getElem? (i := 92) rfl))) (Or.inr (hw _ (List.mem_of_getElem? (i := 102) rfl))) (by decide) (t := (.object "java/lang/String")) (t' := (.object "java/lang/String")) (by decide) (by decide)))
  have Fregion_20 := Fregion_18.other W20 (Or.inr (slot_ne (Or.inr (hw _ (List.mem_of_getElem? (i := 94) rfl))) (Or.inr (hw _ (List.mem_of_getElem? (i := 102) rfl))) (by decide) (t := (.object "java/lang/String")) (t' := (.object "java/lang/String")) (by decide) (by decide)))
  have Fzone_20 := Fzone_18.other W20 (Or.inr (slot_ne (Or.inr (hw _ (List.mem_of_getElem? (i := 96) rfl))) (Or.inr (hw _ (List.mem_of_getElem? (i := 102) rfl))) (by decide) (t := (.object "java/lang/String")) (t' := (.object "java/lang/String")) (by decide) (by decide)))
  have FinstanceType_20 := FinstanceType_18.other W20 (Or.inr (slot_ne (Or.inr (hw _ (List.mem_of_getElem? (i := 98) rfl))) (Or.inr (hw _ (List.mem_of_getElem? (i := 102) rfl))) (by decide) (t := (.object "java/lang/String")) (t' := (.object "java/lang/String")) (by decide) (by decide)))
  have Fplatform_20 := Fplatform_18.other W20 (Or.inr (slot_ne (Or.inr (hw _ (List.mem_of_getElem? (i := 100) rfl))) (Or.inr (hw _ (List.mem_of_getElem? (i := 102) rfl))) (by decide) (t := (.object "java/lang/String")) (t' := (.object "java/lang/String")) (by decide) (by decide)))
  have Fstart_20 := Fstart_18.other W20 (Or.inr (slot_ne (Or.inr (hw _ (List.mem_of_getElem? (i := 104) rfl))) (Or.inr (hw _ (List.mem_of_getElem? (i := 102) rfl))) (by decide) (t := .long) (t' := (.object "java/lang/String")) (by decide) (by decide)))
  have Fend_20 := Fend_18.other W20 (Or.inr (slot_ne (Or.inr (hw _ (List.mem_of_getElem? (i := 106) rfl))) (Or.inr (hw _ (List.mem_of_getElem? (i := 102) rfl))) (by decide) (t := .long) (t' := (.object "java/lang/String")) (by decide) (by decide)))
  have FpartSeconds_20 := FpartSeconds_18.other W20 (Or.inr (slot_ne (Or.inr (hw _ (List.mem_of_getElem? (i := 108) rfl))) (Or.inr (hw _ (List.mem_of_getElem? (i := 102) rfl))) (by decide) (t := (.object "com/example/coverfold/coverfold/Rational")) (t' := (.object "java/lang/String")) (by decide) (by decide)))
  have EE_20 := EE_18.keep KK20
  have Ftenancy_20 := Ftenancy_18.same W20
  have KA20 : Keep h0 h20 [a] := KA18.wr W20 (Or.inl (List.mem_of_getElem? (i := 0) rfl))
  have sg21 : own_V p e below T20 (mkF m 59 #[rv a, rv sid, rv sac, rv srg, rv szn, rv sty, rv spl, rv stn, own_lv t1, .second, own_lv t2, .second, .val .null] [(.long t1), (.ref a)]) (mkF m 56 #[rv a, rv sid, rv sac, rv srg, rv szn, rv sty, rv spl, rv stn, own_lv t1, .second, own_lv t2, .second, .val .null] []) := by
    intro t kt
    refine XS.aloadN X20.here hx rfl (hb hby own_d11_56) rfl rfl ?_
    show own_S p e below T20 m 57 #[rv a, rv sid, rv sac, rv srg, rv szn, rv sty, rv spl, rv stn, own_lv t1, .second, own_lv t2, .second, .val .null] [(.ref a)] _
    refine XS.lload X20.here hx rfl (hb hby own_d11_57) rfl ?_
    show own_S p e below T20 m 59 #[rv a, rv sid, rv sac, rv srg, rv szn, rv sty, rv spl, rv stn, own_lv t1, .second, own_lv t2, .second, .val .null] [(.long t1), (.ref a)] _
    exact kt
  refine own_st sg21 ?_
  obtain ⟨T22, h22, X22, e22, W22, st22⟩ := putF X20 hx hZ hown (host := "") (Or.inl (hw _ (List.mem_of_getElem? (i := 103) rfl))) Via.refl e20 Fstart_20 EE_20 (Or.inr ⟨(hw _ (List.mem_of_getElem? (i := 104) rfl)), rfl, hnm⟩) (hw _ (List.mem_of_getElem? (i := 43) rfl)) (ty := .long) (by decide) rfl rfl (g := (mkF m 59 #[rv a, rv sid, rv sac, rv srg, rv szn, rv sty, rv spl, rv stn, own_lv t1, .second, own_lv t2, .second, .val .null] [(.long t1), (.ref a)])) rfl rfl (hb hby own_d11_59)
  refine own_st st22 ?_
  have Z22 : n0 ≤ h22.size := by rw [Wr.size W22]; exact Z20
  have N22 := Fr.snoc X22 N20 g_a
  show own_Go p e below _ T22 (mkF m 62 #[rv a, rv sid, rv sac, rv srg, rv szn, rv sty, rv spl, rv stn, own_lv t1, .second, own_lv t2, .second, .val .null] [])
  have KK22 := Keep.of_wr W22
  have FinstanceId_22 := FinstanceId_20.other W22 (Or.inr (slot_ne (Or.inr (hw _ (List.mem_of_getElem? (i := 90) rfl))) (Or.inr (hw _ (List.mem_of_getElem? (i := 104) rfl))) (by decide) (t := (.object "java/lang/String")) (t' := .long) (by decide) (by decide)))
  have Faccount_22 := Faccount_20.other W22 (Or.inr (slot_ne (Or.inr (hw _ (List.mem_of_getElem? (i := 92) rfl))) (Or.inr (hw _ (List.mem_of_getElem? (i := 104) rfl))) (by decide) (t := (.object "java/lang/String")) (t' := .long) (by decide) (by decide)))
  have Fregion_22 := Fregion_20.other W22 (Or.inr (slot_ne (Or.inr (hw _ (List.mem_of_getElem? (i := 94) rfl))) (Or.inr (hw _ (List.mem_of_getElem? (i := 104) rfl))) (by decide) (t := (.object "java/lang/String")) (t' := .long) (by decide) (by decide)))
  have Fzone_22 := Fzone_20.other W22 (Or.inr (slot_ne (Or.inr (hw _ (List.mem_of_getElem? (i := 96) rfl))) (Or.inr (hw _ (List.mem_of_getElem? (i := 104) rfl))) (by decide) (t := (.object "java/lang/String")) (t' := .long) (by decide) (by decide)))
  have FinstanceType_22 := FinstanceType_20.other W22 (Or.inr (slot_ne (Or.inr (hw _ (List.mem_of_getElem? (i := 98) rfl))) (Or.inr (hw _ (List.mem_of_getElem? (i := 104) rfl))) (by decide) (t := (.object "java/lang/String")) (t' := .long) (by decide) (by decide)))
  have Fplatform_22 := Fplatform_20.other W22 (Or.inr (slot_ne (Or.inr (hw _ (List.mem_of_getElem? (i := 100) rfl))) (Or.inr (hw _ (List.mem_of_getElem? (i := 104) rfl))) (by decide) (t := (.object "java/lang/String")) (t' := .long) (by decide) (by decide)))
  have Ftenancy_22 := Ftenancy_20.other W22 (Or.inr (slot_ne (Or.inr (hw _ (List.mem_of_getElem? (i := 102) rfl))) (Or.inr (hw _ (List.mem_of_getElem? (i := 104) rfl))) (by decide) (t := (.object "java/lang/String")) (t' := .long) (by decide) (by decide)))
  have Fend_22 := Fend_20.other W22 (Or.inr (slot_ne (Or.inr (hw _ (List.mem_of_getElem? (i := 106) rfl))) (Or.inr (hw _ (List.mem_of_getElem? (i := 104) rfl))) (by decide) (t := .long) (t' := .long) (by decide) (by decide)))
  have FpartSeconds_22 := FpartSeconds_20.other W22 (Or.inr (slot_ne (Or.inr (hw _ (List.mem_of_getElem? (i := 108) rfl))) (Or.inr (hw _ (List.mem_of_getElem? (i := 104) rfl))) (by decide) (t := (.object "com/example/coverfold/coverfold/Rational")) (t' := .long) (by decide) (by decide)))
  have EE_22 := EE_20.keep KK22
  have Fstart_22 := Fstart_20.same W22
  have KA22 : Keep h0 h22 [a] := KA20.wr W22 (Or.inl (List.mem_of_getElem? (i := 0) rfl))
  have sg23 : own_V p e below T22 (mkF m 65 #[rv a, rv sid, rv sac, rv srg, rv szn, rv sty, rv spl, rv stn, own_lv t1, .second, own_lv t2, .second, .val .null] [(.long t2), (.ref a)]) (mkF m 62 #[rv a, rv sid, rv sac, rv srg, rv szn, rv sty, rv spl, rv stn, own_lv t1, .second, own_lv t2, .second, .val .null] []) := by
    intro t kt
    refine XS.aloadN X22.here hx rfl (hb hby own_d11_62) rfl rfl ?_
    show own_S p e below T22 m 63 #[rv a, rv sid, rv sac, rv srg, rv szn, rv sty, rv spl, rv stn, own_lv t1, .second, own_lv t2, .second, .val .null] [(.ref a)] _
    refine XS.lload X22.here hx rfl (hb hby own_d11_63) rfl ?_
    show own_S p e below T22 m 65 #[rv a, rv sid, rv sac, rv srg, rv szn, rv sty, rv spl, rv stn, own_lv t1, .second, own_lv t2, .second, .val .null] [(.long t2), (.ref a)] _
    exact kt
  refine own_st sg23 ?_
  obtain ⟨T24, h24, X24, e24, W24, st24⟩ := putF X22 hx hZ hown (host := "") (Or.inl (hw _ (List.mem_of_getElem? (i := 105) rfl))) Via.refl e22 Fend_22 EE_22 (Or.inr ⟨(hw _ (List.mem_of_getElem? (i := 106) rfl)), rfl, hnm⟩) (hw _ (List.mem_of_getElem? (i := 43) rfl)) (ty := .long) (by decide) rfl rfl (g := (mkF m 65 #[rv a, rv sid, rv sac, rv srg, rv szn, rv sty, rv spl, rv stn, own_lv t1, .second, own_lv t2, .second, .val .null] [(.long t2), (.ref a)])) rfl rfl (hb hby own_d11_65)
  refine own_st st24 ?_
  have Z24 : n0 ≤ h24.size := by rw [Wr.size W24]; exact Z22
  have N24 := Fr.snoc X24 N22 g_a
  show own_Go p e below _ T24 (mkF m 68 #[rv a, rv sid, rv sac, rv srg, rv szn, rv sty, rv spl, rv stn, own_lv t1, .second, own_lv t2, .second, .val .null] [])
  have KK24 := Keep.of_wr W24
  have FinstanceId_24 := FinstanceId_22.other W24 (Or.inr (slot_ne (Or.inr (hw _ (List.mem_of_getElem? (i := 90) rfl))) (Or.inr (hw _ (List.mem_of_getElem? (i := 106) rfl))) (by decide) (t := (.object "java/lang/String")) (t' := .long) (by decide) (by decide)))
  have Faccount_24 := Faccount_22.other W24 (Or.inr (slot_ne (Or.inr (hw _ (List.mem_of_getElem? (i := 92) rfl))) (Or.inr (hw _ (List.mem_of_getElem? (i := 106) rfl))) (by decide) (t := (.object "java/lang/String")) (t' := .long) (by decide) (by decide)))
  have Fregion_24 := Fregion_22.other W24 (Or.inr (slot_ne (Or.inr (hw _ (List.mem_of_getElem? (i := 94) rfl))) (Or.inr (hw _ (List.mem_of_getElem? (i := 106) rfl))) (by decide) (t := (.object "java/lang/String")) (t' := .long) (by decide) (by decide)))
  have Fzone_24 := Fzone_22.other W24 (Or.inr (slot_ne (Or.inr (hw _ (List.mem_of_getElem? (i := 96) rfl))) (Or.inr (hw _ (List.mem_of_getElem? (i := 106) rfl))) (by decide) (t := (.object "java/lang/String")) (t' := .long) (by decide) (by decide)))
  have FinstanceType_24 := FinstanceType_22.other W24 (Or.inr (slot_ne (Or.inr (hw _ (List.mem_of_getElem? (i := 98) rfl))) (Or.inr (hw _ (List.mem_of_getElem? (i := 106) rfl))) (by decide) (t := (.object "java/lang/String")) (t' := .long) (by decide) (by decide)))
  have Fplatform_24 := Fplatform_22.other W24 (Or.inr (slot_ne (Or.inr (hw _ (List.mem_of_getElem? (i := 100) rfl))) (Or.inr (hw _ (List.mem_of_getElem? (i := 106) rfl))) (by decide) (t := (.object "java/lang/String")) (t' := .long) (by decide) (by decide)))
  have Ftenancy_24 := Ftenancy_22.other W24 (Or.inr (slot_ne (Or.inr (hw _ (List.mem_of_getElem? (i := 102) rfl))) (Or.inr (hw _ (List.mem_of_getElem? (i := 106) rfl))) (by decide) (t := (.object "java/lang/String")) (t' := .long) (by decide) (by decide)))
  have Fstart_24 := Fstart_22.other W24 (Or.inr (slot_ne (Or.inr (hw _ (List.mem_of_getElem? (i := 104) rfl))) (Or.inr (hw _ (List.mem_of_getElem? (i := 106) rfl))) (by decide) (t := .long) (t' := .long) (by decide) (by decide)))
  have FpartSeconds_24 := FpartSeconds_22.other W24 (Or.inr (slot_ne (Or.inr (hw _ (List.mem_of_getElem? (i := 108) rfl))) (Or.inr (hw _ (List.mem_of_getElem? (i := 106) rfl))) (by decide) (t := (.object "com/example/coverfold/coverfold/Rational")) (t' := .long) (by decide) (by decide)))
  have EE_24 := EE_22.keep KK24
  have Fend_24 := Fend_22.same W24
  have KA24 : Keep h0 h24 [a] := KA22.wr W24 (Or.inl (List.mem_of_getElem? (i := 0) rfl))
  have sg25 : own_V p e below T24 (mkF m 71 #[rv a, rv sid, rv sac, rv srg, rv szn, rv sty, rv spl, rv stn, own_lv t1, .second, own_lv t2, .second, .val .null] [.null, (.ref a)]) (mkF m 68 #[rv a, rv sid, rv sac, rv srg, rv szn, rv sty, rv spl, rv stn, own_lv t1, .second, own_lv t2, .second, .val .null] []) := by
    intro t kt
    refine XS.aloadN X24.here hx rfl (hb hby own_d11_68) rfl rfl ?_
    show own_S p e below T24 m 69 #[rv a, rv sid, rv sac, rv srg, rv szn, rv sty, rv spl, rv stn, own_lv t1, .second, own_lv t2, .second, .val .null] [(.ref a)] _
    refine XS.aload X24.here hx rfl (hb hby own_d11_69) rfl rfl ?_
    show own_S p e below T24 m 71 #[rv a, rv sid, rv sac, rv srg, rv szn, rv sty, rv spl, rv stn, own_lv t1, .second, own_lv t2, .second, .val .null] [.null, (.ref a)] _
    exact kt
  refine own_st sg25 ?_
  obtain ⟨T26, h26, X26, e26, W26, st26⟩ := putF X24 hx hZ hown (host := "") (Or.inl (hw _ (List.mem_of_getElem? (i := 107) rfl))) Via.refl e24 FpartSeconds_24 EE_24 (Or.inr ⟨(hw _ (List.mem_of_getElem? (i := 108) rfl)), rfl, hnm⟩) (hw _ (List.mem_of_getElem? (i := 43) rfl)) (ty := (.object "com/example/coverfold/coverfold/Rational")) (by decide) rfl rfl (g := (mkF m 71 #[rv a, rv sid, rv sac, rv srg, rv szn, rv sty, rv spl, rv stn, own_lv t1, .second, own_lv t2, .second, .val .null] [.null, (.ref a)])) rfl rfl (hb hby own_d11_71)
  refine own_st st26 ?_
  have Z26 : n0 ≤ h26.size := by rw [Wr.size W26]; exact Z24
  have N26 := Fr.snoc X26 N24 g_a
  show own_Go p e below _ T26 (mkF m 74 #[rv a, rv sid, rv sac, rv srg, rv szn, rv sty, rv spl, rv stn, own_lv t1, .second, own_lv t2, .second, .val .null] [])
  have KK26 := Keep.of_wr W26
  have FinstanceId_26 := FinstanceId_24.other W26 (Or.inr (slot_ne (Or.inr (hw _ (List.mem_of_getElem? (i := 90) rfl))) (Or.inr (hw _ (List.mem_of_getElem? (i := 108) rfl))) (by decide) (t := (.object "java/lang/String")) (t' := (.object "com/example/coverfold/coverfold/Rational")) (by decide) (by decide)))
  have Faccount_26 := Faccount_24.other W26 (Or.inr (slot_ne (Or.inr (hw _ (List.mem_of_getElem? (i := 92) rfl))) (Or.inr (hw _ (List.mem_of_getElem? (i := 108) rfl))) (by decide) (t := (.object "java/lang/String")) (t' := (.object "com/example/coverfold/coverfold/Rational")) (by decide) (by decide)))
  have Fregion_26 := Fregion_24.other W26 (Or.inr (slot_ne (Or.inr (hw _ (List.mem_of_getElem? (i := 94) rfl))) (Or.inr (hw _ (List.mem_of_getElem? (i := 108) rfl))) (by decide) (t := (.object "java/lang/String")) (t' := (.object "com/example/coverfold/coverfold/Rational")) (by decide) (by decide)))
  have Fzone_26 := Fzone_24.other W26 (Or.inr (slot_ne (Or.inr (hw _ (List.mem_of_getElem? (i := 96) rfl))) (Or.inr (hw _ (List.mem_of_getElem? (i := 108) rfl))) (by decide) (t := (.object "java/lang/String")) (t' := (.object "com/example/coverfold/coverfold/Rational")) (by decide) (by decide)))
  have FinstanceType_26 := FinstanceType_24.other W26 (Or.inr (slot_ne (Or.inr (hw _ (List.mem_of_getElem? (i := 98) rfl))) (Or.inr (hw _ (List.mem_of_getElem? (i := 108) rfl))) (by decide) (t := (.object "java/lang/String")) (t' := (.object "com/example/coverfold/coverfold/Rational")) (by decide) (by decide)))
  have Fplatform_26 := Fplatform_24.other W26 (Or.inr (slot_ne (Or.inr (hw _ (List.mem_of_getElem? (i := 100) rfl))) (Or.inr (hw _ (List.mem_of_getElem? (i := 108) rfl))) (by decide) (t := (.object "java/lang/String")) (t' := (.object "com/example/coverfold/coverfold/Rational")) (by decide) (by decide)))
  have Ftenancy_26 := Ftenancy_24.other W26 (Or.inr (slot_ne (Or.inr (hw _ (List.mem_of_getElem? (i := 102) rfl))) (Or.inr (hw _ (List.mem_of_getElem? (i := 108) rfl))) (by decide) (t := (.object "java/lang/String")) (t' := (.object "com/example/coverfold/coverfold/Rational")) (by decide) (by decide)))
  have Fstart_26 := Fstart_24.other W26 (Or.inr (slot_ne (Or.inr (hw _ (List.mem_of_getElem? (i := 104) rfl))) (Or.inr (hw _ (List.mem_of_getElem? (i := 108) rfl))) (by decide) (t := .long) (t' := (.object "com/example/coverfold/coverfold/Rational")) (by decide) (by decide)))
  have Fend_26 := Fend_24.other W26 (Or.inr (slot_ne (Or.inr (hw _ (List.mem_of_getElem? (i := 106) rfl))) (Or.inr (hw _ (List.mem_of_getElem? (i := 108) rfl))) (by decide) (t := .long) (t' := (.object "com/example/coverfold/coverfold/Rational")) (by decide) (by decide)))
  have EE_26 := EE_24.keep KK26
  have FpartSeconds_26 := FpartSeconds_24.same W26
  have KA26 : Keep h0 h26 [a] := KA24.wr W26 (Or.inl (List.mem_of_getElem? (i := 0) rfl))
  exact own_retV X26 hx Bd.notSynchronized Bd.returns (hb hby own_d11_74) (by decide) (by decide) e26 ⟨rfl, N26, KA26, EE_26, Faccount_26, Fregion_26, Fzone_26, FinstanceType_26, Fplatform_26, Ftenancy_26⟩
theorem own_d10_0 : decode prog_99_method_1_code 0 = .ok (.aload_n 0, 1) := by decide +kernel
theorem own_d10_1 : decode prog_99_method_1_code 1 = .ok (.aload_n 1, 1) := by decide +kernel
theorem own_d10_2 : decode prog_99_method_1_code 2 = .ok (.aload_n 2, 1) := by decide +kernel
theorem own_d10_3 : decode prog_99_method_1_code 3 = .ok (.aload_n 3, 1) := by decide +kernel
theorem own_d10_4 : decode prog_99_method_1_code 4 = .ok (.aload 4, 2) := by decide +kernel
theorem own_d10_6 : decode prog_99_method_1_code 6 = .ok (.aload 5, 2) := by decide +kernel
theorem own_d10_8 : decode prog_99_method_1_code 8 = .ok (.aload 6, 2) := by decide +kernel
theorem own_d10_10 : decode prog_99_method_1_code 10 = .ok (.aload 7, 2) := by decide +kernel
theorem own_d10_12 : decode prog_99_method_1_code 12 = .ok (.lload 8, 2) := by decide +kernel
theorem own_d10_14 : decode prog_99_method_1_code 14 = .ok (.lload 10, 2) := by decide +kernel
theorem own_d10_16 : decode prog_99_method_1_code 16 = .ok (.aconst_null, 1) := by decide +kernel
theorem own_d10_17 : decode prog_99_method_1_code 17 = .ok (.invokespecial 1, 3) := by decide +kernel
theorem own_d10_20 : decode prog_99_method_1_code 20 = .ok (.return_, 1) := by decide +kernel
theorem own_pd13 : parseMethodDescriptor "(Ljava/lang/String;Ljava/lang/String;Ljava/lang/String;Ljava/lang/String;Ljava/lang/String;Ljava/lang/String;Ljava/lang/String;JJLcom/example/coverfold/coverfold/Rational;)V" = some ⟨[(.object "java/lang/String"), (.object "java/lang/String"), (.object "java/lang/String"), (.object "java/lang/String"), (.object "java/lang/String"), (.object "java/lang/String"), (.object "java/lang/String"), .long, .long, (.object "com/example/coverfold/coverfold/Rational")], none⟩ := by decide +kernel
theorem own_efus9_0 (m : MethodId) (a : Nat) (sid : Nat) (sac : Nat) (srg : Nat) (szn : Nat) (sty : Nat) (spl : Nat) (stn : Nat) (t1 : Int64) (t2 : Int64) : entryFrame m #[(.ref a), (.ref sid), (.ref sac), (.ref srg), (.ref szn), (.ref sty), (.ref spl), (.ref stn), (.long t1), (.long t2)] 12 = mkF m 0 #[rv a, rv sid, rv sac, rv srg, rv szn, rv sty, rv spl, rv stn, own_lv t1, .second, own_lv t2, .second] [] := by first | (simp [entryFrame, mkF, argsToLocals, Value.category]; done) | rfl
set_option maxRecDepth 65536 in
set_option maxHeartbeats 40000000 in
theorem own_rmus9_0 (l : Launch) (Z : State) (a0 : Array Value) (hw : ∀ d ∈ tables_1, d.before a0 Z = true) (a : Nat) (sid : Nat) (sac : Nat) (srg : Nat) (szn : Nat) (sty : Nat) (spl : Nat) (stn : Nat) (t1 : Int64) (t2 : Int64) (b : Nat) (f : Nat → Int32) (h0 : Heap) (n0 : Nat) (Z0 : n0 ≤ h0.size) (SS : own_Str Z h0 szn b 0 f) (EE : Exa Z h0 a "com/example/coverfold/coverfold/Usage") (FinstanceId : Fld Z h0 a "com/example/coverfold/coverfold/Usage" "instanceId" "Ljava/lang/String;" .null) (Faccount : Fld Z h0 a "com/example/coverfold/coverfold/Usage" "account" "Ljava/lang/String;" .null) (Fregion : Fld Z h0 a "com/example/coverfold/coverfold/Usage" "region" "Ljava/lang/String;" .null) (Fzone : Fld Z h0 a "com/example/coverfold/coverfold/Usage" "zone" "Ljava/lang/String;" .null) (FinstanceType : Fld Z h0 a "com/example/coverfold/coverfold/Usage" "instanceType" "Ljava/lang/String;" .null) (Fplatform : Fld Z h0 a "com/example/coverfold/coverfold/Usage" "platform" "Ljava/lang/String;" .null) (Ftenancy : Fld Z h0 a "com/example/coverfold/coverfold/Usage" "tenancy" "Ljava/lang/String;" .null) (Fstart : Fld Z h0 a "com/example/coverfold/coverfold/Usage" "start" "J" (.long (0 : Int64))) (Fend : Fld Z h0 a "com/example/coverfold/coverfold/Usage" "end" "J" (.long (0 : Int64))) (FpartSeconds : Fld Z h0 a "com/example/coverfold/coverfold/Usage" "partSeconds" "Lcom/example/coverfold/coverfold/Rational;" .null) (g_a : n0 ≤ a) (ht : t1 < t2) :
    own_Ct l Z (⟨"com/example/coverfold/coverfold/Usage", "<init>", "(Ljava/lang/String;Ljava/lang/String;Ljava/lang/String;Ljava/lang/String;Ljava/lang/String;Ljava/lang/String;Ljava/lang/String;JJ)V"⟩ : MethodName) prog_99_method_1_code 12 none ({ frames := 3, cells := 0, slots := 0, locals := 49 } : Room) #[(.ref a), (.ref sid), (.ref sac), (.ref srg), (.ref szn), (.ref sty), (.ref spl), (.ref stn), (.long t1), (.long t2)] h0 (fun v h L => v = none ∧ Fr n0 L ∧ Keep h0 h [a] ∧ own_Us Z h a sac srg szn sty spl stn) := by
  refine own_body (y := (⟨"com/example/coverfold/coverfold/Usage", "<init>", "(Ljava/lang/String;Ljava/lang/String;Ljava/lang/String;Ljava/lang/String;Ljava/lang/String;Ljava/lang/String;Ljava/lang/String;JJ)V"⟩ : MethodName)) (Q := fun v h L => v = none ∧ Fr n0 L ∧ Keep h0 h [a] ∧ own_Us Z h a sac srg szn sty spl stn) (plainFor_of_name own_pn6) ?_
  intro p e s m below meth c s₁ Bd hml0 hZ e0
  have hx := Bd.exec
  have hby := Bd.bytes
  have hml : c.maxLocals = 12 := hml0
  have hown : s.vm.findClass "com/example/coverfold/coverfold/Usage" = some m.cls := findClass_of_methodNamed Bd.named
  have hnm := (name_of_methodNamed Bd.named Bd.method).1
  have X0 : Stand p l e ({ frames := 3, cells := 0, slots := 0, locals := 49 } : Room) s m #[(.ref a), (.ref sid), (.ref sac), (.ref srg), (.ref szn), (.ref sty), (.ref spl), (.ref stn), (.long t1), (.long t2)] below meth c s₁ [] 0 0 := Stand.of_body Bd
  have N0 := Fr.nil n0
  rw [own_efus9_0]
  have sg1 : own_V p e below s₁ (mkF m 17 #[rv a, rv sid, rv sac, rv srg, rv szn, rv sty, rv spl, rv stn, own_lv t1, .second, own_lv t2, .second] [.null, (.long t2), (.long t1), (.ref stn), (.ref spl), (.ref sty), (.ref szn), (.ref srg), (.ref sac), (.ref sid), (.ref a)]) (mkF m 0 #[rv a, rv sid, rv sac, rv srg, rv szn, rv sty, rv spl, rv stn, own_lv t1, .second, own_lv t2, .second] []) := by
    intro t kt
    refine XS.aloadN X0.here hx rfl (hb hby own_d10_0) rfl rfl ?_
    show own_S p e below s₁ m 1 #[rv a, rv sid, rv sac, rv srg, rv szn, rv sty, rv spl, rv stn, own_lv t1, .second, own_lv t2, .second] [(.ref a)] _
    refine XS.aloadN X0.here hx rfl (hb hby own_d10_1) rfl rfl ?_
    show own_S p e below s₁ m 2 #[rv a, rv sid, rv sac, rv srg, rv szn, rv sty, rv spl, rv stn, own_lv t1, .second, own_lv t2, .second] [(.ref sid), (.ref a)] _
    refine XS.aloadN X0.here hx rfl (hb hby own_d10_2) rfl rfl ?_
    show own_S p e below s₁ m 3 #[rv a, rv sid, rv sac, rv srg, rv szn, rv sty, rv spl, rv stn, own_lv t1, .second, own_lv t2, .second] [(.ref sac), (.ref sid), (.ref a)] _
    refine XS.aloadN X0.here hx rfl (hb hby own_d10_3) rfl rfl ?_
    show own_S p e below s₁ m 4 #[rv a, rv sid, rv sac, rv srg, rv szn, rv sty, rv spl, rv stn, own_lv t1, .second, own_lv t2, .second] [(.ref srg), (.ref sac), (.ref sid), (.ref a)] _
    refine XS.aload X0.here hx rfl (hb hby own_d10_4) rfl rfl ?_
    show own_S p e below s₁ m 6 #[rv a, rv sid, rv sac, rv srg, rv szn, rv sty, rv spl, rv stn, own_lv t1, .second, own_lv t2, .second] [(.ref szn), (.ref srg), (.ref sac), (.ref sid), (.ref a)] _
    refine XS.aload X0.here hx rfl (hb hby own_d10_6) rfl rfl ?_
    show own_S p e below s₁ m 8 #[rv a, rv sid, rv sac, rv srg, rv szn, rv sty, rv spl, rv stn, own_lv t1, .second, own_lv t2, .second] [(.ref sty), (.ref szn), (.ref srg), (.ref sac), (.ref sid), (.ref a)] _
    refine XS.aload X0.here hx rfl (hb hby own_d10_8) rfl rfl ?_
    show own_S p e below s₁ m 10 #[rv a, rv sid, rv sac, rv srg, rv szn, rv sty, rv spl, rv stn, own_lv t1, .second, own_lv t2, .second] [(.ref spl), (.ref sty), (.ref szn), (.ref srg), (.ref sac), (.ref sid), (.ref a)] _
    refine XS.aload X0.here hx rfl (hb hby own_d10_10) rfl rfl ?_
    show own_S p e below s₁ m 12 #[rv a, rv sid, rv sac, rv srg, rv szn, rv sty, rv spl, rv stn, own_lv t1, .second, own_lv t2, .second] [(.ref stn), (.ref spl), (.ref sty), (.ref szn), (.ref srg), (.ref sac), (.ref sid), (.ref a)] _
    refine XS.lload X0.here hx rfl (hb hby own_d10_12) rfl ?_
    show own_S p e below s₁ m 14 #[rv a, rv sid, rv sac, rv srg, rv szn, rv sty, rv spl, rv stn, own_lv t1, .second, own_lv t2, .second] [(.long t1), (.ref stn), (.ref spl), (.ref sty), (.ref szn), (.ref srg), (.ref sac), (.ref sid), (.ref a)] _
    refine XS.lload X0.here hx rfl (hb hby own_d10_14) rfl ?_
    show own_S p e below s₁ m 16 #[rv a, rv sid, rv sac, rv srg, rv szn, rv sty, rv spl, rv stn, own_lv t1, .second, own_lv t2, .second] [(.long t2), (.long t1), (.ref stn), (.ref spl), (.ref sty), (.ref szn), (.ref srg), (.ref sac), (.ref sid), (.ref a)] _
    refine XS.aconstNull X0.here hx rfl (hb hby own_d10_16) ?_
    show own_S p e below s₁ m 17 #[rv a, rv sid, rv sac, rv srg, rv szn, rv sty, rv spl, rv stn, own_lv t1, .second, own_lv t2, .second] [.null, (.long t2), (.long t1), (.ref stn), (.ref spl), (.ref sty), (.ref szn), (.ref srg), (.ref sac), (.ref sid), (.ref a)] _
    exact kt
  refine own_st sg1 ?_
  obtain ⟨_, T2, L2, X2, hQ2, st2⟩ := own_callI (y := (⟨"com/example/coverfold/coverfold/Usage", "<init>", "(Ljava/lang/String;Ljava/lang/String;Ljava/lang/String;Ljava/lang/String;Ljava/lang/String;Ljava/lang/String;Ljava/lang/String;JJLcom/example/coverfold/coverfold/Rational;)V"⟩ : MethodName)) (a := a) X0 hx hZ hown rfl (hw _ (List.mem_of_getElem? (i := 48) rfl)) (hw _ (List.mem_of_getElem? (i := 49) rfl)) (hw _ (List.mem_of_getElem? (i := 44) rfl)) (hw _ (List.mem_of_getElem? (i := 50) rfl)) (by decide) (own_rmus10_0 l Z a0 hw a sid sac srg szn sty spl stn t1 t2 b f h0 n0 Z0 SS EE FinstanceId Faccount Fregion Fzone FinstanceType Fplatform Ftenancy Fstart Fend FpartSeconds g_a ht) e0 (g := (mkF m 17 #[rv a, rv sid, rv sac, rv srg, rv szn, rv sty, rv spl, rv stn, own_lv t1, .second, own_lv t2, .second] [.null, (.long t2), (.long t1), (.ref stn), (.ref spl), (.ref sty), (.ref szn), (.ref srg), (.ref sac), (.ref sid), (.ref a)])) rfl (by rw [hml]; rfl) (argsL := [(.ref sid), (.ref sac), (.ref srg), (.ref szn), (.ref sty), (.ref spl), (.ref stn), (.long t1), (.long t2), .null]) (rest := []) (lenOf own_pd13 rfl) rfl (W := 0) (by show 2 * 0 + _ ≤ _; exact Nat.le_of_eq rfl) (hb hby own_d10_17) (by decide) (by decide) (by decide) (by decide)
  obtain ⟨rfl, Nq2, R2⟩ := hQ2
  refine own_st st2 ?_
  have Z2 : n0 ≤ T2.heap.size := Nat.le_trans Z0 R2.1.1
  have N2 := Fr.app N0 Nq2
  show own_Go p e below _ T2 (mkF m 20 #[rv a, rv sid, rv sac, rv srg, rv szn, rv sty, rv spl, rv stn, own_lv t1, .second, own_lv t2, .second] [])
  exact own_retV X2 hx Bd.notSynchronized Bd.returns (hb hby own_d10_20) (by decide) (by decide) rfl ⟨rfl, N2, R2⟩
theorem own_efus10_1 (m : MethodId) (a : Nat) (sid : Nat) (sac : Nat) (srg : Nat) (szn : Nat) (sty : Nat) (spl : Nat) (stn : Nat) (t1 : Int64) (t2 : Int64) : entryFrame m #[(.ref a), (.ref sid), (.ref sac), (.ref srg), (.ref szn), (.ref sty), (.ref spl), (.ref stn), (.long t1), (.long t2), .null] 13 = mkF m 0 #[rv a, rv sid, rv sac, rv srg, rv szn, rv sty, rv spl, rv stn, own_lv t1, .second, own_lv t2, .second, .val .null] [] := by first | (simp [entryFrame, mkF, argsToLocals, Value.category]; done) | rfl
set_option maxRecDepth 65536 in
set_option maxHeartbeats 40000000 in
theorem own_rmus10_1 (l : Launch) (Z : State) (a0 : Array Value) (hw : ∀ d ∈ tables_1, d.before a0 Z = true) (a : Nat) (sid : Nat) (sac : Nat) (srg : Nat) (szn : Nat) (sty : Nat) (spl : Nat) (stn : Nat) (t1 : Int64) (t2 : Int64) (b rb : Nat) (cc : Int32) (f g2 : Nat → Int32) (h0 : Heap) (n0 : Nat) (Z0 : n0 ≤ h0.size) (SS : own_Str Z h0 szn b 1 f) (SR : own_Str Z h0 srg rb 1 g2) (hfg : f 0 = g2 0) (SC : Sta Z h0 "java/lang/String" "COMPACT_STRINGS" "Z" (.int cc)) (hcc : ¬ cc = 0) (EE : Exa Z h0 a "com/example/coverfold/coverfold/Usage") (FinstanceId : Fld Z h0 a "com/example/coverfold/coverfold/Usage" "instanceId" "Ljava/lang/String;" .null) (Faccount : Fld Z h0 a "com/example/coverfold/coverfold/Usage" "account" "Ljava/lang/String;" .null) (Fregion : Fld Z h0 a "com/example/coverfold/coverfold/Usage" "region" "Ljava/lang/String;" .null) (Fzone : Fld Z h0 a "com/example/coverfold/coverfold/Usage" "zone" "Ljava/lang/String;" .null) (FinstanceType : Fld Z h0 a "com/example/coverfold/coverfold/Usage" "instanceType" "Ljava/lang/String;" .null) (Fplatform : Fld Z h0 a "com/example/coverfold/coverfold/Usage" "platform" "Ljava/lang/String;" .null) (Ftenancy : Fld Z h0 a "com/example/coverfold/coverfold/Usage" "tenancy" "Ljava/lang/String;" .null) (Fstart : Fld Z h0 a "com/example/coverfold/coverfold/Usage" "start" "J" (.long (0 : Int64))) (Fend : Fld Z h0 a "com/example/coverfold/coverfold/Usage" "end" "J" (.long (0 : Int64))) (FpartSeconds : Fld Z h0 a "com/example/coverfold/coverfold/Usage" "partSeconds" "Lcom/example/coverfold/coverfold/Rational;" .null) (g_a : n0 ≤ a) (ht : t1 < t2) :
    own_Ct l Z (⟨"com/example/coverfold/coverfold/Usage", "<init>", "(Ljava/lang/String;Ljava/lang/String;Ljava/lang/String;Ljava/lang/String;Ljava/lang/String;Ljava/lang/String;Ljava/lang/String;JJLcom/example/coverfold/coverfold/Rational;)V"⟩ : MethodName) prog_99_method_2_code 13 none ({ frames := 5, cells := 0, slots := 0, locals := 72 } : Room) #[(.ref a), (.ref sid), (.ref sac), (.ref srg), (.ref szn), (.ref sty), (.ref spl), (.ref stn), (.long t1), (.long t2), .null] h0 (fun v h L => v = none ∧ Fr n0 L ∧ Keep h0 h [a] ∧ own_Us Z h a sac srg szn sty spl stn) := by
  refine own_body (y := (⟨"com/example/coverfold/coverfold/Usage", "<init>", "(Ljava/lang/String;Ljava/lang/String;Ljava/lang/String;Ljava/lang/String;Ljava/lang/String;Ljava/lang/String;Ljava/lang/String;JJLcom/example/coverfold/coverfold/Rational;)V"⟩ : MethodName)) (Q := fun v h L => v = none ∧ Fr n0 L ∧ Keep h0 h [a] ∧ own_Us Z h a sac srg szn sty spl stn) (plainFor_of_name own_pn6) ?_
  intro p e s m below meth c s₁ Bd hml0 hZ e0
  have hx := Bd.exec
  have hby := Bd.bytes
  have hml : c.maxLocals = 13 := hml0
  have hown : s.vm.findClass "com/example/coverfold/coverfold/Usage" = some m.cls := findClass_of_methodNamed Bd.named
  have hnm := (name_of_methodNamed Bd.named Bd.method).1
  have X0 : Stand p l e ({ frames := 5, cells := 0, slots := 0, locals := 72 } : Room) s m #[(.ref a), (.ref sid), (.ref sac), (.ref srg), (.ref szn), (.ref sty), (.ref spl), (.ref stn), (.long t1), (.long t2), .null] below meth c s₁ [] 0 0 := Stand.of_body Bd
  have N0 := Fr.nil n0
  rw [own_efus10_1]
  have sg1 : own_V p e below s₁ (mkF m 1 #[rv a, rv sid, rv sac, rv srg, rv szn, rv sty, rv spl, rv stn, own_lv t1, .second, own_lv t2, .second, .val .null] [(.ref a)]) (mkF m 0 #[rv a, rv sid, rv sac, rv srg, rv szn, rv sty, rv spl, rv stn, own_lv t1, .second, own_lv t2, .second, .val .null] []) := by
    intro t kt
    refine XS.aloadN X0.here hx rfl (hb hby own_d11_0) rfl rfl ?_
    show own_S p e below s₁ m 1 #[rv a, rv sid, rv sac, rv srg, rv szn, rv sty, rv spl, rv stn, own_lv t1, .second, own_lv t2, .second, .val .null] [(.ref a)] _
    exact kt
  refine own_st sg1 ?_
  obtain ⟨T2, X2, e2, st2⟩ := initO X0 hx hZ hown (hw _ (List.mem_of_getElem? (i := 51) rfl)) (hw _ (List.mem_of_getElem? (i := 16) rfl)) (hw _ (List.mem_of_getElem? (i := 17) rfl)) e0 (g := (mkF m 1 #[rv a, rv sid, rv sac, rv srg, rv szn, rv sty, rv spl, rv stn, own_lv t1, .second, own_lv t2, .second, .val .null] [(.ref a)])) rfl (by rw [hml]; rfl) rfl (hb hby own_d11_1) (by decide) (W := 0) (by show 2 * 0 + _ ≤ _; exact Nat.le_of_eq rfl) (by decide)
  refine own_st st2 ?_
  show own_Go p e below _ T2 (mkF m 4 #[rv a, rv sid, rv sac, rv srg, rv szn, rv sty, rv spl, rv stn, own_lv t1, .second, own_lv t2, .second, .val .null] [])
  have sg3 : own_V p e below T2 (mkF m 7 #[rv a, rv sid, rv sac, rv srg, rv szn, rv sty, rv spl, rv stn, own_lv t1, .second, own_lv t2, .second, .val .null] [(.ref srg), (.ref szn)]) (mkF m 4 #[rv a, rv sid, rv sac, rv srg, rv szn, rv sty, rv spl, rv stn, own_lv t1, .second, own_lv t2, .second, .val .null] []) := by
    intro t kt
    refine XS.aload X2.here hx rfl (hb hby own_d11_4) rfl rfl ?_
    show own_S p e below T2 m 6 #[rv a, rv sid, rv sac, rv srg, rv szn, rv sty, rv spl, rv stn, own_lv t1, .second, own_lv t2, .second, .val .null] [(.ref szn)] _
    refine XS.aloadN X2.here hx rfl (hb hby own_d11_6) rfl rfl ?_
    show own_S p e below T2 m 7 #[rv a, rv sid, rv sac, rv srg, rv szn, rv sty, rv spl, rv stn, own_lv t1, .second, own_lv t2, .second, .val .null] [(.ref srg), (.ref szn)] _
    exact kt
  refine own_st sg3 ?_
  obtain ⟨_, T4, L4, X4, hQ4, st4⟩ := own_callS (y := (⟨"com/example/coverfold/coverfold/Zones", "checkInRegion", "(Ljava/lang/String;Ljava/lang/String;)V"⟩ : MethodName)) X2 hx hZ hown (hw _ (List.mem_of_getElem? (i := 52) rfl)) (hw _ (List.mem_of_getElem? (i := 53) rfl)) (hw _ (List.mem_of_getElem? (i := 54) rfl)) (hw _ (List.mem_of_getElem? (i := 55) rfl)) (by decide) (own_rmcr1 l Z a0 hw szn srg b rb cc f g2 h0 n0 Z0 SS SR hfg SC hcc) e2 (g := (mkF m 7 #[rv a, rv sid, rv sac, rv srg, rv szn, rv sty, rv spl, rv stn, own_lv t1, .second, own_lv t2, .second, .val .null] [(.ref srg), (.ref szn)])) rfl (by rw [hml]; rfl) (argsL := [(.ref szn), (.ref srg)]) (rest := []) (lenOf own_pd11 rfl) rfl (W := 0) (by show 2 * 0 + _ ≤ _; exact Nat.le_of_eq rfl) (hb hby own_d11_7) (by decide) (by decide) (by decide) (by decide)
  obtain ⟨rfl, Nq4, e4⟩ := hQ4
  refine own_st st4 ?_
  have N4 := Fr.app N0 Nq4
  show own_Go p e below _ T4 (mkF m 10 #[rv a, rv sid, rv sac, rv srg, rv szn, rv sty, rv spl, rv stn, own_lv t1, .second, own_lv t2, .second, .val .null] [])
  have sg5 : own_V p e below T4 (mkF m 14 #[rv a, rv sid, rv sac, rv srg, rv szn, rv sty, rv spl, rv stn, own_lv t1, .second, own_lv t2, .second, .val .null] [(.long t2), (.long t1)]) (mkF m 10 #[rv a, rv sid, rv sac, rv srg, rv szn, rv sty, rv spl, rv stn, own_lv t1, .second, own_lv t2, .second, .val .null] []) := by
    intro t kt
    refine XS.lload X4.here hx rfl (hb hby own_d11_10) rfl ?_
    show own_S p e below T4 m 12 #[rv a, rv sid, rv sac, rv srg, rv szn, rv sty, rv spl, rv stn, own_lv t1, .second, own_lv t2, .second, .val .null] [(.long t1)] _
    refine XS.lload X4.here hx rfl (hb hby own_d11_12) rfl ?_
    show own_S p e below T4 m 14 #[rv a, rv sid, rv sac, rv srg, rv szn, rv sty, rv spl, rv stn, own_lv t1, .second, own_lv t2, .second, .val .null] [(.long t2), (.long t1)] _
    exact kt
  refine own_st sg5 ?_
  obtain ⟨_, T6, L6, X6, hQ6, st6⟩ := own_callS (y := (⟨"com/example/coverfold/coverfold/Timestamps", "checkInterval", "(JJ)V"⟩ : MethodName)) X4 hx hZ hown (hw _ (List.mem_of_getElem? (i := 85) rfl)) (hw _ (List.mem_of_getElem? (i := 86) rfl)) (hw _ (List.mem_of_getElem? (i := 87) rfl)) (hw _ (List.mem_of_getElem? (i := 88) rfl)) (by decide) (own_rmci l Z a0 hw t1 t2 h0 n0 Z0 ht) e4 (g := (mkF m 14 #[rv a, rv sid, rv sac, rv srg, rv szn, rv sty, rv spl, rv stn, own_lv t1, .second, own_lv t2, .second, .val .null] [(.long t2), (.long t1)])) rfl (by rw [hml]; rfl) (argsL := [(.long t1), (.long t2)]) (rest := []) (lenOf own_pd12 rfl) rfl (W := 0) (by show 2 * 0 + _ ≤ _; exact Nat.le_of_eq rfl) (hb hby own_d11_14) (by decide) (by decide) (by decide) (by decide)
  obtain ⟨rfl, Nq6, e6⟩ := hQ6
  refine own_st st6 ?_
  have N6 := Fr.app N4 Nq6
  show own_Go p e below _ T6 (mkF m 17 #[rv a, rv sid, rv sac, rv srg, rv szn, rv sty, rv spl, rv stn, own_lv t1, .second, own_lv t2, .second, .val .null] [])
  have sg7 : own_V p e below T6 (mkF m 19 #[rv a, rv sid, rv sac, rv srg, rv szn, rv sty, rv spl, rv stn, own_lv t1, .second, own_lv t2, .second, .val .null] [(.ref sid), (.ref a)]) (mkF m 17 #[rv a, rv sid, rv sac, rv srg, rv szn, rv sty, rv spl, rv stn, own_lv t1, .second, own_lv t2, .second, .val .null] []) := by
    intro t kt
    refine XS.aloadN X6.here hx rfl (hb hby own_d11_17) rfl rfl ?_
    show own_S p e below T6 m 18 #[rv a, rv sid, rv sac, rv srg, rv szn, rv sty, rv spl, rv stn, own_lv t1, .second, own_lv t2, .second, .val .null] [(.ref a)] _
    refine XS.aloadN X6.here hx rfl (hb hby own_d11_18) rfl rfl ?_
    show own_S p e below T6 m 19 #[rv a, rv sid, rv sac, rv srg, rv szn, rv sty, rv spl, rv stn, own_lv t1, .second, own_lv t2, .second, .val .null] [(.ref sid), (.ref a)] _
    exact kt
  refine own_st sg7 ?_
  obtain ⟨T8, h8, X8, e8, W8, st8⟩ := putF X6 hx hZ hown (host := "") (Or.inl (hw _ (List.mem_of_getElem? (i := 89) rfl))) Via.refl e6 FinstanceId EE (Or.inr ⟨(hw _ (List.mem_of_getElem? (i := 90) rfl)), rfl, hnm⟩) (hw _ (List.mem_of_getElem? (i := 43) rfl)) (ty := (.object "java/lang/String")) (by decide) rfl rfl (g := (mkF m 19 #[rv a, rv sid, rv sac, rv srg, rv szn, rv sty, rv spl, rv stn, own_lv t1, .second, own_lv t2, .second, .val .null] [(.ref sid), (.ref a)])) rfl rfl (hb hby own_d11_19)
  refine own_st st8 ?_
  have Z8 : n0 ≤ h8.size := by rw [Wr.size W8]; exact Z0
  have N8 := Fr.snoc X8 N6 g_a
  show own_Go p e below _ T8 (mkF m 22 #[rv a, rv sid, rv sac, rv srg, rv szn, rv sty, rv spl, rv stn, own_lv t1, .second, own_lv t2, .second, .val .null] [])
  have KK8 := Keep.of_wr W8
  have Faccount_8 := Faccount.other W8 (Or.inr (slot_ne (Or.inr (hw _ (List.mem_of_getElem? (i := 92) rfl))) (Or.inr (hw _ (List.mem_of_getElem? (i := 90) rfl))) (by decide) (t := (.object "java/lang/String")) (t' := (.object "java/lang/String")) (by decide) (by decide)))
  have Fregion_8 := Fregion.other W8 (Or.inr (slot_ne (Or.inr (hw _ (List.mem_of_getElem? (i := 94) rfl))) (Or.inr (hw _ (List.mem_of_getElem? (i := 90) rfl))) (by decide) (t := (.object "java/lang/String")) (t' := (.object "java/lang/String")) (by decide) (by decide)))
  have Fzone_8 := Fzone.other W8 (Or.inr (slot_ne (Or.inr (hw _ (List.mem_of_getElem? (i := 96) rfl))) (Or.inr (hw _ (List.mem_of_getElem? (i := 90) rfl))) (by decide) (t := (.object "java/lang/String")) (t' := (.object "java/lang/String")) (by decide) (by decide)))
  have FinstanceType_8 := FinstanceType.other W8 (Or.inr (slot_ne (Or.inr (hw _ (List.mem_of_getElem? (i := 98) rfl))) (Or.inr (hw _ (List.mem_of_getElem? (i := 90) rfl))) (by decide) (t := (.object "java/lang/String")) (t' := (.object "java/lang/String")) (by decide) (by decide)))
  have Fplatform_8 := Fplatform.other W8 (Or.inr (slot_ne (Or.inr (hw _ (List.mem_of_getElem? (i := 100) rfl))) (Or.inr (hw _ (List.mem_of_getElem? (i := 90) rfl))) (by decide) (t := (.object "java/lang/String")) (t' := (.object "java/lang/String")) (by decide) (by decide)))
  have Ftenancy_8 := Ftenancy.other W8 (Or.inr (slot_ne (Or.inr (hw _ (List.mem_of_getElem? (i := 102) rfl))) (Or.inr (hw _ (List.mem_of_getElem? (i := 90) rfl))) (by decide) (t := (.object "java/lang/String")) (t' := (.object "java/lang/String")) (by decide) (by decide)))
  have Fstart_8 := Fstart.other W8 (Or.inr (slot_ne (Or.inr (hw _ (List.mem_of_getElem? (i := 104) rfl))) (Or.inr (hw _ (List.mem_of_getElem? (i := 90) rfl))) (by decide) (t := .long) (t' := (.object "java/lang/String")) (by decide) (by decide)))
  have Fend_8 := Fend.other W8 (Or.inr (slot_ne (Or.inr (hw _ (List.mem_of_getElem? (i := 106) rfl))) (Or.inr (hw _ (List.mem_of_getElem? (i := 90) rfl))) (by decide) (t := .long) (t' := (.object "java/lang/String")) (by decide) (by decide)))
  have FpartSeconds_8 := FpartSeconds.other W8 (Or.inr (slot_ne (Or.inr (hw _ (List.mem_of_getElem? (i := 108) rfl))) (Or.inr (hw _ (List.mem_of_getElem? (i := 90) rfl))) (by decide) (t := (.object "com/example/coverfold/coverfold/Rational")) (t' := (.object "java/lang/String")) (by decide) (by decide)))
  have EE_8 := EE.keep KK8
  have FinstanceId_8 := FinstanceId.same W8
  have KA8 : Keep h0 h8 [a] := (Keep.refl h0 [a]).wr W8 (Or.inl (List.mem_of_getElem? (i := 0) rfl))
  have sg9 : own_V p e below T8 (mkF m 24 #[rv a, rv sid, rv sac, rv srg, rv szn, rv sty, rv spl, rv stn, own_lv t1, .second, own_lv t2, .second, .val .null] [(.ref sac), (.ref a)]) (mkF m 22 #[rv a, rv sid, rv sac, rv srg, rv szn, rv sty, rv spl, rv stn, own_lv t1, .second, own_lv t2, .second, .val .null] []) := by
    intro t kt
    refine XS.aloadN X8.here hx rfl (hb hby own_d11_22) rfl rfl ?_
    show own_S p e below T8 m 23 #[rv a, rv sid, rv sac, rv srg, rv szn, rv sty, rv spl, rv stn, own_lv t1, .second, own_lv t2, .second, .val .null] [(.ref a)] _
    refine XS.aloadN X8.here hx rfl (hb hby own_d11_23) rfl rfl ?_
    show own_S p e below T8 m 24 #[rv a, rv sid, rv sac, rv srg, rv szn, rv sty, rv spl, rv stn, own_lv t1, .second, own_lv t2, .second, .val .null] [(.ref sac), (.ref a)] _
    exact kt
  refine own_st sg9 ?_
  obtain ⟨T10, h10, X10, e10, W10, st10⟩ := putF X8 hx hZ hown (host := "") (Or.inl (hw _ (List.mem_of_getElem? (i := 91) rfl))) Via.refl e8 Faccount_8 EE_8 (Or.inr ⟨(hw _ (List.mem_of_getElem? (i := 92) rfl)), rfl, hnm⟩) (hw _ (List.mem_of_getElem? (i := 43) rfl)) (ty := (.object "java/lang/String")) (by decide) rfl rfl (g := (mkF m 24 #[rv a, rv sid, rv sac, rv srg, rv szn, rv sty, rv spl, rv stn, own_lv t1, .second, own_lv t2, .second, .val .null] [(.ref sac), (.ref a)])) rfl rfl (hb hby own_d11_24)
  refine own_st st10 ?_
  have Z10 : n0 ≤ h10.size := by rw [Wr.size W10]; exact Z8
  have N10 := Fr.snoc X10 N8 g_a
  show own_Go p e below _ T10 (mkF m 27 #[rv a, rv sid, rv sac, rv srg, rv szn, rv sty, rv spl, rv stn, own_lv t1, .second, own_lv t2, .second, .val .null] [])
  have KK10 := Keep.of_wr W10
  have FinstanceId_10 := FinstanceId_8.other W10 (Or.inr (slot_ne (Or.inr (hw _ (List.mem_of_getElem? (i := 90) rfl))) (Or.inr (hw _ (List.mem_of_getElem? (i := 92) rfl))) (by decide) (t := (.object "java/lang/String")) (t' := (.object "java/lang/String")) (by decide) (by decide)))
  have Fregion_10 := Fregion_8.other W10 (Or.inr (slot_ne (Or.inr (hw _ (List.mem_of_getElem? (i := 94) rfl))) (Or.inr (hw _ (List.mem_of_getElem? (i := 92) rfl))) (by decide) (t := (.object "java/lang/String")) (t' := (.object "java/lang/String")) (by decide) (by decide)))
  have Fzone_10 := Fzone_8.other W10 (Or.inr (slot_ne (Or.inr (hw _ (List.mem_of_getElem? (i := 96) rfl))) (Or.inr (hw _ (List.mem_of_getElem? (i := 92) rfl))) (by decide) (t := (.object "java/lang/String")) (t' := (.object "java/lang/String")) (by decide) (by decide)))
  have FinstanceType_10 := FinstanceType_8.other W10 (Or.inr (slot_ne (Or.inr (hw _ (List.mem_of_getElem? (i := 98) rfl))) (Or.inr (hw _ (List.mem_of_getElem? (i := 92) rfl))) (by decide) (t := (.object "java/lang/String")) (t' := (.object "java/lang/String")) (by decide) (by decide)))
  have Fplatform_10 := Fplatform_8.other W10 (Or.inr (slot_ne (Or.inr (hw _ (List.mem_of_getElem? (i := 100) rfl))) (Or.inr (hw _ (List.mem_of_getElem? (i := 92) rfl))) (by decide) (t := (.object "java/lang/String")) (t' := (.object "java/lang/String")) (by decide) (by decide)))
  have Ftenancy_10 := Ftenancy_8.other W10 (Or.inr (slot_ne (Or.inr (hw _ (List.mem_of_getElem? (i := 102) rfl))) (Or.inr (hw _ (List.mem_of_getElem? (i := 92) rfl))) (by decide) (t := (.object "java/lang/String")) (t' := (.object "java/lang/String")) (by decide) (by decide)))
  have Fstart_10 := Fstart_8.other W10 (Or.inr (slot_ne (Or.inr (hw _ (List.mem_of_getElem? (i := 104) rfl))) (Or.inr (hw _ (List.mem_of_getElem? (i := 92) rfl))) (by decide) (t := .long) (t' := (.object "java/lang/String")) (by decide) (by decide)))
  have Fend_10 := Fend_8.other W10 (Or.inr (slot_ne (Or.inr (hw _ (List.mem_of_getElem? (i := 106) rfl))) (Or.inr (hw _ (List.mem_of_getElem? (i := 92) rfl))) (by decide) (t := .long) (t' := (.object "java/lang/String")) (by decide) (by decide)))
  have FpartSeconds_10 := FpartSeconds_8.other W10 (Or.inr (slot_ne (Or.inr (hw _ (List.mem_of_getElem? (i := 108) rfl))) (Or.inr (hw _ (List.mem_of_getElem? (i := 92) rfl))) (by decide) (t := (.object "com/example/coverfold/coverfold/Rational")) (t' := (.object "java/lang/String")) (by decide) (by decide)))
  have EE_10 := EE_8.keep KK10
  have Faccount_10 := Faccount_8.same W10
  have KA10 : Keep h0 h10 [a] := KA8.wr W10 (Or.inl (List.mem_of_getElem? (i := 0) rfl))
  have sg11 : own_V p e below T10 (mkF m 29 #[rv a, rv sid, rv sac, rv srg, rv szn, rv sty, rv spl, rv stn, own_lv t1, .second, own_lv t2, .second, .val .null] [(.ref srg), (.ref a)]) (mkF m 27 #[rv a, rv sid, rv sac, rv srg, rv szn, rv sty, rv spl, rv stn, own_lv t1, .second, own_lv t2, .second, .val .null] []) := by
    intro t kt
    refine XS.aloadN X10.here hx rfl (hb hby own_d11_27) rfl rfl ?_
    show own_S p e below T10 m 28 #[rv a, rv sid, rv sac, rv srg, rv szn, rv sty, rv spl, rv stn, own_lv t1, .second, own_lv t2, .second, .val .null] [(.ref a)] _
    refine XS.aloadN X10.here hx rfl (hb hby own_d11_28) rfl rfl ?_
    show own_S p e below T10 m 29 #[rv a, rv sid, rv sac, rv srg, rv szn, rv sty, rv spl, rv stn, own_lv t1, .second, own_lv t2, .second, .val .null] [(.ref srg), (.ref a)] _
    exact kt
  refine own_st sg11 ?_
  obtain ⟨T12, h12, X12, e12, W12, st12⟩ := putF X10 hx hZ hown (host := "") (Or.inl (hw _ (List.mem_of_getElem? (i := 93) rfl))) Via.refl e10 Fregion_10 EE_10 (Or.inr ⟨(hw _ (List.mem_of_getElem? (i := 94) rfl)), rfl, hnm⟩) (hw _ (List.mem_of_getElem? (i := 43) rfl)) (ty := (.object "java/lang/String")) (by decide) rfl rfl (g := (mkF m 29 #[rv a, rv sid, rv sac, rv srg, rv szn, rv sty, rv spl, rv stn, own_lv t1, .second, own_lv t2, .second, .val .null] [(.ref srg), (.ref a)])) rfl rfl (hb hby own_d11_29)
  refine own_st st12 ?_
  have Z12 : n0 ≤ h12.size := by rw [Wr.size W12]; exact Z10
  have N12 := Fr.snoc X12 N10 g_a
  show own_Go p e below _ T12 (mkF m 32 #[rv a, rv sid, rv sac, rv srg, rv szn, rv sty, rv spl, rv stn, own_lv t1, .second, own_lv t2, .second, .val .null] [])
  have KK12 := Keep.of_wr W12
  have FinstanceId_12 := FinstanceId_10.other W12 (Or.inr (slot_ne (Or.inr (hw _ (List.mem_of_getElem? (i := 90) rfl))) (Or.inr (hw _ (List.mem_of_getElem? (i := 94) rfl))) (by decide) (t := (.object "java/lang/String")) (t' := (.object "java/lang/String")) (by decide) (by decide)))
  have Faccount_12 := Faccount_10.other W12 (Or.inr (slot_ne (Or.inr (hw _ (List.mem_of_getElem? (i := 92) rfl))) (Or.inr (hw _ (List.mem_of_getElem? (i := 94) rfl))) (by decide) (t := (.object "java/lang/String")) (t' := (.object "java/lang/String")) (by decide) (by decide)))
  have Fzone_12 := Fzone_10.other W12 (Or.inr (slot_ne (Or.inr (hw _ (List.mem_of_getElem? (i := 96) rfl))) (Or.inr (hw _ (List.mem_of_getElem? (i := 94) rfl))) (by decide) (t := (.object "java/lang/String")) (t' := (.object "java/lang/String")) (by decide) (by decide)))
  have FinstanceType_12 := FinstanceType_10.other W12 (Or.inr (slot_ne (Or.inr (hw _ (List.mem_of_getElem? (i := 98) rfl))) (Or.inr (hw _ (List.mem_of_getElem? (i := 94) rfl))) (by decide) (t := (.object "java/lang/String")) (t' := (.object "java/lang/String")) (by decide) (by decide)))
  have Fplatform_12 := Fplatform_10.other W12 (Or.inr (slot_ne (Or.inr (hw _ (List.mem_of_getElem? (i := 100) rfl))) (Or.inr (hw _ (List.mem_of_getElem? (i := 94) rfl))) (by decide) (t := (.object "java/lang/String")) (t' := (.object "java/lang/String")) (by decide) (by decide)))
  have Ftenancy_12 := Ftenancy_10.other W12 (Or.inr (slot_ne (Or.inr (hw _ (List.mem_of_getElem? (i := 102) rfl))) (Or.inr (hw _ (List.mem_of_getElem? (i := 94) rfl))) (by decide) (t := (.object "java/lang/String")) (t' := (.object "java/lang/String")) (by decide) (by decide)))
  have Fstart_12 := Fstart_10.other W12 (Or.inr (slot_ne (Or.inr (hw _ (List.mem_of_getElem? (i := 104) rfl))) (Or.inr (hw _ (List.mem_of_getElem? (i := 94) rfl))) (by decide) (t := .long) (t' := (.object "java/lang/String")) (by decide) (by decide)))
  have Fend_12 := Fend_10.other W12 (Or.inr (slot_ne (Or.inr (hw _ (List.mem_of_getElem? (i := 106) rfl))) (Or.inr (hw _ (List.mem_of_getElem? (i := 94) rfl))) (by decide) (t := .long) (t' := (.object "java/lang/String")) (by decide) (by decide)))
  have FpartSeconds_12 := FpartSeconds_10.other W12 (Or.inr (slot_ne (Or.inr (hw _ (List.mem_of_getElem? (i := 108) rfl))) (Or.inr (hw _ (List.mem_of_getElem? (i := 94) rfl))) (by decide) (t := (.object "com/example/coverfold/coverfold/Rational")) (t' := (.object "java/lang/String")) (by decide) (by decide)))
  have EE_12 := EE_10.keep KK12
  have Fregion_12 := Fregion_10.same W12
  have KA12 : Keep h0 h12 [a] := KA10.wr W12 (Or.inl (List.mem_of_getElem? (i := 0) rfl))
  have sg13 : own_V p e below T12 (mkF m 35 #[rv a, rv sid, rv sac, rv srg, rv szn, rv sty, rv spl, rv stn, own_lv t1, .second, own_lv t2, .second, .val .null] [(.ref szn), (.ref a)]) (mkF m 32 #[rv a, rv sid, rv sac, rv srg, rv szn, rv sty, rv spl, rv stn, own_lv t1, .second, own_lv t2, .second, .val .null] []) := by
    intro t kt
    refine XS.aloadN X12.here hx rfl (hb hby own_d11_32) rfl rfl ?_
    show own_S p e below T12 m 33 #[rv a, rv sid, rv sac, rv srg, rv szn, rv sty, rv spl, rv stn, own_lv t1, .second, own_lv t2, .second, .val .null] [(.ref a)] _
    refine XS.aload X12.here hx rfl (hb hby own_d11_33) rfl rfl ?_
    show own_S p e below T12 m 35 #[rv a, rv sid, rv sac, rv srg, rv szn, rv sty, rv spl, rv stn, own_lv t1, .second, own_lv t2, .second, .val .null] [(.ref szn), (.ref a)] _
    exact kt
  refine own_st sg13 ?_
  obtain ⟨T14, h14, X14, e14, W14, st14⟩ := putF X12 hx hZ hown (host := "") (Or.inl (hw _ (List.mem_of_getElem? (i := 95) rfl))) Via.refl e12 Fzone_12 EE_12 (Or.inr ⟨(hw _ (List.mem_of_getElem? (i := 96) rfl)), rfl, hnm⟩) (hw _ (List.mem_of_getElem? (i := 43) rfl)) (ty := (.object "java/lang/String")) (by decide) rfl rfl (g := (mkF m 35 #[rv a, rv sid, rv sac, rv srg, rv szn, rv sty, rv spl, rv stn, own_lv t1, .second, own_lv t2, .second, .val .null] [(.ref szn), (.ref a)])) rfl rfl (hb hby own_d11_35)
  refine own_st st14 ?_
  have Z14 : n0 ≤ h14.size := by rw [Wr.size W14]; exact Z12
  have N14 := Fr.snoc X14 N12 g_a
  show own_Go p e below _ T14 (mkF m 38 #[rv a, rv sid, rv sac, rv srg, rv szn, rv sty, rv spl, rv stn, own_lv t1, .second, own_lv t2, .second, .val .null] [])
  have KK14 := Keep.of_wr W14
  have FinstanceId_14 := FinstanceId_12.other W14 (Or.inr (slot_ne (Or.inr (hw _ (List.mem_of_getElem? (i := 90) rfl))) (Or.inr (hw _ (List.mem_of_getElem? (i := 96) rfl))) (by decide) (t := (.object "java/lang/String")) (t' := (.object "java/lang/String")) (by decide) (by decide)))
  have Faccount_14 := Faccount_12.other W14 (Or.inr (slot_ne (Or.inr (hw _ (List.mem_of_getElem? (i := 92) rfl))) (Or.inr (hw _ (List.mem_of_getElem? (i := 96) rfl))) (by decide) (t := (.object "java/lang/String")) (t' := (.object "java/lang/String")) (by decide) (by decide)))
  have Fregion_14 := Fregion_12.other W14 (Or.inr (slot_ne (Or.inr (hw _ (List.mem_of_getElem? (i := 94) rfl))) (Or.inr (hw _ (List.mem_of_getElem? (i := 96) rfl))) (by decide) (t := (.object "java/lang/String")) (t' := (.object "java/lang/String")) (by decide) (by decide)))
  have FinstanceType_14 := FinstanceType_12.other W14 (Or.inr (slot_ne (Or.inr (hw _ (List.mem_of_getElem? (i := 98) rfl))) (Or.inr (hw _ (List.mem_of_getElem? (i := 96) rfl))) (by decide) (t := (.object "java/lang/String")) (t' := (.object "java/lang/String")) (by decide) (by decide)))
  have Fplatform_14 := Fplatform_12.other W14 (Or.inr (slot_ne (Or.inr (hw _ (List.mem_of_getElem? (i := 100) rfl))) (Or.inr (hw _ (List.mem_of_getElem? (i := 96) rfl))) (by decide) (t := (.object "java/lang/String")) (t' := (.object "java/lang/String")) (by decide) (by decide)))
  have Ftenancy_14 := Ftenancy_12.other W14 (Or.inr (slot_ne (Or.inr (hw _ (List.mem_of_getElem? (i := 102) rfl))) (Or.inr (hw _ (List.mem_of_getElem? (i := 96) rfl))) (by decide) (t := (.object "java/lang/String")) (t' := (.object "java/lang/String")) (by decide) (by decide)))
  have Fstart_14 := Fstart_12.other W14 (Or.inr (slot_ne (Or.inr (hw _ (List.mem_of_getElem? (i := 104) rfl))) (Or.inr (hw _ (List.mem_of_getElem? (i := 96) rfl))) (by decide) (t := .long) (t' := (.object "java/lang/String")) (by decide) (by decide)))
  have Fend_14 := Fend_12.other W14 (Or.inr (slot_ne (Or.inr (hw _ (List.mem_of_getElem? (i := 106) rfl))) (Or.inr (hw _ (List.mem_of_getElem? (i := 96) rfl))) (by decide) (t := .long) (t' := (.object "java/lang/String")) (by decide) (by decide)))
  have FpartSeconds_14 := FpartSeconds_12.other W14 (Or.inr (slot_ne (Or.inr (hw _ (List.mem_of_getElem? (i := 108) rfl))) (Or.inr (hw _ (List.mem_of_getElem? (i := 96) rfl))) (by decide) (t := (.object "com/example/coverfold/coverfold/Rational")) (t' := (.object "java/lang/String")) (by decide) (by decide)))
  have EE_14 := EE_12.keep KK14
  have Fzone_14 := Fzone_12.same W14
  have KA14 : Keep h0 h14 [a] := KA12.wr W14 (Or.inl (List.mem_of_getElem? (i := 0) rfl))
  have sg15 : own_V p e below T14 (mkF m 41 #[rv a, rv sid, rv sac, rv srg, rv szn, rv sty, rv spl, rv stn, own_lv t1, .second, own_lv t2, .second, .val .null] [(.ref sty), (.ref a)]) (mkF m 38 #[rv a, rv sid, rv sac, rv srg, rv szn, rv sty, rv spl, rv stn, own_lv t1, .second, own_lv t2, .second, .val .null] []) := by
    intro t kt
    refine XS.aloadN X14.here hx rfl (hb hby own_d11_38) rfl rfl ?_
    show own_S p e below T14 m 39 #[rv a, rv sid, rv sac, rv srg, rv szn, rv sty, rv spl, rv stn, own_lv t1, .second, own_lv t2, .second, .val .null] [(.ref a)] _
    refine XS.aload X14.here hx rfl (hb hby own_d11_39) rfl rfl ?_
    show own_S p e below T14 m 41 #[rv a, rv sid, rv sac, rv srg, rv szn, rv sty, rv spl, rv stn, own_lv t1, .second, own_lv t2, .second, .val .null] [(.ref sty), (.ref a)] _
    exact kt
  refine own_st sg15 ?_
  obtain ⟨T16, h16, X16, e16, W16, st16⟩ := putF X14 hx hZ hown (host := "") (Or.inl (hw _ (List.mem_of_getElem? (i := 97) rfl))) Via.refl e14 FinstanceType_14 EE_14 (Or.inr ⟨(hw _ (List.mem_of_getElem? (i := 98) rfl)), rfl, hnm⟩) (hw _ (List.mem_of_getElem? (i := 43) rfl)) (ty := (.object "java/lang/String")) (by decide) rfl rfl (g := (mkF m 41 #[rv a, rv sid, rv sac, rv srg, rv szn, rv sty, rv spl, rv stn, own_lv t1, .second, own_lv t2, .second, .val .null] [(.ref sty), (.ref a)])) rfl rfl (hb hby own_d11_41)
  refine own_st st16 ?_
  have Z16 : n0 ≤ h16.size := by rw [Wr.size W16]; exact Z14
  have N16 := Fr.snoc X16 N14 g_a
  show own_Go p e below _ T16 (mkF m 44 #[rv a, rv sid, rv sac, rv srg, rv szn, rv sty, rv spl, rv stn, own_lv t1, .second, own_lv t2, .second, .val .null] [])
  have KK16 := Keep.of_wr W16
  have FinstanceId_16 := FinstanceId_14.other W16 (Or.inr (slot_ne (Or.inr (hw _ (List.mem_of_getElem? (i := 90) rfl))) (Or.inr (hw _ (List.mem_of_getElem? (i := 98) rfl))) (by decide) (t := (.object "java/lang/String")) (t' := (.object "java/lang/String")) (by decide) (by decide)))
  have Faccount_16 := Faccount_14.other W16 (Or.inr (slot_ne (Or.inr (hw _ (List.mem_of_getElem? (i := 92) rfl))) (Or.inr (hw _ (List.mem_of_getElem? (i := 98) rfl))) (by decide) (t := (.object "java/lang/String")) (t' := (.object "java/lang/String")) (by decide) (by decide)))
  have Fregion_16 := Fregion_14.other W16 (Or.inr (slot_ne (Or.inr (hw _ (List.mem_of_getElem? (i := 94) rfl))) (Or.inr (hw _ (List.mem_of_getElem? (i := 98) rfl))) (by decide) (t := (.object "java/lang/String")) (t' := (.object "java/lang/String")) (by decide) (by decide)))
  have Fzone_16 := Fzone_14.other W16 (Or.inr (slot_ne (Or.inr (hw _ (List.mem_of_getElem? (i := 96) rfl))) (Or.inr (hw _ (List.mem_of_getElem? (i := 98) rfl))) (by decide) (t := (.object "java/lang/String")) (t' := (.object "java/lang/String")) (by decide) (by decide)))
  have Fplatform_16 := Fplatform_14.other W16 (Or.inr (slot_ne (Or.inr (hw _ (List.mem_of_getElem? (i := 100) rfl))) (Or.inr (hw _ (List.mem_of_getElem? (i := 98) rfl))) (by decide) (t := (.object "java/lang/String")) (t' := (.object "java/lang/String")) (by decide) (by decide)))
  have Ftenancy_16 := Ftenancy_14.other W16 (Or.inr (slot_ne (Or.inr (hw _ (List.mem_of_getElem? (i := 102) rfl))) (Or.inr (hw _ (List.mem_of_getElem? (i := 98) rfl))) (by decide) (t := (.object "java/lang/String")) (t' := (.object "java/lang/String")) (by decide) (by decide)))
  have Fstart_16 := Fstart_14.other W16 (Or.inr (slot_ne (Or.inr (hw _ (List.mem_of_getElem? (i := 104) rfl))) (Or.inr (hw _ (List.mem_of_getElem? (i := 98) rfl))) (by decide) (t := .long) (t' := (.object "java/lang/String")) (by decide) (by decide)))
  have Fend_16 := Fend_14.other W16 (Or.inr (slot_ne (Or.inr (hw _ (List.mem_of_getElem? (i := 106) rfl))) (Or.inr (hw _ (List.mem_of_getElem? (i := 98) rfl))) (by decide) (t := .long) (t' := (.object "java/lang/String")) (by decide) (by decide)))
  have FpartSeconds_16 := FpartSeconds_14.other W16 (Or.inr (slot_ne (Or.inr (hw _ (List.mem_of_getElem? (i := 108) rfl))) (Or.inr (hw _ (List.mem_of_getElem? (i := 98) rfl))) (by decide) (t := (.object "com/example/coverfold/coverfold/Rational")) (t' := (.object "java/lang/String")) (by decide) (by decide)))
  have EE_16 := EE_14.keep KK16
  have FinstanceType_16 := FinstanceType_14.same W16
  have KA16 : Keep h0 h16 [a] := KA14.wr W16 (Or.inl (List.mem_of_getElem? (i := 0) rfl))
  have sg17 : own_V p e below T16 (mkF m 47 #[rv a, rv sid, rv sac, rv srg, rv szn, rv sty, rv spl, rv stn, own_lv t1, .second, own_lv t2, .second, .val .null] [(.ref spl), (.ref a)]) (mkF m 44 #[rv a, rv sid, rv sac, rv srg, rv szn, rv sty, rv spl, rv stn, own_lv t1, .second, own_lv t2, .second, .val .null] []) := by
    intro t kt
    refine XS.aloadN X16.here hx rfl (hb hby own_d11_44) rfl rfl ?_
    show own_S p e below T16 m 45 #[rv a, rv sid, rv sac, rv srg, rv szn, rv sty, rv spl, rv stn, own_lv t1, .second, own_lv t2, .second, .val .null] [(.ref a)] _
    refine XS.aload X16.here hx rfl (hb hby own_d11_45) rfl rfl ?_
    show own_S p e below T16 m 47 #[rv a, rv sid, rv sac, rv srg, rv szn, rv sty, rv spl, rv stn, own_lv t1, .second, own_lv t2, .second, .val .null] [(.ref spl), (.ref a)] _
    exact kt
  refine own_st sg17 ?_
  obtain ⟨T18, h18, X18, e18, W18, st18⟩ := putF X16 hx hZ hown (host := "") (Or.inl (hw _ (List.mem_of_getElem? (i := 99) rfl))) Via.refl e16 Fplatform_16 EE_16 (Or.inr ⟨(hw _ (List.mem_of_getElem? (i := 100) rfl)), rfl, hnm⟩) (hw _ (List.mem_of_getElem? (i := 43) rfl)) (ty := (.object "java/lang/String")) (by decide) rfl rfl (g := (mkF m 47 #[rv a, rv sid, rv sac, rv srg, rv szn, rv sty, rv spl, rv stn, own_lv t1, .second, own_lv t2, .second, .val .null] [(.ref spl), (.ref a)])) rfl rfl (hb hby own_d11_47)
  refine own_st st18 ?_
  have Z18 : n0 ≤ h18.size := by rw [Wr.size W18]; exact Z16
  have N18 := Fr.snoc X18 N16 g_a
  show own_Go p e below _ T18 (mkF m 50 #[rv a, rv sid, rv sac, rv srg, rv szn, rv sty, rv spl, rv stn, own_lv t1, .second, own_lv t2, .second, .val .null] [])
  have KK18 := Keep.of_wr W18
  have FinstanceId_18 := FinstanceId_16.other W18 (Or.inr (slot_ne (Or.inr (hw _ (List.mem_of_getElem? (i := 90) rfl))) (Or.inr (hw _ (List.mem_of_getElem? (i := 100) rfl))) (by decide) (t := (.object "java/lang/String")) (t' := (.object "java/lang/String")) (by decide) (by decide)))
  have Faccount_18 := Faccount_16.other W18 (Or.inr (slot_ne (Or.inr (hw _ (List.mem_of_getElem? (i := 92) rfl))) (Or.inr (hw _ (List.mem_of_getElem? (i := 100) rfl))) (by decide) (t := (.object "java/lang/String")) (t' := (.object "java/lang/String")) (by decide) (by decide)))
  have Fregion_18 := Fregion_16.other W18 (Or.inr (slot_ne (Or.inr (hw _ (List.mem_of_getElem? (i := 94) rfl))) (Or.inr (hw _ (List.mem_of_getElem? (i := 100) rfl))) (by decide) (t := (.object "java/lang/String")) (t' := (.object "java/lang/String")) (by decide) (by decide)))
  have Fzone_18 := Fzone_16.other W18 (Or.inr (slot_ne (Or.inr (hw _ (List.mem_of_getElem? (i := 96) rfl))) (Or.inr (hw _ (List.mem_of_getElem? (i := 100) rfl))) (by decide) (t := (.object "java/lang/String")) (t' := (.object "java/lang/String")) (by decide) (by decide)))
  have FinstanceType_18 := FinstanceType_16.other W18 (Or.inr (slot_ne (Or.inr (hw _ (List.mem_of_getElem? (i := 98) rfl))) (Or.inr (hw _ (List.mem_of_getElem? (i := 100) rfl))) (by decide) (t := (.object "java/lang/String")) (t' := (.object "java/lang/String")) (by decide) (by decide)))
  have Ftenancy_18 := Ftenancy_16.other W18 (Or.inr (slot_ne (Or.inr (hw _ (List.mem_of_getElem? (i := 102) rfl))) (Or.inr (hw _ (List.mem_of_getElem? (i := 100) rfl))) (by decide) (t := (.object "java/lang/String")) (t' := (.object "java/lang/String")) (by decide) (by decide)))
  have Fstart_18 := Fstart_16.other W18 (Or.inr (slot_ne (Or.inr (hw _ (List.mem_of_getElem? (i := 104) rfl))) (Or.inr (hw _ (List.mem_of_getElem? (i := 100) rfl))) (by decide) (t := .long) (t' := (.object "java/lang/String")) (by decide) (by decide)))
  have Fend_18 := Fend_16.other W18 (Or.inr (slot_ne (Or.inr (hw _ (List.mem_of_getElem? (i := 106) rfl))) (Or.inr (hw _ (List.mem_of_getElem? (i := 100) rfl))) (by decide) (t := .long) (t' := (.object "java/lang/String")) (by decide) (by decide)))
  have FpartSeconds_18 := FpartSeconds_16.other W18 (Or.inr (slot_ne (Or.inr (hw _ (List.mem_of_getElem? (i := 108) rfl))) (Or.inr (hw _ (List.mem_of_getElem? (i := 100) rfl))) (by decide) (t := (.object "com/example/coverfold/coverfold/Rational")) (t' := (.object "java/lang/String")) (by decide) (by decide)))
  have EE_18 := EE_16.keep KK18
  have Fplatform_18 := Fplatform_16.same W18
  have KA18 : Keep h0 h18 [a] := KA16.wr W18 (Or.inl (List.mem_of_getElem? (i := 0) rfl))
  have sg19 : own_V p e below T18 (mkF m 53 #[rv a, rv sid, rv sac, rv srg, rv szn, rv sty, rv spl, rv stn, own_lv t1, .second, own_lv t2, .second, .val .null] [(.ref stn), (.ref a)]) (mkF m 50 #[rv a, rv sid, rv sac, rv srg, rv szn, rv sty, rv spl, rv stn, own_lv t1, .second, own_lv t2, .second, .val .null] []) := by
    intro t kt
    refine XS.aloadN X18.here hx rfl (hb hby own_d11_50) rfl rfl ?_
    show own_S p e below T18 m 51 #[rv a, rv sid, rv sac, rv srg, rv szn, rv sty, rv spl, rv stn, own_lv t1, .second, own_lv t2, .second, .val .null] [(.ref a)] _
    refine XS.aload X18.here hx rfl (hb hby own_d11_51) rfl rfl ?_
    show own_S p e below T18 m 53 #[rv a, rv sid, rv sac, rv srg, rv szn, rv sty, rv spl, rv stn, own_lv t1, .second, own_lv t2, .second, .val .null] [(.ref stn), (.ref a)] _
    exact kt
  refine own_st sg19 ?_
  obtain ⟨T20, h20, X20, e20, W20, st20⟩ := putF X18 hx hZ hown (host := "") (Or.inl (hw _ (List.mem_of_getElem? (i := 101) rfl))) Via.refl e18 Ftenancy_18 EE_18 (Or.inr ⟨(hw _ (List.mem_of_getElem? (i := 102) rfl)), rfl, hnm⟩) (hw _ (List.mem_of_getElem? (i := 43) rfl)) (ty := (.object "java/lang/String")) (by decide) rfl rfl (g := (mkF m 53 #[rv a, rv sid, rv sac, rv srg, rv szn, rv sty, rv spl, rv stn, own_lv t1, .second, own_lv t2, .second, .val .null] [(.ref stn), (.ref a)])) rfl rfl (hb hby own_d11_53)
  refine own_st st20 ?_
  have Z20 : n0 ≤ h20.size := by rw [Wr.size W20]; exact Z18
  have N20 := Fr.snoc X20 N18 g_a
  show own_Go p e below _ T20 (mkF m 56 #[rv a, rv sid, rv sac, rv srg, rv szn, rv sty, rv spl, rv stn, own_lv t1, .second, own_lv t2, .second, .val .null] [])
  have KK20 := Keep.of_wr W20
  have FinstanceId_20 := FinstanceId_18.other W20 (Or.inr (slot_ne (Or.inr (hw _ (List.mem_of_getElem? (i := 90) rfl))) (Or.inr (hw _ (List.mem_of_getElem? (i := 102) rfl))) (by decide) (t := (.object "java/lang/String")) (t' := (.object "java/lang/String")) (by decide) (by decide)))
  have Faccount_20 := Faccount_18.other W20 (Or.inr (slot_ne (Or.inr (hw _ (List.mem_of_getElem? (i := 92) rfl))) (Or.inr (hw _ (List.mem_of_getElem? (i := 102) rfl))) (by decide) (t := (.object "java/lang/String")) (t' := (.object "java/lang/String")) (by decide) (by decide)))
  have Fregion_20 := Fregion_18.other W20 (Or.inr (slot_ne (Or.inr (hw _ (List.mem_of_getElem? (i := 94) rfl))) (Or.inr (hw _ (List.mem_of_getElem? (i := 102) rfl))) (by decide) (t := (.object "java/lang/String")) (t' := (.object "java/lang/String")) (by decide) (by decide)))
  have Fzone_20 := Fzone_18.other W20 (Or.inr (slot_ne (Or.inr (hw _ (List.mem_of_getElem? (i := 96) rfl))) (Or.inr (hw _ (List.mem_of_getElem? (i := 102) rfl))) (by decide) (t := (.object "java/lang/String")) (t' := (.object "java/lang/String")) (by decide) (by decide)))
  have FinstanceType_20 := FinstanceType_18.other W20 (Or.inr (slot_ne (Or.inr (hw _ (List.mem_of_getElem? (i := 98) rfl))) (Or.inr (hw _ (List.mem_of_getElem? (i := 102) rfl))) (by decide) (t := (.object "java/lang/String")) (t' := (.object "java/lang/String")) (by decide) (by decide)))
  have Fplatform_20 := Fplatform_18.other W20 (Or.inr (slot_ne (Or.inr (hw _ (List.mem_of_getElem? (i := 100) rfl))) (Or.inr (hw _ (List.mem_of_getElem? (i := 102) rfl))) (by decide) (t := (.object "java/lang/String")) (t' := (.object "java/lang/String")) (by decide) (by decide)))
  have Fstart_20 := Fstart_18.other W20 (Or.inr (slot_ne (Or.inr (hw _ (List.mem_of_getElem? (i := 104) rfl))) (Or.inr (hw _ (List.mem_of_getElem? (i := 102) rfl))) (by decide) (t := .long) (t' := (.object "java/lang/String")) (by decide) (by decide)))
  have Fend_20 := Fend_18.other W20 (Or.inr (slot_ne (Or.inr (hw _ (List.mem_of_getElem? (i := 106) rfl))) (Or.inr (hw _ (List.mem_of_getElem? (i := 102) rfl))) (by decide) (t := .long) (t' := (.object "java/lang/String")) (by decide) (by decide)))
  have FpartSeconds_20 := FpartSeconds_18.other W20 (Or.inr (slot_ne (Or.inr (hw _ (List.mem_of_getElem? (i := 108) rfl))) (Or.inr (hw _ (List.mem_of_getElem? (i := 102) rfl))) (by decide) (t := (.object "com/example/coverfold/coverfold/Rational")) (t' := (.object "java/lang/String")) (by decide) (by decide)))
  have EE_20 := EE_18.keep KK20
  have Ftenancy_20 := Ftenancy_18.same W20
  have KA20 : Keep h0 h20 [a] := KA18.wr W20 (Or.inl (List.mem_of_getElem? (i := 0) rfl))
  have sg21 : own_V p e below T20 (mkF m 59 #[rv a, rv sid, rv sac, rv srg, rv szn, rv sty, rv spl, rv stn, own_lv t1, .second, own_lv t2, .second, .val .null] [(.long t1), (.ref a)]) (mkF m 56 #[rv a, rv sid, rv sac, rv srg, rv szn, rv sty, rv spl, rv stn, own_lv t1, .second, own_lv t2, .second, .val .null] []) := by
    intro t kt
    refine XS.aloadN X20.here hx rfl (hb hby own_d11_56) rfl rfl ?_
    show own_S p e below T20 m 57 #[rv a, rv sid, rv sac, rv srg, rv szn, rv sty, rv spl, rv stn, own_lv t1, .second, own_lv t2, .second, .val .null] [(.ref a)] _
    refine XS.lload X20.here hx rfl (hb hby own_d11_57) rfl ?_
    show own_S p e below T20 m 59 #[rv a, rv sid, rv sac, rv srg, rv szn, rv sty, rv spl, rv stn, own_lv t1, .second, own_lv t2, .second, .val .null] [(.long t1), (.ref a)] _
    exact kt
  refine own_st sg21 ?_
  obtain ⟨T22, h22, X22, e22, W22, st22⟩ := putF X20 hx hZ hown (host := "") (Or.inl (hw _ (List.mem_of_getElem? (i := 103) rfl))) Via.refl e20 Fstart_20 EE_20 (Or.inr ⟨(hw _ (List.mem_of_getElem? (i := 104) rfl)), rfl, hnm⟩) (hw _ (List.mem_of_getElem? (i := 43) rfl)) (ty := .long) (by decide) rfl rfl (g := (mkF m 59 #[rv a, rv sid, rv sac, rv srg, rv szn, rv sty, rv spl, rv stn, own_lv t1, .second, own_lv t2, .second, .val .null] [(.long t1), (.ref a)])) rfl rfl (hb hby own_d11_59)
  refine own_st st22 ?_
  have Z22 : n0 ≤ h22.size := by rw [Wr.size W22]; exact Z20
  have N22 := Fr.snoc X22 N20 g_a
  show own_Go p e below _ T22 (mkF m 62 #[rv a, rv sid, rv sac, rv srg, rv szn, rv sty, rv spl, rv stn, own_lv t1, .second, own_lv t2, .second, .val .null] [])
  have KK22 := Keep.of_wr W22
  have FinstanceId_22 := FinstanceId_20.other W22 (Or.inr (slot_ne (Or.inr (hw _ (List.mem_of_getElem? (i := 90) rfl))) (Or.inr (hw _ (List.mem_of_getElem? (i := 104) rfl))) (by decide) (t := (.object "java/lang/String")) (t' := .long) (by decide) (by decide)))
  have Faccount_22 := Faccount_20.other W22 (Or.inr (slot_ne (Or.inr (hw _ (List.mem_of_getElem? (i := 92) rfl))) (Or.inr (hw _ (List.mem_of_getElem? (i := 104) rfl))) (by decide) (t := (.object "java/lang/String")) (t' := .long) (by decide) (by decide)))
  have Fregion_22 := Fregion_20.other W22 (Or.inr (slot_ne (Or.inr (hw _ (List.mem_of_getElem? (i := 94) rfl))) (Or.inr (hw _ (List.mem_of_getElem? (i := 104) rfl))) (by decide) (t := (.object "java/lang/String")) (t' := .long) (by decide) (by decide)))
  have Fzone_22 := Fzone_20.other W22 (Or.inr (slot_ne (Or.inr (hw _ (List.mem_of_getElem? (i := 96) rfl))) (Or.inr (hw _ (List.mem_of_getElem? (i := 104) rfl))) (by decide) (t := (.object "java/lang/String")) (t' := .long) (by decide) (by decide)))
  have FinstanceType_22 := FinstanceType_20.other W22 (Or.inr (slot_ne (Or.inr (hw _ (List.mem_of_getElem? (i := 98) rfl))) (Or.inr (hw _ (List.mem_of_getElem? (i := 104) rfl))) (by decide) (t := (.object "java/lang/String")) (t' := .long) (by decide) (by decide)))
  have Fplatform_22 := Fplatform_20.other W22 (Or.inr (slot_ne (Or.inr (hw _ (List.mem_of_getElem? (i := 100) rfl))) (Or.inr (hw _ (List.mem_of_getElem? (i := 104) rfl))) (by decide) (t := (.object "java/lang/String")) (t' := .long) (by decide) (by decide)))
  have Ftenancy_22 := Ftenancy_20.other W22 (Or.inr (slot_ne (Or.inr (hw _ (List.mem_of_getElem? (i := 102) rfl))) (Or.inr (hw _ (List.mem_of_getElem? (i := 104) rfl))) (by decide) (t := (.object "java/lang/String")) (t' := .long) (by decide) (by decide)))
  have Fend_22 := Fend_20.other W22 (Or.inr (slot_ne (Or.inr (hw _ (List.mem_of_getElem? (i := 106) rfl))) (Or.inr (hw _ (List.mem_of_getElem? (i := 104) rfl))) (by decide) (t := .long) (t' := .long) (by decide) (by decide)))
  have FpartSeconds_22 := FpartSeconds_20.other W22 (Or.inr (slot_ne (Or.inr (hw _ (List.mem_of_getElem? (i := 108) rfl))) (Or.inr (hw _ (List.mem_of_getElem? (i := 104) rfl))) (by decide) (t := (.object "com/example/coverfold/coverfold/Rational")) (t' := .long) (by decide) (by decide)))
  have EE_22 := EE_20.keep KK22
  have Fstart_22 := Fstart_20.same W22
  have KA22 : Keep h0 h22 [a] := KA20.wr W22 (Or.inl (List.mem_of_getElem? (i := 0) rfl))
  have sg23 : own_V p e below T22 (mkF m 65 #[rv a, rv sid, rv sac, rv srg, rv szn, rv sty, rv spl, rv stn, own_lv t1, .second, own_lv t2, .second, .val .null] [(.long t2), (.ref a)]) (mkF m 62 #[rv a, rv sid, rv sac, rv srg, rv szn, rv sty, rv spl, rv stn, own_lv t1, .second, own_lv t2, .second, .val .null] []) := by
    intro t kt
    refine XS.aloadN X22.here hx rfl (hb hby own_d11_62) rfl rfl ?_
    show own_S p e below T22 m 63 #[rv a, rv sid, rv sac, rv srg, rv szn, rv sty, rv spl, rv stn, own_lv t1, .second, own_lv t2, .second, .val .null] [(.ref a)] _
    refine XS.lload X22.here hx rfl (hb hby own_d11_63) rfl ?_
    show own_S p e below T22 m 65 #[rv a, rv sid, rv sac, rv srg, rv szn, rv sty, rv spl, rv stn, own_lv t1, .second, own_lv t2, .second, .val .null] [(.long t2), (.ref a)] _
    exact kt
  refine own_st sg23 ?_
  obtain ⟨T24, h24, X24, e24, W24, st24⟩ := putF X22 hx hZ hown (host := "") (Or.inl (hw _ (List.mem_of_getElem? (i := 105) rfl))) Via.refl e22 Fend_22 EE_22 (Or.inr ⟨(hw _ (List.mem_of_getElem? (i := 106) rfl)), rfl, hnm⟩) (hw _ (List.mem_of_getElem? (i := 43) rfl)) (ty := .long) (by decide) rfl rfl (g := (mkF m 65 #[rv a, rv sid, rv sac, rv srg, rv szn, rv sty, rv spl, rv stn, own_lv t1, .second, own_lv t2, .second, .val .null] [(.long t2), (.ref a)])) rfl rfl (hb hby own_d11_65)
  refine own_st st24 ?_
  have Z24 : n0 ≤ h24.size := by rw [Wr.size W24]; exact Z22
  have N24 := Fr.snoc X24 N22 g_a
  show own_Go p e below _ T24 (mkF m 68 #[rv a, rv sid, rv sac, rv srg, rv szn, rv sty, rv spl, rv stn, own_lv t1, .second, own_lv t2, .second, .val .null] [])
  have KK24 := Keep.of_wr W24
  have FinstanceId_24 := FinstanceId_22.other W24 (Or.inr (slot_ne (Or.inr (hw _ (List.mem_of_getElem? (i := 90) rfl))) (Or.inr (hw _ (List.mem_of_getElem? (i := 106) rfl))) (by decide) (t := (.object "java/lang/String")) (t' := .long) (by decide) (by decide)))
  have Faccount_24 := Faccount_22.other W24 (Or.inr (slot_ne (Or.inr (hw _ (List.mem_of_getElem? (i := 92) rfl))) (Or.inr (hw _ (List.mem_of_getElem? (i := 106) rfl))) (by decide) (t := (.object "java/lang/String")) (t' := .long) (by decide) (by decide)))
  have Fregion_24 := Fregion_22.other W24 (Or.inr (slot_ne (Or.inr (hw _ (List.mem_of_getElem? (i := 94) rfl))) (Or.inr (hw _ (List.mem_of_getElem? (i := 106) rfl))) (by decide) (t := (.object "java/lang/String")) (t' := .long) (by decide) (by decide)))
  have Fzone_24 := Fzone_22.other W24 (Or.inr (slot_ne (Or.inr (hw _ (List.mem_of_getElem? (i := 96) rfl))) (Or.inr (hw _ (List.mem_of_getElem? (i := 106) rfl))) (by decide) (t := (.object "java/lang/String")) (t' := .long) (by decide) (by decide)))
  have FinstanceType_24 := FinstanceType_22.other W24 (Or.inr (slot_ne (Or.inr (hw _ (List.mem_of_getElem? (i := 98) rfl))) (Or.inr (hw _ (List.mem_of_getElem? (i := 106) rfl))) (by decide) (t := (.object "java/lang/String")) (t' := .long) (by decide) (by decide)))
  have Fplatform_24 := Fplatform_22.other W24 (Or.inr (slot_ne (Or.inr (hw _ (List.mem_of_getElem? (i := 100) rfl))) (Or.inr (hw _ (List.mem_of_getElem? (i := 106) rfl))) (by decide) (t := (.object "java/lang/String")) (t' := .long) (by decide) (by decide)))
  have Ftenancy_24 := Ftenancy_22.other W24 (Or.inr (slot_ne (Or.inr (hw _ (List.mem_of_getElem? (i := 102) rfl))) (Or.inr (hw _ (List.mem_of_getElem? (i := 106) rfl))) (by decide) (t := (.object "java/lang/String")) (t' := .long) (by decide) (by decide)))
  have Fstart_24 := Fstart_22.other W24 (Or.inr (slot_ne (Or.inr (hw _ (List.mem_of_getElem? (i := 104) rfl))) (Or.inr (hw _ (List.mem_of_getElem? (i := 106) rfl))) (by decide) (t := .long) (t' := .long) (by decide) (by decide)))
  have FpartSeconds_24 := FpartSeconds_22.other W24 (Or.inr (slot_ne (Or.inr (hw _ (List.mem_of_getElem? (i := 108) rfl))) (Or.inr (hw _ (List.mem_of_getElem? (i := 106) rfl))) (by decide) (t := (.object "com/example/coverfold/coverfold/Rational")) (t' := .long) (by decide) (by decide)))
  have EE_24 := EE_22.keep KK24
  have Fend_24 := Fend_22.same W24
  have KA24 : Keep h0 h24 [a] := KA22.wr W24 (Or.inl (List.mem_of_getElem? (i := 0) rfl))
  have sg25 : own_V p e below T24 (mkF m 71 #[rv a, rv sid, rv sac, rv srg, rv szn, rv sty, rv spl, rv stn, own_lv t1, .second, own_lv t2, .second, .val .null] [.null, (.ref a)]) (mkF m 68 #[rv a, rv sid, rv sac, rv srg, rv szn, rv sty, rv spl, rv stn, own_lv t1, .second, own_lv t2, .second, .val .null] []) := by
    intro t kt
    refine XS.aloadN X24.here hx rfl (hb hby own_d11_68) rfl rfl ?_
    show own_S p e below T24 m 69 #[rv a, rv sid, rv sac, rv srg, rv szn, rv sty, rv spl, rv stn, own_lv t1, .second, own_lv t2, .second, .val .null] [(.ref a)] _
    refine XS.aload X24.here hx rfl (hb hby own_d11_69) rfl rfl ?_
    show own_S p e below T24 m 71 #[rv a, rv sid, rv sac, rv srg, rv szn, rv sty, rv spl, rv stn, own_lv t1, .second, own_lv t2, .second, .val .null] [.null, (.ref a)] _
    exact kt
  refine own_st sg25 ?_
  obtain ⟨T26, h26, X26, e26, W26, st26⟩ := putF X24 hx hZ hown (host := "") (Or.inl (hw _ (List.mem_of_getElem? (i := 107) rfl))) Via.refl e24 FpartSeconds_24 EE_24 (Or.inr ⟨(hw _ (List.mem_of_getElem? (i := 108) rfl)), rfl, hnm⟩) (hw _ (List.mem_of_getElem? (i := 43) rfl)) (ty := (.object "com/example/coverfold/coverfold/Rational")) (by decide) rfl rfl (g := (mkF m 71 #[rv a, rv sid, rv sac, rv srg, rv szn, rv sty, rv spl, rv stn, own_lv t1, .second, own_lv t2, .second, .val .null] [.null, (.ref a)])) rfl rfl (hb hby own_d11_71)
  refine own_st st26 ?_
  have Z26 : n0 ≤ h26.size := by rw [Wr.size W26]; exact Z24
  have N26 := Fr.snoc X26 N24 g_a
  show own_Go p e below _ T26 (mkF m 74 #[rv a, rv sid, rv sac, rv srg, rv szn, rv sty, rv spl, rv stn, own_lv t1, .second, own_lv t2, .second, .val .null] [])
  have KK26 := Keep.of_wr W26
  have FinstanceId_26 := FinstanceId_24.other W26 (Or.inr (slot_ne (Or.inr (hw _ (List.mem_of_getElem? (i := 90) rfl))) (Or.inr (hw _ (List.mem_of_getElem? (i := 108) rfl))) (by decide) (t := (.object "java/lang/String")) (t' := (.object "com/example/coverfold/coverfold/Rational")) (by decide) (by decide)))
  have Faccount_26 := Faccount_24.other W26 (Or.inr (slot_ne (Or.inr (hw _ (List.mem_of_getElem? (i := 92) rfl))) (Or.inr (hw _ (List.mem_of_getElem? (i := 108) rfl))) (by decide) (t := (.object "java/lang/String")) (t' := (.object "com/example/coverfold/coverfold/Rational")) (by decide) (by decide)))
  have Fregion_26 := Fregion_24.other W26 (Or.inr (slot_ne (Or.inr (hw _ (List.mem_of_getElem? (i := 94) rfl))) (Or.inr (hw _ (List.mem_of_getElem? (i := 108) rfl))) (by decide) (t := (.object "java/lang/String")) (t' := (.object "com/example/coverfold/coverfold/Rational")) (by decide) (by decide)))
  have Fzone_26 := Fzone_24.other W26 (Or.inr (slot_ne (Or.inr (hw _ (List.mem_of_getElem? (i := 96) rfl))) (Or.inr (hw _ (List.mem_of_getElem? (i := 108) rfl))) (by decide) (t := (.object "java/lang/String")) (t' := (.object "com/example/coverfold/coverfold/Rational")) (by decide) (by decide)))
  have FinstanceType_26 := FinstanceType_24.other W26 (Or.inr (slot_ne (Or.inr (hw _ (List.mem_of_getElem? (i := 98) rfl))) (Or.inr (hw _ (List.mem_of_getElem? (i := 108) rfl))) (by decide) (t := (.object "java/lang/String")) (t' := (.object "com/example/coverfold/coverfold/Rational")) (by decide) (by decide)))
  have Fplatform_26 := Fplatform_24.other W26 (Or.inr (slot_ne (Or.inr (hw _ (List.mem_of_getElem? (i := 100) rfl))) (Or.inr (hw _ (List.mem_of_getElem? (i := 108) rfl))) (by decide) (t := (.object "java/lang/String")) (t' := (.object "com/example/coverfold/coverfold/Rational")) (by decide) (by decide)))
  have Ftenancy_26 := Ftenancy_24.other W26 (Or.inr (slot_ne (Or.inr (hw _ (List.mem_of_getElem? (i := 102) rfl))) (Or.inr (hw _ (List.mem_of_getElem? (i := 108) rfl))) (by decide) (t := (.object "java/lang/String")) (t' := (.object "com/example/coverfold/coverfold/Rational")) (by decide) (by decide)))
  have Fstart_26 := Fstart_24.other W26 (Or.inr (slot_ne (Or.inr (hw _ (List.mem_of_getElem? (i := 104) rfl))) (Or.inr (hw _ (List.mem_of_getElem? (i := 108) rfl))) (by decide) (t := .long) (t' := (.object "com/example/coverfold/coverfold/Rational")) (by decide) (by decide)))
  have Fend_26 := Fend_24.other W26 (Or.inr (slot_ne (Or.inr (hw _ (List.mem_of_getElem? (i := 106) rfl))) (Or.inr (hw _ (List.mem_of_getElem? (i := 108) rfl))) (by decide) (t := .long) (t' := (.object "com/example/coverfold/coverfold/Rational")) (by decide) (by decide)))
  have EE_26 := EE_24.keep KK26
  have FpartSeconds_26 := FpartSeconds_24.same W26
  have KA26 : Keep h0 h26 [a] := KA24.wr W26 (Or.inl (List.mem_of_getElem? (i := 0) rfl))
  exact own_retV X26 hx Bd.notSynchronized Bd.returns (hb hby own_d11_74) (by decide) (by decide) e26 ⟨rfl, N26, KA26, EE_26, Faccount_26, Fregion_26, Fzone_26, FinstanceType_26, Fplatform_26, Ftenancy_26⟩
theorem own_efus9_1 (m : MethodId) (a : Nat) (sid : Nat) (sac : Nat) (srg : Nat) (szn : Nat) (sty : Nat) (spl : Nat) (stn : Nat) (t1 : Int64) (t2 : Int64) : entryFrame m #[(.ref a), (.ref sid), (.ref sac), (.ref srg), (.ref szn), (.ref sty), (.ref spl), (.ref stn), (.long t1), (.long t2)] 12 = mkF m 0 #[rv a, rv sid, rv sac, rv srg, rv szn, rv sty, rv spl, rv stn, own_lv t1, .second, own_lv t2, .second] [] := by first | (simp [entryFrame, mkF, argsToLocals, Value.category]; done) | rfl
set_option maxRecDepth 65536 in
set_option maxHeartbeats 40000000 in
theorem own_rmus9_1 (l : Launch) (Z : State) (a0 : Array Value) (hw : ∀ d ∈ tables_1, d.before a0 Z = true) (a : Nat) (sid : Nat) (sac : Nat) (srg : Nat) (szn : Nat) (sty : Nat) (spl : Nat) (stn : Nat) (t1 : Int64) (t2 : Int64) (b rb : Nat) (cc : Int32) (f g2 : Nat → Int32) (h0 : Heap) (n0 : Nat) (Z0 : n0 ≤ h0.size) (SS : own_Str Z h0 szn b 1 f) (SR : own_Str Z h0 srg rb 1 g2) (hfg : f 0 = g2 0) (SC : Sta Z h0 "java/lang/String" "COMPACT_STRINGS" "Z" (.int cc)) (hcc : ¬ cc = 0) (EE : Exa Z h0 a "com/example/coverfold/coverfold/Usage") (FinstanceId : Fld Z h0 a "com/example/coverfold/coverfold/Usage" "instanceId" "Ljava/lang/String;" .null) (Faccount : Fld Z h0 a "com/example/coverfold/coverfold/Usage" "account" "Ljava/lang/String;" .null) (Fregion : Fld Z h0 a "com/example/coverfold/coverfold/Usage" "region" "Ljava/lang/String;" .null) (Fzone : Fld Z h0 a "com/example/coverfold/coverfold/Usage" "zone" "Ljava/lang/String;" .null) (FinstanceType : Fld Z h0 a "com/example/coverfold/coverfold/Usage" "instanceType" "Ljava/lang/String;" .null) (Fplatform : Fld Z h0 a "com/example/coverfold/coverfold/Usage" "platform" "Ljava/lang/String;" .null) (Ftenancy : Fld Z h0 a "com/example/coverfold/coverfold/Usage" "tenancy" "Ljava/lang/String;" .null) (Fstart : Fld Z h0 a "com/example/coverfold/coverfold/Usage" "start" "J" (.long (0 : Int64))) (Fend : Fld Z h0 a "com/example/coverfold/coverfold/Usage" "end" "J" (.long (0 : Int64))) (FpartSeconds : Fld Z h0 a "com/example/coverfold/coverfold/Usage" "partSeconds" "Lcom/example/coverfold/coverfold/Rational;" .null) (g_a : n0 ≤ a) (ht : t1 < t2) :
    own_Ct l Z (⟨"com/example/coverfold/coverfold/Usage", "<init>", "(Ljava/lang/String;Ljava/lang/String;Ljava/lang/String;Ljava/lang/String;Ljava/lang/String;Ljava/lang/String;Ljava/lang/String;JJ)V"⟩ : MethodName) prog_99_method_1_code 12 none ({ frames := 6, cells := 0, slots := 0, locals := 96 } : Room) #[(.ref a), (.ref sid), (.ref sac), (.ref srg), (.ref szn), (.ref sty), (.ref spl), (.ref stn), (.long t1), (.long t2)] h0 (fun v h L => v = none ∧ Fr n0 L ∧ Keep h0 h [a] ∧ own_Us Z h a sac srg szn sty spl stn) := by
  refine own_body (y := (⟨"com/example/coverfold/coverfold/Usage", "<init>", "(Ljava/lang/String;Ljava/lang/String;Ljava/lang/String;Ljava/lang/String;Ljava/lang/String;Ljava/lang/String;Ljava/lang/String;JJ)V"⟩ : MethodName)) (Q := fun v h L => v = none ∧ Fr n0 L ∧ Keep h0 h [a] ∧ own_Us Z h a sac srg szn sty spl stn) (plainFor_of_name own_pn6) ?_
  intro p e s m below meth c s₁ Bd hml0 hZ e0
  have hx := Bd.exec
  have hby := Bd.bytes
  have hml : c.maxLocals = 12 := hml0
  have hown : s.vm.findClass "com/example/coverfold/coverfold/Usage" = some m.cls := findClass_of_methodNamed Bd.named
  have hnm := (name_of_methodNamed Bd.named Bd.method).1
  have X0 : Stand p l e ({ frames := 6, cells := 0, slots := 0, locals := 96 } : Room) s m #[(.ref a), (.ref sid), (.ref sac), (.ref srg), (.ref szn), (.ref sty), (.ref spl), (.ref stn), (.long t1), (.long t2)] below meth c s₁ [] 0 0 := Stand.of_body Bd
  have N0 := Fr.nil n0
  rw [own_efus9_1]
  have sg1 : own_V p e below s₁ (mkF m 17 #[rv a, rv sid, rv sac, rv srg, rv szn, rv sty, rv spl, rv stn, own_lv t1, .second, own_lv t2, .second] [.null, (.long t2), (.long t1), (.ref stn), (.ref spl), (.ref sty), (.ref szn), (.ref srg), (.ref sac), (.ref sid), (.ref a)]) (mkF m 0 #[rv a, rv sid, rv sac, rv srg, rv szn, rv sty, rv spl, rv stn, own_lv t1, .second, own_lv t2, .second] []) := by
    intro t kt
    refine XS.aloadN X0.here hx rfl (hb hby own_d10_0) rfl rfl ?_
    show own_S p e below s₁ m 1 #[rv a, rv sid, rv sac, rv srg, rv szn, rv sty, rv spl, rv stn, own_lv t1, .second, own_lv t2, .second] [(.ref a)] _
    refine XS.aloadN X0.here hx rfl (hb hby own_d10_1) rfl rfl ?_
    show own_S p e below s₁ m 2 #[rv a, rv sid, rv sac, rv srg, rv szn, rv sty, rv spl, rv stn, own_lv t1, .second, own_lv t2, .second] [(.ref sid), (.ref a)] _
    refine XS.aloadN X0.here hx rfl (hb hby own_d10_2) rfl rfl ?_
    show own_S p e below s₁ m 3 #[rv a, rv sid, rv sac, rv srg, rv szn, rv sty, rv spl, rv stn, own_lv t1, .second, own_lv t2, .second] [(.ref sac), (.ref sid), (.ref a)] _
    refine XS.aloadN X0.here hx rfl (hb hby own_d10_3) rfl rfl ?_
    show own_S p e below s₁ m 4 #[rv a, rv sid, rv sac, rv srg, rv szn, rv sty, rv spl, rv stn, own_lv t1, .second, own_lv t2, .second] [(.ref srg), (.ref sac), (.ref sid), (.ref a)] _
    refine XS.aload X0.here hx rfl (hb hby own_d10_4) rfl rfl ?_
    show own_S p e below s₁ m 6 #[rv a, rv sid, rv sac, rv srg, rv szn, rv sty, rv spl, rv stn, own_lv t1, .second, own_lv t2, .second] [(.ref szn), (.ref srg), (.ref sac), (.ref sid), (.ref a)] _
    refine XS.aload X0.here hx rfl (hb hby own_d10_6) rfl rfl ?_
    show own_S p e below s₁ m 8 #[rv a, rv sid, rv sac, rv srg, rv szn, rv sty, rv spl, rv stn, own_lv t1, .second, own_lv t2, .second] [(.ref sty), (.ref szn), (.ref srg), (.ref sac), (.ref sid), (.ref a)] _
    refine XS.aload X0.here hx rfl (hb hby own_d10_8) rfl rfl ?_
    show own_S p e below s₁ m 10 #[rv a, rv sid, rv sac, rv srg, rv szn, rv sty, rv spl, rv stn, own_lv t1, .second, own_lv t2, .second] [(.ref spl), (.ref sty), (.ref szn), (.ref srg), (.ref sac), (.ref sid), (.ref a)] _
    refine XS.aload X0.here hx rfl (hb hby own_d10_10) rfl rfl ?_
    show own_S p e below s₁ m 12 #[rv a, rv sid, rv sac, rv srg, rv szn, rv sty, rv spl, rv stn, own_lv t1, .second, own_lv t2, .second] [(.ref stn), (.ref spl), (.ref sty), (.ref szn), (.ref srg), (.ref sac), (.ref sid), (.ref a)] _
    refine XS.lload X0.here hx rfl (hb hby own_d10_12) rfl ?_
    show own_S p e below s₁ m 14 #[rv a, rv sid, rv sac, rv srg, rv szn, rv sty, rv spl, rv stn, own_lv t1, .second, own_lv t2, .second] [(.long t1), (.ref stn), (.ref spl), (.ref sty), (.ref szn), (.ref srg), (.ref sac), (.ref sid), (.ref a)] _
    refine XS.lload X0.here hx rfl (hb hby own_d10_14) rfl ?_
    show own_S p e below s₁ m 16 #[rv a, rv sid, rv sac, rv srg, rv szn, rv sty, rv spl, rv stn, own_lv t1, .second, own_lv t2, .second] [(.long t2), (.long t1), (.ref stn), (.ref spl), (.ref sty), (.ref szn), (.ref srg), (.ref sac), (.ref sid), (.ref a)] _
    refine XS.aconstNull X0.here hx rfl (hb hby own_d10_16) ?_
    show own_S p e below s₁ m 17 #[rv a, rv sid, rv sac, rv srg, rv szn, rv sty, rv spl, rv stn, own_lv t1, .second, own_lv t2, .second] [.null, (.long t2), (.long t1), (.ref stn), (.ref spl), (.ref sty), (.ref szn), (.ref srg), (.ref sac), (.ref sid), (.ref a)] _
    exact kt
  refine own_st sg1 ?_
  obtain ⟨_, T2, L2, X2, hQ2, st2⟩ := own_callI (y := (⟨"com/example/coverfold/coverfold/Usage", "<init>", "(Ljava/lang/String;Ljava/lang/String;Ljava/lang/String;Ljava/lang/String;Ljava/lang/String;Ljava/lang/String;Ljava/lang/String;JJLcom/example/coverfold/coverfold/Rational;)V"⟩ : MethodName)) (a := a) X0 hx hZ hown rfl (hw _ (List.mem_of_getElem? (i := 48) rfl)) (hw _ (List.mem_of_getElem? (i := 49) rfl)) (hw _ (List.mem_of_getElem? (i := 44) rfl)) (hw _ (List.mem_of_getElem? (i := 50) rfl)) (by decide) (own_rmus10_1 l Z a0 hw a sid sac srg szn sty spl stn t1 t2 b rb cc f g2 h0 n0 Z0 SS SR hfg SC hcc EE FinstanceId Faccount Fregion Fzone FinstanceType Fplatform Ftenancy Fstart Fend FpartSeconds g_a ht) e0 (g := (mkF m 17 #[rv a, rv sid, rv sac, rv srg, rv szn, rv sty, rv spl, rv stn, own_lv t1, .second, own_lv t2, .second] [.null, (.long t2), (.long t1), (.ref stn), (.ref spl), (.ref sty), (.ref szn), (.ref srg), (.ref sac), (.ref sid), (.ref a)])) rfl (by rw [hml]; rfl) (argsL := [(.ref sid), (.ref sac), (.ref srg), (.ref szn), (.ref sty), (.ref spl), (.ref stn), (.long t1), (.long t2), .null]) (rest := []) (lenOf own_pd13 rfl) rfl (W := 0) (by show 2 * 0 + _ ≤ _; exact Nat.le_of_eq rfl) (hb hby own_d10_17) (by decide) (by decide) (by decide) (by decide)
  obtain ⟨rfl, Nq2, R2⟩ := hQ2
  refine own_st st2 ?_
  have Z2 : n0 ≤ T2.heap.size := Nat.le_trans Z0 R2.1.1
  have N2 := Fr.app N0 Nq2
  show own_Go p e below _ T2 (mkF m 20 #[rv a, rv sid, rv sac, rv srg, rv szn, rv sty, rv spl, rv stn, own_lv t1, .second, own_lv t2, .second] [])
  exact own_retV X2 hx Bd.notSynchronized Bd.returns (hb hby own_d10_20) (by decide) (by decide) rfl ⟨rfl, N2, R2⟩
theorem own_d20_0 : decode prog_99_method_14_code 0 = .ok (.aload_n 0, 1) := by decide +kernel
theorem own_d20_1 : decode prog_99_method_14_code 1 = .ok (.getfield 28, 3) := by decide +kernel
theorem own_d20_4 : decode prog_99_method_14_code 4 = .ok (.aload_n 1, 1) := by decide +kernel
theorem own_d20_5 : decode prog_99_method_14_code 5 = .ok (.getfield 28, 3) := by decide +kernel
theorem own_d20_8 : decode prog_99_method_14_code 8 = .ok (.if_acmp .ne 62, 3) := by decide +kernel
theorem own_d20_11 : decode prog_99_method_14_code 11 = .ok (.aload_n 0, 1) := by decide +kernel
theorem own_d20_12 : decode prog_99_method_14_code 12 = .ok (.getfield 31, 3) := by decide +kernel
theorem own_d20_15 : decode prog_99_method_14_code 15 = .ok (.aload_n 1, 1) := by decide +kernel
theorem own_d20_16 : decode prog_99_method_14_code 16 = .ok (.getfield 31, 3) := by decide +kernel
theorem own_d20_19 : decode prog_99_method_14_code 19 = .ok (.if_acmp .ne 51, 3) := by decide +kernel
theorem own_d20_22 : decode prog_99_method_14_code 22 = .ok (.aload_n 0, 1) := by decide +kernel
theorem own_d20_23 : decode prog_99_method_14_code 23 = .ok (.getfield 34, 3) := by decide +kernel
theorem own_d20_26 : decode prog_99_method_14_code 26 = .ok (.aload_n 1, 1) := by decide +kernel
theorem own_d20_27 : decode prog_99_method_14_code 27 = .ok (.getfield 34, 3) := by decide +kernel
theorem own_d20_30 : decode prog_99_method_14_code 30 = .ok (.if_acmp .ne 40, 3) := by decide +kernel
theorem own_d20_33 : decode prog_99_method_14_code 33 = .ok (.aload_n 0, 1) := by decide +kernel
theorem own_d20_34 : decode prog_99_method_14_code 34 = .ok (.getfield 37, 3) := by decide +kernel
theorem own_d20_37 : decode prog_99_method_14_code 37 = .ok (.aload_n 1, 1) := by decide +kernel
theorem own_d20_38 : decode prog_99_method_14_code 38 = .ok (.getfield 37, 3) := by decide +kernel
theorem own_d20_41 : decode prog_99_method_14_code 41 = .ok (.if_acmp .ne 29, 3) := by decide +kernel
theorem own_d20_44 : decode prog_99_method_14_code 44 = .ok (.aload_n 0, 1) := by decide +kernel
theorem own_d20_45 : decode prog_99_method_14_code 45 = .ok (.getfield 40, 3) := by decide +kernel
theorem own_d20_48 : decode prog_99_method_14_code 48 = .ok (.aload_n 1, 1) := by decide +kernel
theorem own_d20_49 : decode prog_99_method_14_code 49 = .ok (.getfield 40, 3) := by decide +kernel
theorem own_d20_52 : decode prog_99_method_14_code 52 = .ok (.if_acmp .ne 18, 3) := by decide +kernel
theorem own_d20_55 : decode prog_99_method_14_code 55 = .ok (.aload_n 0, 1) := by decide +kernel
theorem own_d20_56 : decode prog_99_method_14_code 56 = .ok (.getfield 43, 3) := by decide +kernel
theorem own_d20_59 : decode prog_99_method_14_code 59 = .ok (.aload_n 1, 1) := by decide +kernel
theorem own_d20_60 : decode prog_99_method_14_code 60 = .ok (.getfield 43, 3) := by decide +kernel
theorem own_d20_63 : decode prog_99_method_14_code 63 = .ok (.if_acmp .ne 7, 3) := by decide +kernel
theorem own_d20_66 : decode prog_99_method_14_code 66 = .ok (.iconst 1, 1) := by decide +kernel
theorem own_d20_67 : decode prog_99_method_14_code 67 = .ok (.goto 4, 3) := by decide +kernel
theorem own_d20_70 : decode prog_99_method_14_code 70 = .ok (.iconst 0, 1) := by decide +kernel
theorem own_d20_71 : decode prog_99_method_14_code 71 = .ok (.ireturn, 1) := by decide +kernel
theorem own_efshr (m : MethodId) (a : Nat) (o : Nat) : entryFrame m #[(.ref a), (.ref o)] 2 = mkF m 0 #[rv a, rv o] [] := by first | (simp [entryFrame, mkF, argsToLocals, Value.category]; done) | rfl
set_option maxRecDepth 65536 in
set_option maxHeartbeats 40000000 in
theorem own_rmshr (l : Launch) (Z : State) (a0 : Array Value) (hw : ∀ d ∈ tables_1, d.before a0 Z = true) (a : Nat) (o : Nat) (p1 p2 p3 p4 p5 p6 q1 q2 q3 q4 q5 q6 : Nat) (h0 : Heap) (n0 : Nat) (Z0 : n0 ≤ h0.size) (UA : own_Us Z h0 a p1 p2 p3 p4 p5 p6) (UB : own_Us Z h0 o q1 q2 q3 q4 q5 q6) :
    own_Ct l Z (⟨"com/example/coverfold/coverfold/Usage", "sharesTextsOfKind", "(Lcom/example/coverfold/coverfold/Usage;)Z"⟩ : MethodName) prog_99_method_14_code 2 (some .boolean) ({ frames := 0, cells := 0, slots := 0, locals := 0 } : Room) #[(.ref a), (.ref o)] h0 (fun v h L => v = some (.int (if p1 = q1 ∧ p2 = q2 ∧ p3 = q3 ∧ p4 = q4 ∧ p5 = q5 ∧ p6 = q6 then (1 : Int32) else (0 : Int32))) ∧ Fr n0 L ∧ h = h0) := by
  refine own_body (y := (⟨"com/example/coverfold/coverfold/Usage", "sharesTextsOfKind", "(Lcom/example/coverfold/coverfold/Usage;)Z"⟩ : MethodName)) (Q := fun v h L => v = some (.int (if p1 = q1 ∧ p2 = q2 ∧ p3 = q3 ∧ p4 = q4 ∧ p5 = q5 ∧ p6 = q6 then (1 : Int32) else (0 : Int32))) ∧ Fr n0 L ∧ h = h0) (plainFor_of_name own_pn6) ?_
  intro p e s m below meth c s₁ Bd hml0 hZ e0
  have hx := Bd.exec
  have hby := Bd.bytes
  have hml : c.maxLocals = 2 := hml0
  have hown : s.vm.findClass "com/example/coverfold/coverfold/Usage" = some m.cls := findClass_of_methodNamed Bd.named
  have hnm := (name_of_methodNamed Bd.named Bd.method).1
  have X0 : Stand p l e ({ frames := 0, cells := 0, slots := 0, locals := 0 } : Room) s m #[(.ref a), (.ref o)] below meth c s₁ [] 0 0 := Stand.of_body Bd
  have N0 := Fr.nil n0
  rw [own_efshr]
  obtain ⟨A0, A1, A2, A3, A4, A5, A6⟩ := UA
  obtain ⟨B0, B1, B2, B3, B4, B5, B6⟩ := UB
  have sg1 : own_V p e below s₁ (mkF m 1 #[rv a, rv o] [(.ref a)]) (mkF m 0 #[rv a, rv o] []) := by
    intro t kt
    refine XS.aloadN X0.here hx rfl (hb hby own_d20_0) rfl rfl ?_
    show own_S p e below s₁ m 1 #[rv a, rv o] [(.ref a)] _
    exact kt
  refine own_st sg1 ?_
  obtain ⟨T2, X2, e2, st2⟩ := getF X0 hx hZ hown (host := "") (Or.inl (hw _ (List.mem_of_getElem? (i := 91) rfl))) Via.refl e0 A1 (g := (mkF m 1 #[rv a, rv o] [(.ref a)])) rfl rfl (hb hby own_d20_1)
  refine own_st st2 ?_
  show own_Go p e below _ T2 (mkF m 4 #[rv a, rv o] [(.ref p1)])
  have sg3 : own_V p e below T2 (mkF m 5 #[rv a, rv o] [(.ref o), (.ref p1)]) (mkF m 4 #[rv a, rv o] [(.ref p1)]) := by
    intro t kt
    refine XS.aloadN X2.here hx rfl (hb hby own_d20_4) rfl rfl ?_
    show own_S p e below T2 m 5 #[rv a, rv o] [(.ref o), (.ref p1)] _
    exact kt
  refine own_st sg3 ?_
  obtain ⟨T4, X4, e4, st4⟩ := getF X2 hx hZ hown (host := "") (Or.inl (hw _ (List.mem_of_getElem? (i := 91) rfl))) Via.refl e2 B1 (g := (mkF m 5 #[rv a, rv o] [(.ref o), (.ref p1)])) rfl rfl (hb hby own_d20_5)
  refine own_st st4 ?_
  show own_Go p e below _ T4 (mkF m 8 #[rv a, rv o] [(.ref q1), (.ref p1)])
  by_cases he1 : p1 = q1
  · skip
    have sg5 : own_V p e below T4 (mkF m 11 #[rv a, rv o] []) (mkF m 8 #[rv a, rv o] [(.ref q1), (.ref p1)]) := by
      intro t kt
      exact Jvm.RoadKit.acmp (g := (mkF m 8 #[rv a, rv o] [(.ref q1), (.ref p1)])) X4 hx rfl rfl rfl (pc0 := 8) (pc' := 11) (same := true) rfl (hb hby own_d20_8) rfl (decide_eq_true (congrArg Value.ref he1)) (by decide) (by decide) kt
    refine own_st sg5 ?_
    have sg6 : own_V p e below T4 (mkF m 12 #[rv a, rv o] [(.ref a)]) (mkF m 11 #[rv a, rv o] []) := by
      intro t kt
      refine XS.aloadN X4.here hx rfl (hb hby own_d20_11) rfl rfl ?_
      show own_S p e below T4 m 12 #[rv a, rv o] [(.ref a)] _
      exact kt
    refine own_st sg6 ?_
    obtain ⟨T7, X7, e7, st7⟩ := getF X4 hx hZ hown (host := "") (Or.inl (hw _ (List.mem_of_getElem? (i := 93) rfl))) Via.refl e4 A2 (g := (mkF m 12 #[rv a, rv o] [(.ref a)])) rfl rfl (hb hby own_d20_12)
    refine own_st st7 ?_
    show own_Go p e below _ T7 (mkF m 15 #[rv a, rv o] [(.ref p2)])
    have sg8 : own_V p e below T7 (mkF m 16 #[rv a, rv o] [(.ref o), (.ref p2)]) (mkF m 15 #[rv a, rv o] [(.ref p2)]) := by
      intro t kt
      refine XS.aloadN X7.here hx rfl (hb hby own_d20_15) rfl rfl ?_
      show own_S p e below T7 m 16 #[rv a, rv o] [(.ref o), (.ref p2)] _
      exact kt
    refine own_st sg8 ?_
    obtain ⟨T9, X9, e9, st9⟩ := getF X7 hx hZ hown (host := "") (Or.inl (hw _ (List.mem_of_getElem? (i := 93) rfl))) Via.refl e7 B2 (g := (mkF m 16 #[rv a, rv o] [(.ref o), (.ref p2)])) rfl rfl (hb hby own_d20_16)
    refine own_st st9 ?_
    show own_Go p e below _ T9 (mkF m 19 #[rv a, rv o] [(.ref q2), (.ref p2)])
    by_cases he2 : p2 = q2
    · skip
      have sg10 : own_V p e below T9 (mkF m 22 #[rv a, rv o] []) (mkF m 19 #[rv a, rv o] [(.ref q2), (.ref p2)]) := by
        intro t kt
        exact Jvm.RoadKit.acmp (g := (mkF m 19 #[rv a, rv o] [(.ref q2), (.ref p2)])) X9 hx rfl rfl rfl (pc0 := 19) (pc' := 22) (same := true) rfl (hb hby own_d20_19) rfl (decide_eq_true (congrArg Value.ref he2)) (by decide) (by decide) kt
      refine own_st sg10 ?_
      have sg11 : own_V p e below T9 (mkF m 23 #[rv a, rv o] [(.ref a)]) (mkF m 22 #[rv a, rv o] []) := by
        intro t kt
        refine XS.aloadN X9.here hx rfl (hb hby own_d20_22) rfl rfl ?_
        show own_S p e below T9 m 23 #[rv a, rv o] [(.ref a)] _
        exact kt
      refine own_st sg11 ?_
      obtain ⟨T12, X12, e12, st12⟩ := getF X9 hx hZ hown (host := "") (Or.inl (hw _ (List.mem_of_getElem? (i := 95) rfl))) Via.refl e9 A3 (g := (mkF m 23 #[rv a, rv o] [(.ref a)])) rfl rfl (hb hby own_d20_23)
      refine own_st st12 ?_
      show own_Go p e below _ T12 (mkF m 26 #[rv a, rv o] [(.ref p3)])
      have sg13 : own_V p e below T12 (mkF m 27 #[rv a, rv o] [(.ref o), (.ref p3)]) (mkF m 26 #[rv a, rv o] [(.ref p3)]) := by
        intro t kt
        refine XS.aloadN X12.here hx rfl (hb hby own_d20_26) rfl rfl ?_
        show own_S p e below T12 m 27 #[rv a, rv o] [(.ref o), (.ref p3)] _
        exact kt
      refine own_st sg13 ?_
      obtain ⟨T14, X14, e14, st14⟩ := getF X12 hx hZ hown (host := "") (Or.inl (hw _ (List.mem_of_getElem? (i := 95) rfl))) Via.refl e12 B3 (g := (mkF m 27 #[rv a, rv o] [(.ref o), (.ref p3)])) rfl rfl (hb hby own_d20_27)
      refine own_st st14 ?_
      show own_Go p e below _ T14 (mkF m 30 #[rv a, rv o] [(.ref q3), (.ref p3)])
      by_cases he3 : p3 = q3
      · skip
        have sg15 : own_V p e below T14 (mkF m 33 #[rv a, rv o] []) (mkF m 30 #[rv a, rv o] [(.ref q3), (.ref p3)]) := by
          intro t kt
          exact Jvm.RoadKit.acmp (g := (mkF m 30 #[rv a, rv o] [(.ref q3), (.ref p3)])) X14 hx rfl rfl rfl (pc0 := 30) (pc' := 33) (same := true) rfl (hb hby own_d20_30) rfl (decide_eq_true (congrArg Value.ref he3)) (by decide) (by decide) kt
        refine own_st sg15 ?_
        have sg16 : own_V p e below T14 (mkF m 34 #[rv a, rv o] [(.ref a)]) (mkF m 33 #[rv a, rv o] []) := by
          intro t kt
          refine XS.aloadN X14.here hx rfl (hb hby own_d20_33) rfl rfl ?_
          show own_S p e below T14 m 34 #[rv a, rv o] [(.ref a)] _
          exact kt
        refine own_st sg16 ?_
        obtain ⟨T17, X17, e17, st17⟩ := getF X14 hx hZ hown (host := "") (Or.inl (hw _ (List.mem_of_getElem? (i := 97) rfl))) Via.refl e14 A4 (g := (mkF m 34 #[rv a, rv o] [(.ref a)])) rfl rfl (hb hby own_d20_34)
        refine own_st st17 ?_
        show own_Go p e below _ T17 (mkF m 37 #[rv a, rv o] [(.ref p4)])
        have sg18 : own_V p e below T17 (mkF m 38 #[rv a, rv o] [(.ref o), (.ref p4)]) (mkF m 37 #[rv a, rv o] [(.ref p4)]) := by
          intro t kt
          refine XS.aloadN X17.here hx rfl (hb hby own_d20_37) rfl rfl ?_
          show own_S p e below T17 m 38 #[rv a, rv o] [(.ref o), (.ref p4)] _
          exact kt
        refine own_st sg18 ?_
        obtain ⟨T19, X19, e19, st19⟩ := getF X17 hx hZ hown (host := "") (Or.inl (hw _ (List.mem_of_getElem? (i := 97) rfl))) Via.refl e17 B4 (g := (mkF m 38 #[rv a, rv o] [(.ref o), (.ref p4)])) rfl rfl (hb hby own_d20_38)
        refine own_st st19 ?_
        show own_Go p e below _ T19 (mkF m 41 #[rv a, rv o] [(.ref q4), (.ref p4)])
        by_cases he4 : p4 = q4
        · skip
          have sg20 : own_V p e below T19 (mkF m 44 #[rv a, rv o] []) (mkF m 41 #[rv a, rv o] [(.ref q4), (.ref p4)]) := by
            intro t kt
            exact Jvm.RoadKit.acmp (g := (mkF m 41 #[rv a, rv o] [(.ref q4), (.ref p4)])) X19 hx rfl rfl rfl (pc0 := 41) (pc' := 44) (same := true) rfl (hb hby own_d20_41) rfl (decide_eq_true (congrArg Value.ref he4)) (by decide) (by decide) kt
          refine own_st sg20 ?_
          have sg21 : own_V p e below T19 (mkF m 45 #[rv a, rv o] [(.ref a)]) (mkF m 44 #[rv a, rv o] []) := by
            intro t kt
            refine XS.aloadN X19.here hx rfl (hb hby own_d20_44) rfl rfl ?_
            show own_S p e below T19 m 45 #[rv a, rv o] [(.ref a)] _
            exact kt
          refine own_st sg21 ?_
          obtain ⟨T22, X22, e22, st22⟩ := getF X19 hx hZ hown (host := "") (Or.inl (hw _ (List.mem_of_getElem? (i := 99) rfl))) Via.refl e19 A5 (g := (mkF m 45 #[rv a, rv o] [(.ref a)])) rfl rfl (hb hby own_d20_45)
          refine own_st st22 ?_
          show own_Go p e below _ T22 (mkF m 48 #[rv a, rv o] [(.ref p5)])
          have sg23 : own_V p e below T22 (mkF m 49 #[rv a, rv o] [(.ref o), (.ref p5)]) (mkF m 48 #[rv a, rv o] [(.ref p5)]) := by
            intro t kt
            refine XS.aloadN X22.here hx rfl (hb hby own_d20_48) rfl rfl ?_
            show own_S p e below T22 m 49 #[rv a, rv o] [(.ref o), (.ref p5)] _
            exact kt
          refine own_st sg23 ?_
          obtain ⟨T24, X24, e24, st24⟩ := getF X22 hx hZ hown (host := "") (Or.inl (hw _ (List.mem_of_getElem? (i := 99) rfl))) Via.refl e22 B5 (g := (mkF m 49 #[rv a, rv o] [(.ref o), (.ref p5)])) rfl rfl (hb hby own_d20_49)
          refine own_st st24 ?_
          show own_Go p e below _ T24 (mkF m 52 #[rv a, rv o] [(.ref q5), (.ref p5)])
          by_cases he5 : p5 = q5
          · skip
            have sg25 : own_V p e below T24 (mkF m 55 #[rv a, rv o] []) (mkF m 52 #[rv a, rv o] [(.ref q5), (.ref p5)]) := by
              intro t kt
              exact Jvm.RoadKit.acmp (g := (mkF m 52 #[rv a, rv o] [(.ref q5), (.ref p5)])) X24 hx rfl rfl rfl (pc0 := 52) (pc' := 55) (same := true) rfl (hb hby own_d20_52) rfl (decide_eq_true (congrArg Value.ref he5)) (by decide) (by decide) kt
            refine own_st sg25 ?_
            have sg26 : own_V p e below T24 (mkF m 56 #[rv a, rv o] [(.ref a)]) (mkF m 55 #[rv a, rv o] []) := by
              intro t kt
              refine XS.aloadN X24.here hx rfl (hb hby own_d20_55) rfl rfl ?_
              show own_S p e below T24 m 56 #[rv a, rv o] [(.ref a)] _
              exact kt
            refine own_st sg26 ?_
            obtain ⟨T27, X27, e27, st27⟩ := getF X24 hx hZ hown (host := "") (Or.inl (hw _ (List.mem_of_getElem? (i := 101) rfl))) Via.refl e24 A6 (g := (mkF m 56 #[rv a, rv o] [(.ref a)])) rfl rfl (hb hby own_d20_56)
            refine own_st st27 ?_
            show own_Go p e below _ T27 (mkF m 59 #[rv a, rv o] [(.ref p6)])
            have sg28 : own_V p e below T27 (mkF m 60 #[rv a, rv o] [(.ref o), (.ref p6)]) (mkF m 59 #[rv a, rv o] [(.ref p6)]) := by
              intro t kt
              refine XS.aloadN X27.here hx rfl (hb hby own_d20_59) rfl rfl ?_
              show own_S p e below T27 m 60 #[rv a, rv o] [(.ref o), (.ref p6)] _
              exact kt
            refine own_st sg28 ?_
            obtain ⟨T29, X29, e29, st29⟩ := getF X27 hx hZ hown (host := "") (Or.inl (hw _ (List.mem_of_getElem? (i := 101) rfl))) Via.refl e27 B6 (g := (mkF m 60 #[rv a, rv o] [(.ref o), (.ref p6)])) rfl rfl (hb hby own_d20_60)
            refine own_st st29 ?_
            show own_Go p e below _ T29 (mkF m 63 #[rv a, rv o] [(.ref q6), (.ref p6)])
            by_cases he6 : p6 = q6
            · skip
              have sg30 : own_V p e below T29 (mkF m 66 #[rv a, rv o] []) (mkF m 63 #[rv a, rv o] [(.ref q6), (.ref p6)]) := by
                intro t kt
                exact Jvm.RoadKit.acmp (g := (mkF m 63 #[rv a, rv o] [(.ref q6), (.ref p6)])) X29 hx rfl rfl rfl (pc0 := 63) (pc' := 66) (same := true) rfl (hb hby own_d20_63) rfl (decide_eq_true (congrArg Value.ref he6)) (by decide) (by decide) kt
              refine own_st sg30 ?_
              have sg31 : own_V p e below T29 (mkF m 71 #[rv a, rv o] [(.int (1 : Int32))]) (mkF m 66 #[rv a, rv o] []) := by
                intro t kt
                refine XS.iconst X29.here hx rfl (hb hby own_d20_66) ?_
                show own_S p e below T29 m 67 #[rv a, rv o] [(.int (1 : Int32))] _
                refine XS.goto X29.here hx rfl (pc0 := 67) (pc' := 71) rfl (hb hby own_d20_67) (by decide) (by decide) ?_
                show own_S p e below T29 m 71 #[rv a, rv o] [(.int (1 : Int32))] _
                exact kt
              refine own_st sg31 ?_
              exact own_retZ X29 hx Bd.notSynchronized Bd.returns (hb hby own_d20_71) (by decide) (by decide) (by decide) e29 ⟨by rw [if_pos ⟨he1, he2, he3, he4, he5, he6⟩], N0, rfl⟩
            have sg32 : own_V p e below T29 (mkF m 70 #[rv a, rv o] []) (mkF m 63 #[rv a, rv o] [(.ref q6), (.ref p6)]) := by
              intro t kt
              exact Jvm.RoadKit.acmp (g := (mkF m 63 #[rv a, rv o] [(.ref q6), (.ref p6)])) X29 hx rfl rfl rfl (pc0 := 63) (pc' := 70) (same := false) rfl (hb hby own_d20_63) rfl (decide_eq_false fun z => he6 (Value.ref.inj z)) (by decide) (by decide) kt
            refine own_st sg32 ?_
            have sg33 : own_V p e below T29 (mkF m 71 #[rv a, rv o] [(.int (0 : Int32))]) (mkF m 70 #[rv a, rv o] []) := by
              intro t kt
              refine XS.iconst X29.here hx rfl (hb hby own_d20_70) ?_
              show own_S p e below T29 m 71 #[rv a, rv o] [(.int (0 : Int32))] _
              exact kt
            refine own_st sg33 ?_
            exact own_retZ X29 hx Bd.notSynchronized Bd.returns (hb hby own_d20_71) (by decide) (by decide) (by decide) e29 ⟨by rw [if_neg (fun z => he6 z.2.2.2.2.2)], N0, rfl⟩
          have sg34 : own_V p e below T24 (mkF m 70 #[rv a, rv o] []) (mkF m 52 #[rv a, rv o] [(.ref q5), (.ref p5)]) := by
            intro t kt
            exact Jvm.RoadKit.acmp (g := (mkF m 52 #[rv a, rv o] [(.ref q5), (.ref p5)])) X24 hx rfl rfl rfl (pc0 := 52) (pc' := 70) (same := false) rfl (hb hby own_d20_52) rfl (decide_eq_false fun z => he5 (Value.ref.inj z)) (by decide) (by decide) kt
          refine own_st sg34 ?_
          have sg35 : own_V p e below T24 (mkF m 71 #[rv a, rv o] [(.int (0 : Int32))]) (mkF m 70 #[rv a, rv o] []) := by
            intro t kt
            refine XS.iconst X24.here hx rfl (hb hby own_d20_70) ?_
            show own_S p e below T24 m 71 #[rv a, rv o] [(.int (0 : Int32))] _
            exact kt
          refine own_st sg35 ?_
          exact own_retZ X24 hx Bd.notSynchronized Bd.returns (hb hby own_d20_71) (by decide) (by decide) (by decide) e24 ⟨by rw [if_neg (fun z => he5 z.2.2.2.2.1)], N0, rfl⟩
        have sg36 : own_V p e below T19 (mkF m 70 #[rv a, rv o] []) (mkF m 41 #[rv a, rv o] [(.ref q4), (.ref p4)]) := by
          intro t kt
          exact Jvm.RoadKit.acmp (g := (mkF m 41 #[rv a, rv o] [(.ref q4), (.ref p4)])) X19 hx rfl rfl rfl (pc0 := 41) (pc' := 70) (same := false) rfl (hb hby own_d20_41) rfl (decide_eq_false fun z => he4 (Value.ref.inj z)) (by decide) (by decide) kt
        refine own_st sg36 ?_
        have sg37 : own_V p e below T19 (mkF m 71 #[rv a, rv o] [(.int (0 : Int32))]) (mkF m 70 #[rv a, rv o] []) := by
          intro t kt
          refine XS.iconst X19.here hx rfl (hb hby own_d20_70) ?_
          show own_S p e below T19 m 71 #[rv a, rv o] [(.int (0 : Int32))] _
          exact kt
        refine own_st sg37 ?_
        exact own_retZ X19 hx Bd.notSynchronized Bd.returns (hb hby own_d20_71) (by decide) (by decide) (by decide) e19 ⟨by rw [if_neg (fun z => he4 z.2.2.2.1)], N0, rfl⟩
      have sg38 : own_V p e below T14 (mkF m 70 #[rv a, rv o] []) (mkF m 30 #[rv a, rv o] [(.ref q3), (.ref p3)]) := by
        intro t kt
        exact Jvm.RoadKit.acmp (g := (mkF m 30 #[rv a, rv o] [(.ref q3), (.ref p3)])) X14 hx rfl rfl rfl (pc0 := 30) (pc' := 70) (same := false) rfl (hb hby own_d20_30) rfl (decide_eq_false fun z => he3 (Value.ref.inj z)) (by decide) (by decide) kt
      refine own_st sg38 ?_
      have sg39 : own_V p e below T14 (mkF m 71 #[rv a, rv o] [(.int (0 : Int32))]) (mkF m 70 #[rv a, rv o] []) := by
        intro t kt
        refine XS.iconst X14.here hx rfl (hb hby own_d20_70) ?_
        show own_S p e below T14 m 71 #[rv a, rv o] [(.int (0 : Int32))] _
        exact kt
      refine own_st sg39 ?_
      exact own_retZ X14 hx Bd.notSynchronized Bd.returns (hb hby own_d20_71) (by decide) (by decide) (by decide) e14 ⟨by rw [if_neg (fun z => he3 z.2.2.1)], N0, rfl⟩
    have sg40 : own_V p e below T9 (mkF m 70 #[rv a, rv o] []) (mkF m 19 #[rv a, rv o] [(.ref q2), (.ref p2)]) := by
      intro t kt
      exact Jvm.RoadKit.acmp (g := (mkF m 19 #[rv a, rv o] [(.ref q2), (.ref p2)])) X9 hx rfl rfl rfl (pc0 := 19) (pc' := 70) (same := false) rfl (hb hby own_d20_19) rfl (decide_eq_false fun z => he2 (Value.ref.inj z)) (by decide) (by decide) kt
    refine own_st sg40 ?_
    have sg41 : own_V p e below T9 (mkF m 71 #[rv a, rv o] [(.int (0 : Int32))]) (mkF m 70 #[rv a, rv o] []) := by
      intro t kt
      refine XS.iconst X9.here hx rfl (hb hby own_d20_70) ?_
      show own_S p e below T9 m 71 #[rv a, rv o] [(.int (0 : Int32))] _
      exact kt
    refine own_st sg41 ?_
    exact own_retZ X9 hx Bd.notSynchronized Bd.returns (hb hby own_d20_71) (by decide) (by decide) (by decide) e9 ⟨by rw [if_neg (fun z => he2 z.2.1)], N0, rfl⟩
  have sg42 : own_V p e below T4 (mkF m 70 #[rv a, rv o] []) (mkF m 8 #[rv a, rv o] [(.ref q1), (.ref p1)]) := by
    intro t kt
    exact Jvm.RoadKit.acmp (g := (mkF m 8 #[rv a, rv o] [(.ref q1), (.ref p1)])) X4 hx rfl rfl rfl (pc0 := 8) (pc' := 70) (same := false) rfl (hb hby own_d20_8) rfl (decide_eq_false fun z => he1 (Value.ref.inj z)) (by decide) (by decide) kt
  refine own_st sg42 ?_
  have sg43 : own_V p e below T4 (mkF m 71 #[rv a, rv o] [(.int (0 : Int32))]) (mkF m 70 #[rv a, rv o] []) := by
    intro t kt
    refine XS.iconst X4.here hx rfl (hb hby own_d20_70) ?_
    show own_S p e below T4 m 71 #[rv a, rv o] [(.int (0 : Int32))] _
    exact kt
  refine own_st sg43 ?_
  exact own_retZ X4 hx Bd.notSynchronized Bd.returns (hb hby own_d20_71) (by decide) (by decide) (by decide) e4 ⟨by rw [if_neg (fun z => he1 z.1)], N0, rfl⟩
theorem own_d9_0 : decode jdk_29_method_70_code 0 = .ok (.lload_n 0, 1) := by decide +kernel
theorem own_d9_1 : decode jdk_29_method_70_code 1 = .ok (.lload_n 2, 1) := by decide +kernel
theorem own_d9_2 : decode jdk_29_method_70_code 2 = .ok (.lcmp, 1) := by decide +kernel
theorem own_d9_3 : decode jdk_29_method_70_code 3 = .ok (.ifCond .gt 7, 3) := by decide +kernel
theorem own_d9_6 : decode jdk_29_method_70_code 6 = .ok (.lload_n 0, 1) := by decide +kernel
theorem own_d9_7 : decode jdk_29_method_70_code 7 = .ok (.goto 4, 3) := by decide +kernel
theorem own_d9_10 : decode jdk_29_method_70_code 10 = .ok (.lload_n 2, 1) := by decide +kernel
theorem own_d9_11 : decode jdk_29_method_70_code 11 = .ok (.lreturn, 1) := by decide +kernel
def own_min (x y : Int64) : Int64 := (if y < x then y else x)
theorem own_pn7 : plainFor (⟨"java/lang/Math", "min", "(JJ)J"⟩ : MethodName) = true := (Jvm.Free.JP.mathPlain rfl (by decide +kernel))
theorem own_efmin (m : MethodId) (x : Int64) (y : Int64) : entryFrame m #[(.long x), (.long y)] 4 = mkF m 0 #[own_lv x, .second, own_lv y, .second] [] := by first | (simp [entryFrame, mkF, argsToLocals, Value.category]; done) | rfl
set_option maxRecDepth 65536 in
set_option maxHeartbeats 40000000 in
theorem own_rmmin (l : Launch) (Z : State) (a0 : Array Value) (hw : ∀ d ∈ tables_1, d.before a0 Z = true) (x : Int64) (y : Int64) (h0 : Heap) (n0 : Nat) (Z0 : n0 ≤ h0.size) :
    own_Ct l Z (⟨"java/lang/Math", "min", "(JJ)J"⟩ : MethodName) jdk_29_method_70_code 4 (some .long) ({ frames := 0, cells := 0, slots := 0, locals := 0 } : Room) #[(.long x), (.long y)] h0 (fun v h L => v = some (.long (own_min x y)) ∧ Fr n0 L ∧ h = h0) := by
  refine own_body (y := (⟨"java/lang/Math", "min", "(JJ)J"⟩ : MethodName)) (Q := fun v h L => v = some (.long (own_min x y)) ∧ Fr n0 L ∧ h = h0) own_pn7 ?_
  intro p e s m below meth c s₁ Bd hml0 hZ e0
  have hx := Bd.exec
  have hby := Bd.bytes
  have hml : c.maxLocals = 4 := hml0
  have hown : s.vm.findClass "java/lang/Math" = some m.cls := findClass_of_methodNamed Bd.named
  have hnm := (name_of_methodNamed Bd.named Bd.method).1
  have X0 : Stand p l e ({ frames := 0, cells := 0, slots := 0, locals := 0 } : Room) s m #[(.long x), (.long y)] below meth c s₁ [] 0 0 := Stand.of_body Bd
  have N0 := Fr.nil n0
  rw [own_efmin]
  obtain ⟨r, hr⟩ : ∃ z : Int64, z = (if y < x then y else x) := ⟨_, rfl⟩
  have sg2 : own_V p e below s₁ (mkF m 11 #[own_lv x, .second, own_lv y, .second] [(.long r)]) (mkF m 0 #[own_lv x, .second, own_lv y, .second] []) := by
    intro t kt
    refine XS.lloadN X0.here hx rfl (hb hby own_d9_0) rfl ?_
    show own_S p e below s₁ m 1 #[own_lv x, .second, own_lv y, .second] [(.long x)] _
    refine XS.lloadN X0.here hx rfl (hb hby own_d9_1) rfl ?_
    show own_S p e below s₁ m 2 #[own_lv x, .second, own_lv y, .second] [(.long y), (.long x)] _
    refine XS.lcmp X0.here hx rfl (hb hby own_d9_2) rfl ?_
    show own_S p e below s₁ m 3 #[own_lv x, .second, own_lv y, .second] [(.int (lcmpW x y))] _
    by_cases hc1 : y < x
    · refine XS.ifYes X0.here hx rfl (pc0 := 3) (pc' := 10) rfl (hb hby own_d9_3) rfl (own_tgtL hc1).1 (by decide) (by decide) ?_
      show own_S p e below s₁ m 10 #[own_lv x, .second, own_lv y, .second] [] _
      refine XS.lloadN X0.here hx rfl (hb hby own_d9_10) rfl ?_
      show own_S p e below s₁ m 11 #[own_lv x, .second, own_lv y, .second] [(.long y)] _
      rw [show r = y from by rw [hr, if_pos hc1]] at kt
      exact kt
    · refine XS.ifNo X0.here hx rfl (hb hby own_d9_3) rfl (own_fgtL hc1).1 ?_
      show own_S p e below s₁ m 6 #[own_lv x, .second, own_lv y, .second] [] _
      refine XS.lloadN X0.here hx rfl (hb hby own_d9_6) rfl ?_
      show own_S p e below s₁ m 7 #[own_lv x, .second, own_lv y, .second] [(.long x)] _
      refine XS.goto X0.here hx rfl (pc0 := 7) (pc' := 11) rfl (hb hby own_d9_7) (by decide) (by decide) ?_
      show own_S p e below s₁ m 11 #[own_lv x, .second, own_lv y, .second] [(.long x)] _
      rw [show r = x from by rw [hr, if_neg hc1]] at kt
      exact kt
  refine own_st sg2 ?_
  exact own_retJ X0 hx Bd.notSynchronized Bd.returns (hb hby own_d9_11) (by decide) (by decide) e0 ⟨by rw [hr]; rfl, N0, rfl⟩
theorem own_efsv_e (m : MethodId) (a : Nat) (sr : Nat) : entryFrame m #[(.ref a), (.ref sr), (.int (0 : Int32)), (.int (0 : Int32)), .null] 6 = mkF m 0 #[rv a, rv sr, iv (0 : Int32), iv (0 : Int32), .val .null, .unset] [] := by first | (simp [entryFrame, mkF, argsToLocals, Value.category]; done) | rfl
set_option maxRecDepth 65536 in
set_option maxHeartbeats 40000000 in
theorem own_rmsv_e (l : Launch) (Z : State) (a0 : Array Value) (hw : ∀ d ∈ tables_1, d.before a0 Z = true) (a : Nat) (sr : Nat) (h0 : Heap) (n0 : Nat) (Z0 : n0 ≤ h0.size) (EE : Exa Z h0 a "java/lang/String") (Fv : Fld Z h0 a "java/lang/String" "value" "[B" .null) (Fc : Fld Z h0 a "java/lang/String" "coder" "B" (.int (0 : Int32))) (g_a : n0 ≤ a) (HK : ∀ (b : Nat) (cl : Cell), Z.heap[b]? = some cl → h0[b]? = some cl) (hh : Jvm.Lit.constHeld Z "java/lang/String" 7) (hcw : Jvm.Lit.compactW.before a0 Z = true) :
    own_CtJ l Z (⟨"java/lang/String", "<init>", "([CIILjava/lang/Void;)V"⟩ : MethodName) jdk_42_method_149_code 6 none ({ frames := 1, cells := 2, slots := 4, locals := 12 } : Room) #[(.ref a), (.ref sr), (.int (0 : Int32)), (.int (0 : Int32)), .null] h0 (fun vm => vm.interned = Z.vm.interned) (fun v h vm L => v = none ∧ Fr n0 L ∧ Keep h0 h [a] ∧ Exa Z h a "java/lang/String" ∧ Fld Z h a "java/lang/String" "coder" "B" (.int 0) ∧ ∃ (b lt : Nat), Fld Z h a "java/lang/String" "value" "[B" (.ref b) ∧ own_AI Z h b .byte 0 (fun _ => 0) ∧ Lit (Z.setVm vm) "java/lang/String" 7 lt ∧ Exa Z h lt "java/lang/String" ∧ Fld Z h lt "java/lang/String" "coder" "B" (.int 0) ∧ Fld Z h lt "java/lang/String" "value" "[B" (.ref b)) := by
  refine own_bodyJ (y := (⟨"java/lang/String", "<init>", "([CIILjava/lang/Void;)V"⟩ : MethodName)) (Q := fun v h vm L => v = none ∧ Fr n0 L ∧ Keep h0 h [a] ∧ Exa Z h a "java/lang/String" ∧ Fld Z h a "java/lang/String" "coder" "B" (.int 0) ∧ ∃ (b lt : Nat), Fld Z h a "java/lang/String" "value" "[B" (.ref b) ∧ own_AI Z h b .byte 0 (fun _ => 0) ∧ Lit (Z.setVm vm) "java/lang/String" 7 lt ∧ Exa Z h lt "java/lang/String" ∧ Fld Z h lt "java/lang/String" "coder" "B" (.int 0) ∧ Fld Z h lt "java/lang/String" "value" "[B" (.ref b)) (J := fun vm => vm.interned = Z.vm.interned) (plainFor_of_name own_pn1) ?_
  intro p e s m below meth c s₁ Bd hml0 hZ e0 hs0 hJ
  have hx := Bd.exec
  have hby := Bd.bytes
  have hml : c.maxLocals = 6 := hml0
  have hown : s.vm.findClass "java/lang/String" = some m.cls := findClass_of_methodNamed Bd.named
  have hnm := (name_of_methodNamed Bd.named Bd.method).1
  have X0 : Stand p l e ({ frames := 1, cells := 2, slots := 4, locals := 12 } : Room) s m #[(.ref a), (.ref sr), (.int (0 : Int32)), (.int (0 : Int32)), .null] below meth c s₁ [] 0 0 := Stand.of_body Bd
  have N0 := Fr.nil n0
  rw [own_efsv_e]
  have lta : a < h0.size := EE.lt
  have wS : ∀ a ∈ Bundle.stringAtoms, a.before a0 Z = true := fun a ha => by
    simp only [Bundle.stringAtoms, List.mem_cons, List.not_mem_nil, or_false] at ha
    rcases ha with rfl | rfl | rfl | rfl | rfl | rfl | rfl
    · exact (hw _ (List.mem_of_getElem? (i := 7) rfl))
    · exact (hw _ (List.mem_of_getElem? (i := 6) rfl))
    · exact (hw _ (List.mem_of_getElem? (i := 23) rfl))
    · exact (hw _ (List.mem_of_getElem? (i := 33) rfl))
    · exact (hw _ (List.mem_of_getElem? (i := 31) rfl))
    · exact (hw _ (List.mem_of_getElem? (i := 115) rfl))
    · exact (hw _ (List.mem_of_getElem? (i := 116) rfl))
  have sg1 : own_V p e below s₁ (mkF m 1 #[rv a, rv sr, iv (0 : Int32), iv (0 : Int32), .val .null, .unset] [(.ref a)]) (mkF m 0 #[rv a, rv sr, iv (0 : Int32), iv (0 : Int32), .val .null, .unset] []) := by
    intro t kt
    refine XS.aloadN X0.here hx rfl (hb hby own_d3_0) rfl rfl ?_
    show own_S p e below s₁ m 1 #[rv a, rv sr, iv (0 : Int32), iv (0 : Int32), .val .null, .unset] [(.ref a)] _
    exact kt
  refine own_st sg1 ?_
  obtain ⟨T2, X2, e2, st2⟩ := initO X0 hx hZ hown (hw _ (List.mem_of_getElem? (i := 15) rfl)) (hw _ (List.mem_of_getElem? (i := 16) rfl)) (hw _ (List.mem_of_getElem? (i := 17) rfl)) e0 (g := (mkF m 1 #[rv a, rv sr, iv (0 : Int32), iv (0 : Int32), .val .null, .unset] [(.ref a)])) rfl (by rw [hml]; rfl) rfl (hb hby own_d3_1) (by decide) (W := 0) (by show 2 * 0 + _ ≤ _; exact Nat.le_of_eq rfl) (by decide)
  refine own_st st2 ?_
  show own_Go p e below _ T2 (mkF m 4 #[rv a, rv sr, iv (0 : Int32), iv (0 : Int32), .val .null, .unset] [])
  have sg3 : own_V p e below T2 (mkF m 9 #[rv a, rv sr, iv (0 : Int32), iv (0 : Int32), .val .null, .unset] [(.ref a)]) (mkF m 4 #[rv a, rv sr, iv (0 : Int32), iv (0 : Int32), .val .null, .unset] []) := by
    intro t kt
    refine XS.iloadN X2.here hx rfl (hb hby own_d3_4) rfl ?_
    show own_S p e below T2 m 5 #[rv a, rv sr, iv (0 : Int32), iv (0 : Int32), .val .null, .unset] [(.int (0 : Int32))] _
    refine XS.ifNo X2.here hx rfl (hb hby own_d3_5) rfl ((if0 _ _).trans (teq (by decide : (0 : Int32) = (0 : Int32))).2) ?_
    show own_S p e below T2 m 8 #[rv a, rv sr, iv (0 : Int32), iv (0 : Int32), .val .null, .unset] [] _
    refine XS.aloadN X2.here hx rfl (hb hby own_d3_8) rfl rfl ?_
    show own_S p e below T2 m 9 #[rv a, rv sr, iv (0 : Int32), iv (0 : Int32), .val .null, .unset] [(.ref a)] _
    exact kt
  refine own_st sg3 ?_
  obtain ⟨a4, T4, h4, k4, b4, kc4, X4, e4, E4, I4, kq4, hZ, hown, EL4, CL4, VL4, AL4, la4, lb4, IB4, LT4, st4⟩ := ldcSVL (s := s) (vm0 := s.vm) (Ts := []) (text := "") X2 hx hZ hown (hw _ (List.mem_of_getElem? (i := 114) rfl)) wS e2 ((State.WarmedH.refl s).since 0) (Nat.zero_le _) (by show Fr s.heap.size []; exact Fr.nil _) (fun b cl q => by rw [hs0]; exact HK b cl q) (by rw [IB]; exact ⟨#[], by rw [hJ]; simp, fun q hq => by simp at hq⟩) (by simp) hh hcw (vs := []) (z := 0) (by decide) (by decide) (by decide) (g := (mkF m 9 #[rv a, rv sr, iv (0 : Int32), iv (0 : Int32), .val .null, .unset] [(.ref a)])) rfl (hb hby own_d3_9) (n := 0) (by decide) (by decide) (by decide) (by decide)
  refine own_st st4 ?_
  have Z4 : n0 ≤ h4.size := Nat.le_trans Z0 E4.1
  show own_Go p e below _ T4 (mkF m 11 #[rv a, rv sr, iv (0 : Int32), iv (0 : Int32), .val .null, .unset] [(.ref a4), (.ref a)])
  have KK4 : Keep h0 h4 [] := (Keep.refl _ _).ext E4
  have EE_4 := EE.keep KK4
  have Fv_4 := Fv.keep KK4 nin0
  have Fc_4 := Fc.keep KK4 nin0
  have KA4 : Keep h0 h4 [a] := (Keep.refl h0 [a]).ext E4
  have nla : a4 ≠ a := fun z => by
    have q := VL4; rw [z] at q; exact absurd (own_fld_fun q Fv_4) (by simp)
  have AB4 : own_AI Z h4 b4 .byte 0 (fun _ => 0) := own_AI0 AL4
  have nba : b4 ≠ a := fun z => own_ne_arr EE_4 (hw _ (List.mem_of_getElem? (i := 6) rfl)) AB4 z.symm
  obtain ⟨T5, X5, e5, st5⟩ := getF X4 hx hZ hown (host := "") (Or.inl (hw _ (List.mem_of_getElem? (i := 32) rfl))) Via.refl e4 VL4 (g := (mkF m 11 #[rv a, rv sr, iv (0 : Int32), iv (0 : Int32), .val .null, .unset] [(.ref a4), (.ref a)])) rfl rfl (hb hby own_d3_11)
  refine own_st st5 ?_
  show own_Go p e below _ T5 (mkF m 14 #[rv a, rv sr, iv (0 : Int32), iv (0 : Int32), .val .null, .unset] [(.ref b4), (.ref a)])
  obtain ⟨T6, h6, X6, e6, W6, st6⟩ := putF X5 hx hZ hown (host := "") (Or.inl (hw _ (List.mem_of_getElem? (i := 32) rfl))) Via.refl e5 Fv_4 EE_4 (Or.inr ⟨(hw _ (List.mem_of_getElem? (i := 33) rfl)), rfl, hnm⟩) (hw _ (List.mem_of_getElem? (i := 6) rfl)) (ty := (.array .byte)) (by decide) rfl rfl (g := (mkF m 14 #[rv a, rv sr, iv (0 : Int32), iv (0 : Int32), .val .null, .unset] [(.ref b4), (.ref a)])) rfl rfl (hb hby own_d3_14)
  refine own_st st6 ?_
  have Z6 : n0 ≤ h6.size := by rw [Wr.size W6]; exact Z4
  have kk6 : k4 ≤ h6.size := by rw [Wr.size W6]; exact kq4
  have N6 := Fr.snoc X6 N0 g_a
  show own_Go p e below _ T6 (mkF m 17 #[rv a, rv sr, iv (0 : Int32), iv (0 : Int32), .val .null, .unset] [])
  have KK6 := Keep.of_wr W6
  have Fc_6 := Fc_4.other W6 (Or.inr (slot_ne (Or.inr (hw _ (List.mem_of_getElem? (i := 31) rfl))) (Or.inr (hw _ (List.mem_of_getElem? (i := 33) rfl))) (by decide) (t := .byte) (t' := (.array .byte)) (by decide) (by decide)))
  have EE_6 := EE_4.keep KK6
  have EL_6 := EL4.keep KK6
  have CL_6 := CL4.keep KK6 (own_ninS nla nin0)
  have VL_6 := VL4.keep KK6 (own_ninS nla nin0)
  have AB_6 := AB4.keep KK6 (own_ninS nba nin0)
  have Fv_6 := Fv_4.same W6
  have KA6 : Keep h0 h6 [a] := KA4.wr W6 (Or.inl (List.mem_of_getElem? (i := 0) rfl))
  have sg7 : own_V p e below T6 (mkF m 18 #[rv a, rv sr, iv (0 : Int32), iv (0 : Int32), .val .null, .unset] [(.ref a)]) (mkF m 17 #[rv a, rv sr, iv (0 : Int32), iv (0 : Int32), .val .null, .unset] []) := by
    intro t kt
    refine XS.aloadN X6.here hx rfl (hb hby own_d3_17) rfl rfl ?_
    show own_S p e below T6 m 18 #[rv a, rv sr, iv (0 : Int32), iv (0 : Int32), .val .null, .unset] [(.ref a)] _
    exact kt
  refine own_st sg7 ?_
  have sg8 := ldcAgain (s := s) (vm0 := T4.vm) X6 hx hZ hown (hw _ (List.mem_of_getElem? (i := 114) rfl)) LT4 (g := (mkF m 18 #[rv a, rv sr, iv (0 : Int32), iv (0 : Int32), .val .null, .unset] [(.ref a)])) rfl (hb hby own_d3_18)
  refine own_st sg8 ?_
  show own_Go p e below _ T6 (mkF m 20 #[rv a, rv sr, iv (0 : Int32), iv (0 : Int32), .val .null, .unset] [(.ref a4), (.ref a)])
  obtain ⟨T9, X9, e9, st9⟩ := getF X6 hx hZ hown (host := "") (Or.inl (hw _ (List.mem_of_getElem? (i := 30) rfl))) Via.refl e6 CL_6 (g := (mkF m 20 #[rv a, rv sr, iv (0 : Int32), iv (0 : Int32), .val .null, .unset] [(.ref a4), (.ref a)])) rfl rfl (hb hby own_d3_20)
  refine own_st st9 ?_
  show own_Go p e below _ T9 (mkF m 23 #[rv a, rv sr, iv (0 : Int32), iv (0 : Int32), .val .null, .unset] [(.int (0 : Int32)), (.ref a)])
  obtain ⟨T10, h10, X10, e10, W10, st10⟩ := putFN X9 hx hZ hown (hw _ (List.mem_of_getElem? (i := 30) rfl)) Via.refl e9 Fc_6 EE_6 (Or.inr ⟨(hw _ (List.mem_of_getElem? (i := 31) rfl)), rfl, hnm⟩) (hw _ (List.mem_of_getElem? (i := 6) rfl)) (ty := .byte) (v' := (.int (nar .byte (0 : Int32)))) (by decide) rfl (fits_nar_byte _) (g := (mkF m 23 #[rv a, rv sr, iv (0 : Int32), iv (0 : Int32), .val .null, .unset] [(.int (0 : Int32)), (.ref a)])) rfl rfl (hb hby own_d3_23)
  refine own_st st10 ?_
  have Z10 : n0 ≤ h10.size := by rw [Wr.size W10]; exact Z6
  have kk10 : k4 ≤ h10.size := by rw [Wr.size W10]; exact kk6
  have N10 := Fr.snoc X10 N6 g_a
  show own_Go p e below _ T10 (mkF m 26 #[rv a, rv sr, iv (0 : Int32), iv (0 : Int32), .val .null, .unset] [])
  have KK10 := Keep.of_wr W10
  have Fv_10 := Fv_6.other W10 (Or.inr (slot_ne (Or.inr (hw _ (List.mem_of_getElem? (i := 33) rfl))) (Or.inr (hw _ (List.mem_of_getElem? (i := 31) rfl))) (by decide) (t := (.array .byte)) (t' := .byte) (by decide) (by decide)))
  have EE_10 := EE_6.keep KK10
  have EL_10 := EL_6.keep KK10
  have CL_10 := CL_6.keep KK10 (own_ninS nla nin0)
  have VL_10 := VL_6.keep KK10 (own_ninS nla nin0)
  have AB_10 := AB_6.keep KK10 (own_ninS nba nin0)
  have Fc_10 := Fc_6.same W10
  have KA10 : Keep h0 h10 [a] := KA6.wr W10 (Or.inl (List.mem_of_getElem? (i := 0) rfl))
  have LZ : Lit (Z.setVm T10.vm) "java/lang/String" 7 a4 := own_lit_warm LT4 X10.warmed
  have FC : Fld Z h10 a "java/lang/String" "coder" "B" (.int 0) := Fc_10
  exact own_retVJ (s := s) (vm1 := T4.vm) X10 hx I4 kk10 Bd.notSynchronized Bd.returns (hb hby own_d3_26) (by decide) (by decide) e10 ⟨rfl, N10, KA10, EE_10, FC, b4, a4, Fv_10, AB_10, LZ, EL_10, CL_10, VL_10⟩
theorem own_efsi_e (m : MethodId) (a : Nat) (sr : Nat) : entryFrame m #[(.ref a), (.ref sr)] 2 = mkF m 0 #[rv a, rv sr] [] := by first | (simp [entryFrame, mkF, argsToLocals, Value.category]; done) | rfl
set_option maxRecDepth 65536 in
set_option maxHeartbeats 40000000 in
theorem own_rmsi_e (l : Launch) (Z : State) (a0 : Array Value) (hw : ∀ d ∈ tables_1, d.before a0 Z = true) (a : Nat) (sr : Nat) (ff : Nat → Int32) (h0 : Heap) (n0 : Nat) (Z0 : n0 ≤ h0.size) (EE : Exa Z h0 a "java/lang/String") (Fv : Fld Z h0 a "java/lang/String" "value" "[B" .null) (Fc : Fld Z h0 a "java/lang/String" "coder" "B" (.int (0 : Int32))) (g_a : n0 ≤ a) (HK : ∀ (b : Nat) (cl : Cell), Z.heap[b]? = some cl → h0[b]? = some cl) (hh : Jvm.Lit.constHeld Z "java/lang/String" 7) (hcw : Jvm.Lit.compactW.before a0 Z = true) (A : own_AI Z h0 sr .char 0 ff) :
    own_CtJ l Z (⟨"java/lang/String", "<init>", "([C)V"⟩ : MethodName) jdk_42_method_3_code 2 none ({ frames := 2, cells := 2, slots := 4, locals := 29 } : Room) #[(.ref a), (.ref sr)] h0 (fun vm => vm.interned = Z.vm.interned) (fun v h vm L => v = none ∧ Fr n0 L ∧ Keep h0 h [a] ∧ Exa Z h a "java/lang/String" ∧ Fld Z h a "java/lang/String" "coder" "B" (.int 0) ∧ ∃ (b lt : Nat), Fld Z h a "java/lang/String" "value" "[B" (.ref b) ∧ own_AI Z h b .byte 0 (fun _ => 0) ∧ Lit (Z.setVm vm) "java/lang/String" 7 lt ∧ Exa Z h lt "java/lang/String" ∧ Fld Z h lt "java/lang/String" "coder" "B" (.int 0) ∧ Fld Z h lt "java/lang/String" "value" "[B" (.ref b)) := by
  refine own_bodyJ (y := (⟨"java/lang/String", "<init>", "([C)V"⟩ : MethodName)) (Q := fun v h vm L => v = none ∧ Fr n0 L ∧ Keep h0 h [a] ∧ Exa Z h a "java/lang/String" ∧ Fld Z h a "java/lang/String" "coder" "B" (.int 0) ∧ ∃ (b lt : Nat), Fld Z h a "java/lang/String" "value" "[B" (.ref b) ∧ own_AI Z h b .byte 0 (fun _ => 0) ∧ Lit (Z.setVm vm) "java/lang/String" 7 lt ∧ Exa Z h lt "java/lang/String" ∧ Fld Z h lt "java/lang/String" "coder" "B" (.int 0) ∧ Fld Z h lt "java/lang/String" "value" "[B" (.ref b)) (J := fun vm => vm.interned = Z.vm.interned) (plainFor_of_name own_pn1) ?_
  intro p e s m below meth c s₁ Bd hml0 hZ e0 hs0 hJ
  have hx := Bd.exec
  have hby := Bd.bytes
  have hml : c.maxLocals = 2 := hml0
  have hown : s.vm.findClass "java/lang/String" = some m.cls := findClass_of_methodNamed Bd.named
  have hnm := (name_of_methodNamed Bd.named Bd.method).1
  have X0 : Stand p l e ({ frames := 2, cells := 2, slots := 4, locals := 29 } : Room) s m #[(.ref a), (.ref sr)] below meth c s₁ [] 0 0 := Stand.of_body Bd
  have N0 := Fr.nil n0
  rw [own_efsi_e]
  have sg1 : own_V p e below s₁ (mkF m 6 #[rv a, rv sr] [.null, (.int (0 : Int32)), (.int (0 : Int32)), (.ref sr), (.ref a)]) (mkF m 0 #[rv a, rv sr] []) := by
    intro t kt
    refine XS.aloadN X0.here hx rfl (hb hby own_d2_0) rfl rfl ?_
    show own_S p e below s₁ m 1 #[rv a, rv sr] [(.ref a)] _
    refine XS.aloadN X0.here hx rfl (hb hby own_d2_1) rfl rfl ?_
    show own_S p e below s₁ m 2 #[rv a, rv sr] [(.ref sr), (.ref a)] _
    refine XS.iconst X0.here hx rfl (hb hby own_d2_2) ?_
    show own_S p e below s₁ m 3 #[rv a, rv sr] [(.int (0 : Int32)), (.ref sr), (.ref a)] _
    refine XS.aloadN X0.here hx rfl (hb hby own_d2_3) rfl rfl ?_
    show own_S p e below s₁ m 4 #[rv a, rv sr] [(.ref sr), (.int (0 : Int32)), (.ref sr), (.ref a)] _
    refine own_len (z := (0 : Int32)) X0 hx hZ e0 A (by decide) (g := (mkF m 4 #[rv a, rv sr] [(.ref sr), (.int (0 : Int32)), (.ref sr), (.ref a)])) rfl rfl (hb hby own_d2_4) _ ?_
    show own_S p e below s₁ m 5 #[rv a, rv sr] [(.int (0 : Int32)), (.int (0 : Int32)), (.ref sr), (.ref a)] _
    refine XS.aconstNull X0.here hx rfl (hb hby own_d2_5) ?_
    show own_S p e below s₁ m 6 #[rv a, rv sr] [.null, (.int (0 : Int32)), (.int (0 : Int32)), (.ref sr), (.ref a)] _
    exact kt
  refine own_st sg1 ?_
  obtain ⟨_, T2, L2, X2, I2, hZ, hown, hQ2, st2⟩ := own_callIJ (y := (⟨"java/lang/String", "<init>", "([CIILjava/lang/Void;)V"⟩ : MethodName)) (a := a) (s := s) (vm0 := s.vm) X0 ((State.WarmedH.refl s).since 0) (Nat.zero_le _) hx hZ hown rfl (hw _ (List.mem_of_getElem? (i := 11) rfl)) (hw _ (List.mem_of_getElem? (i := 12) rfl)) (hw _ (List.mem_of_getElem? (i := 7) rfl)) (hw _ (List.mem_of_getElem? (i := 14) rfl)) (by decide) (own_rmsv_e l Z a0 hw a sr h0 n0 Z0 EE Fv Fc g_a HK hh hcw) e0 (g := (mkF m 6 #[rv a, rv sr] [.null, (.int (0 : Int32)), (.int (0 : Int32)), (.ref sr), (.ref a)])) rfl (by rw [hml]; rfl) (argsL := [(.ref sr), (.int (0 : Int32)), (.int (0 : Int32)), .null]) (rest := []) (lenOf own_pd3 rfl) rfl (W := 0) (by show 2 * 0 + _ ≤ _; exact Nat.le_of_eq rfl) (hb hby own_d2_6) (by decide) (by decide) (by decide) (by decide) (fun vm1 hv => hv.interned_eq.trans hJ)
  obtain ⟨rfl, Nq2, R2⟩ := hQ2
  refine own_st st2 ?_
  have Z2 : n0 ≤ T2.heap.size := Nat.le_trans Z0 R2.1.1
  have kk2 : 0 ≤ T2.heap.size := Nat.le_trans (Nat.zero_le _) R2.1.1
  have N2 := Fr.app N0 Nq2
  show own_Go p e below _ T2 (mkF m 9 #[rv a, rv sr] [])
  have LZ2 := R2.2.2.2
  exact own_retVJ (s := s) (vm1 := T2.vm) X2 hx I2 (Nat.le_refl _) Bd.notSynchronized Bd.returns (hb hby own_d2_9) (by decide) (by decide) rfl ⟨rfl, N2, R2⟩
theorem own_efsv_e2 (m : MethodId) (a : Nat) (sr : Nat) : entryFrame m #[(.ref a), (.ref sr), (.int (0 : Int32)), (.int (0 : Int32)), .null] 6 = mkF m 0 #[rv a, rv sr, iv (0 : Int32), iv (0 : Int32), .val .null, .unset] [] := by first | (simp [entryFrame, mkF, argsToLocals, Value.category]; done) | rfl
set_option maxRecDepth 65536 in
set_option maxHeartbeats 40000000 in
theorem own_rmsv_e2 (l : Launch) (Z : State) (a0 : Array Value) (hw : ∀ d ∈ tables_1, d.before a0 Z = true) (a : Nat) (sr : Nat) (lt bl : Nat) (h0 : Heap) (n0 : Nat) (Z0 : n0 ≤ h0.size) (EE : Exa Z h0 a "java/lang/String") (Fv : Fld Z h0 a "java/lang/String" "value" "[B" .null) (Fc : Fld Z h0 a "java/lang/String" "coder" "B" (.int (0 : Int32))) (g_a : n0 ≤ a) (EL : Exa Z h0 lt "java/lang/String") (CL : Fld Z h0 lt "java/lang/String" "coder" "B" (.int 0)) (VL : Fld Z h0 lt "java/lang/String" "value" "[B" (.ref bl)) (AB : own_AI Z h0 bl .byte 0 (fun _ => 0)) :
    own_CtJ l Z (⟨"java/lang/String", "<init>", "([CIILjava/lang/Void;)V"⟩ : MethodName) jdk_42_method_149_code 6 none ({ frames := 1, cells := 0, slots := 0, locals := 12 } : Room) #[(.ref a), (.ref sr), (.int (0 : Int32)), (.int (0 : Int32)), .null] h0 (fun vm => Lit (Z.setVm vm) "java/lang/String" 7 lt) (fun v h vm L => v = none ∧ Fr n0 L ∧ Keep h0 h [a] ∧ Exa Z h a "java/lang/String" ∧ Fld Z h a "java/lang/String" "coder" "B" (.int 0) ∧ Fld Z h a "java/lang/String" "value" "[B" (.ref bl) ∧ own_AI Z h bl .byte 0 (fun _ => 0)) := by
  refine own_bodyJ (y := (⟨"java/lang/String", "<init>", "([CIILjava/lang/Void;)V"⟩ : MethodName)) (Q := fun v h vm L => v = none ∧ Fr n0 L ∧ Keep h0 h [a] ∧ Exa Z h a "java/lang/String" ∧ Fld Z h a "java/lang/String" "coder" "B" (.int 0) ∧ Fld Z h a "java/lang/String" "value" "[B" (.ref bl) ∧ own_AI Z h bl .byte 0 (fun _ => 0)) (J := fun vm => Lit (Z.setVm vm) "java/lang/String" 7 lt) (plainFor_of_name own_pn1) ?_
  intro p e s m below meth c s₁ Bd hml0 hZ e0 hs0 hJ
  have hx := Bd.exec
  have hby := Bd.bytes
  have hml : c.maxLocals = 6 := hml0
  have hown : s.vm.findClass "java/lang/String" = some m.cls := findClass_of_methodNamed Bd.named
  have hnm := (name_of_methodNamed Bd.named Bd.method).1
  have X0 : Stand p l e ({ frames := 1, cells := 0, slots := 0, locals := 12 } : Room) s m #[(.ref a), (.ref sr), (.int (0 : Int32)), (.int (0 : Int32)), .null] below meth c s₁ [] 0 0 := Stand.of_body Bd
  have N0 := Fr.nil n0
  rw [own_efsv_e2]
  have nla : lt ≠ a := fun z => by
    have q := VL; rw [z] at q; exact absurd (own_fld_fun q Fv) (by simp)
  have nba : bl ≠ a := fun z => own_ne_arr EE (hw _ (List.mem_of_getElem? (i := 6) rfl)) AB z.symm
  have sg1 : own_V p e below s₁ (mkF m 1 #[rv a, rv sr, iv (0 : Int32), iv (0 : Int32), .val .null, .unset] [(.ref a)]) (mkF m 0 #[rv a, rv sr, iv (0 : Int32), iv (0 : Int32), .val .null, .unset] []) := by
    intro t kt
    refine XS.aloadN X0.here hx rfl (hb hby own_d3_0) rfl rfl ?_
    show own_S p e below s₁ m 1 #[rv a, rv sr, iv (0 : Int32), iv (0 : Int32), .val .null, .unset] [(.ref a)] _
    exact kt
  refine own_st sg1 ?_
  obtain ⟨T2, X2, e2, st2⟩ := initO X0 hx hZ hown (hw _ (List.mem_of_getElem? (i := 15) rfl)) (hw _ (List.mem_of_getElem? (i := 16) rfl)) (hw _ (List.mem_of_getElem? (i := 17) rfl)) e0 (g := (mkF m 1 #[rv a, rv sr, iv (0 : Int32), iv (0 : Int32), .val .null, .unset] [(.ref a)])) rfl (by rw [hml]; rfl) rfl (hb hby own_d3_1) (by decide) (W := 0) (by show 2 * 0 + _ ≤ _; exact Nat.le_of_eq rfl) (by decide)
  refine own_st st2 ?_
  show own_Go p e below _ T2 (mkF m 4 #[rv a, rv sr, iv (0 : Int32), iv (0 : Int32), .val .null, .unset] [])
  have sg3 : own_V p e below T2 (mkF m 9 #[rv a, rv sr, iv (0 : Int32), iv (0 : Int32), .val .null, .unset] [(.ref a)]) (mkF m 4 #[rv a, rv sr, iv (0 : Int32), iv (0 : Int32), .val .null, .unset] []) := by
    intro t kt
    refine XS.iloadN X2.here hx rfl (hb hby own_d3_4) rfl ?_
    show own_S p e below T2 m 5 #[rv a, rv sr, iv (0 : Int32), iv (0 : Int32), .val .null, .unset] [(.int (0 : Int32))] _
    refine XS.ifNo X2.here hx rfl (hb hby own_d3_5) rfl ((if0 _ _).trans (teq (by decide : (0 : Int32) = (0 : Int32))).2) ?_
    show own_S p e below T2 m 8 #[rv a, rv sr, iv (0 : Int32), iv (0 : Int32), .val .null, .unset] [] _
    refine XS.aloadN X2.here hx rfl (hb hby own_d3_8) rfl rfl ?_
    show own_S p e below T2 m 9 #[rv a, rv sr, iv (0 : Int32), iv (0 : Int32), .val .null, .unset] [(.ref a)] _
    exact kt
  refine own_st sg3 ?_
  have sg4 := ldcAgain (s := s) (vm0 := s.vm) X2 hx hZ hown (hw _ (List.mem_of_getElem? (i := 114) rfl)) hJ (g := (mkF m 9 #[rv a, rv sr, iv (0 : Int32), iv (0 : Int32), .val .null, .unset] [(.ref a)])) rfl (hb hby own_d3_9)
  refine own_st sg4 ?_
  show own_Go p e below _ T2 (mkF m 11 #[rv a, rv sr, iv (0 : Int32), iv (0 : Int32), .val .null, .unset] [(.ref lt), (.ref a)])
  obtain ⟨T5, X5, e5, st5⟩ := getF X2 hx hZ hown (host := "") (Or.inl (hw _ (List.mem_of_getElem? (i := 32) rfl))) Via.refl e2 VL (g := (mkF m 11 #[rv a, rv sr, iv (0 : Int32), iv (0 : Int32), .val .null, .unset] [(.ref lt), (.ref a)])) rfl rfl (hb hby own_d3_11)
  refine own_st st5 ?_
  show own_Go p e below _ T5 (mkF m 14 #[rv a, rv sr, iv (0 : Int32), iv (0 : Int32), .val .null, .unset] [(.ref bl), (.ref a)])
  obtain ⟨T6, h6, X6, e6, W6, st6⟩ := putF X5 hx hZ hown (host := "") (Or.inl (hw _ (List.mem_of_getElem? (i := 32) rfl))) Via.refl e5 Fv EE (Or.inr ⟨(hw _ (List.mem_of_getElem? (i := 33) rfl)), rfl, hnm⟩) (hw _ (List.mem_of_getElem? (i := 6) rfl)) (ty := (.array .byte)) (by decide) rfl rfl (g := (mkF m 14 #[rv a, rv sr, iv (0 : Int32), iv (0 : Int32), .val .null, .unset] [(.ref bl), (.ref a)])) rfl rfl (hb hby own_d3_14)
  refine own_st st6 ?_
  have Z6 : n0 ≤ h6.size := by rw [Wr.size W6]; exact Z0
  have kk6 : 0 ≤ h6.size := by rw [Wr.size W6]; exact (Nat.zero_le _)
  have N6 := Fr.snoc X6 N0 g_a
  show own_Go p e below _ T6 (mkF m 17 #[rv a, rv sr, iv (0 : Int32), iv (0 : Int32), .val .null, .unset] [])
  have KK6 := Keep.of_wr W6
  have Fc_6 := Fc.other W6 (Or.inr (slot_ne (Or.inr (hw _ (List.mem_of_getElem? (i := 31) rfl))) (Or.inr (hw _ (List.mem_of_getElem? (i := 33) rfl))) (by decide) (t := .byte) (t' := (.array .byte)) (by decide) (by decide)))
  have EE_6 := EE.keep KK6
  have EL_6 := EL.keep KK6
  have CL_6 := CL.keep KK6 (own_ninS nla nin0)
  have VL_6 := VL.keep KK6 (own_ninS nla nin0)
  have AB_6 := AB.keep KK6 (own_ninS nba nin0)
  have Fv_6 := Fv.same W6
  have KA6 : Keep h0 h6 [a] := (Keep.refl h0 [a]).wr W6 (Or.inl (List.mem_of_getElem? (i := 0) rfl))
  have sg7 : own_V p e below T6 (mkF m 18 #[rv a, rv sr, iv (0 : Int32), iv (0 : Int32), .val .null, .unset] [(.ref a)]) (mkF m 17 #[rv a, rv sr, iv (0 : Int32), iv (0 : Int32), .val .null, .unset] []) := by
    intro t kt
    refine XS.aloadN X6.here hx rfl (hb hby own_d3_17) rfl rfl ?_
    show own_S p e below T6 m 18 #[rv a, rv sr, iv (0 : Int32), iv (0 : Int32), .val .null, .unset] [(.ref a)] _
    exact kt
  refine own_st sg7 ?_
  have sg8 := ldcAgain (s := s) (vm0 := s.vm) X6 hx hZ hown (hw _ (List.mem_of_getElem? (i := 114) rfl)) hJ (g := (mkF m 18 #[rv a, rv sr, iv (0 : Int32), iv (0 : Int32), .val .null, .unset] [(.ref a)])) rfl (hb hby own_d3_18)
  refine own_st sg8 ?_
  show own_Go p e below _ T6 (mkF m 20 #[rv a, rv sr, iv (0 : Int32), iv (0 : Int32), .val .null, .unset] [(.ref lt), (.ref a)])
  obtain ⟨T9, X9, e9, st9⟩ := getF X6 hx hZ hown (host := "") (Or.inl (hw _ (List.mem_of_getElem? (i := 30) rfl))) Via.refl e6 CL_6 (g := (mkF m 20 #[rv a, rv sr, iv (0 : Int32), iv (0 : Int32), .val .null, .unset] [(.ref lt), (.ref a)])) rfl rfl (hb hby own_d3_20)
  refine own_st st9 ?_
  show own_Go p e below _ T9 (mkF m 23 #[rv a, rv sr, iv (0 : Int32), iv (0 : Int32), .val .null, .unset] [(.int (0 : Int32)), (.ref a)])
  obtain ⟨T10, h10, X10, e10, W10, st10⟩ := putFN X9 hx hZ hown (hw _ (List.mem_of_getElem? (i := 30) rfl)) Via.refl e9 Fc_6 EE_6 (Or.inr ⟨(hw _ (List.mem_of_getElem? (i := 31) rfl)), rfl, hnm⟩) (hw _ (List.mem_of_getElem? (i := 6) rfl)) (ty := .byte) (v' := (.int (nar .byte (0 : Int32)))) (by decide) rfl (fits_nar_byte _) (g := (mkF m 23 #[rv a, rv sr, iv (0 : Int32), iv (0 : Int32), .val .null, .unset] [(.int (0 : Int32)), (.ref a)])) rfl rfl (hb hby own_d3_23)
  refine own_st st10 ?_
  have Z10 : n0 ≤ h10.size := by rw [Wr.size W10]; exact Z6
  have kk10 : 0 ≤ h10.size := by rw [Wr.size W10]; exact kk6
  have N10 := Fr.snoc X10 N6 g_a
  show own_Go p e below _ T10 (mkF m 26 #[rv a, rv sr, iv (0 : Int32), iv (0 : Int32), .val .null, .unset] [])
  have KK10 := Keep.of_wr W10
  have Fv_10 := Fv_6.other W10 (Or.inr (slot_ne (Or.inr (hw _ (List.mem_of_getElem? (i := 33) rfl))) (Or.inr (hw _ (List.mem_of_getElem? (i := 31) rfl))) (by decide) (t := (.array .byte)) (t' := .byte) (by decide) (by decide)))
  have EE_10 := EE_6.keep KK10
  have EL_10 := EL_6.keep KK10
  have CL_10 := CL_6.keep KK10 (own_ninS nla nin0)
  have VL_10 := VL_6.keep KK10 (own_ninS nla nin0)
  have AB_10 := AB_6.keep KK10 (own_ninS nba nin0)
  have Fc_10 := Fc_6.same W10
  have KA10 : Keep h0 h10 [a] := KA6.wr W10 (Or.inl (List.mem_of_getElem? (i := 0) rfl))
  have FC : Fld Z h10 a "java/lang/String" "coder" "B" (.int 0) := Fc_10
  exact own_retVJ (s := s) (vm1 := s.vm) X10 hx ((State.WarmedH.refl s).since 0) kk10 Bd.notSynchronized Bd.returns (hb hby own_d3_26) (by decide) (by decide) e10 ⟨rfl, N10, KA10, EE_10, FC, Fv_10, AB_10⟩
theorem own_efsi_e2 (m : MethodId) (a : Nat) (sr : Nat) : entryFrame m #[(.ref a), (.ref sr)] 2 = mkF m 0 #[rv a, rv sr] [] := by first | (simp [entryFrame, mkF, argsToLocals, Value.category]; done) | rfl
set_option maxRecDepth 65536 in
set_option maxHeartbeats 40000000 in
theorem own_rmsi_e2 (l : Launch) (Z : State) (a0 : Array Value) (hw : ∀ d ∈ tables_1, d.before a0 Z = true) (a : Nat) (sr : Nat) (lt bl : Nat) (ff : Nat → Int32) (h0 : Heap) (n0 : Nat) (Z0 : n0 ≤ h0.size) (EE : Exa Z h0 a "java/lang/String") (Fv : Fld Z h0 a "java/lang/String" "value" "[B" .null) (Fc : Fld Z h0 a "java/lang/String" "coder" "B" (.int (0 : Int32))) (g_a : n0 ≤ a) (EL : Exa Z h0 lt "java/lang/String") (CL : Fld Z h0 lt "java/lang/String" "coder" "B" (.int 0)) (VL : Fld Z h0 lt "java/lang/String" "value" "[B" (.ref bl)) (AB : own_AI Z h0 bl .byte 0 (fun _ => 0)) (A : own_AI Z h0 sr .char 0 ff) :
    own_CtJ l Z (⟨"java/lang/String", "<init>", "([C)V"⟩ : MethodName) jdk_42_method_3_code 2 none ({ frames := 2, cells := 0, slots := 0, locals := 29 } : Room) #[(.ref a), (.ref sr)] h0 (fun vm => Lit (Z.setVm vm) "java/lang/String" 7 lt) (fun v h vm L => v = none ∧ Fr n0 L ∧ Keep h0 h [a] ∧ Exa Z h a "java/lang/String" ∧ Fld Z h a "java/lang/String" "coder" "B" (.int 0) ∧ Fld Z h a "java/lang/String" "value" "[B" (.ref bl) ∧ own_AI Z h bl .byte 0 (fun _ => 0)) := by
  refine own_bodyJ (y := (⟨"java/lang/String", "<init>", "([C)V"⟩ : MethodName)) (Q := fun v h vm L => v = none ∧ Fr n0 L ∧ Keep h0 h [a] ∧ Exa Z h a "java/lang/String" ∧ Fld Z h a "java/lang/String" "coder" "B" (.int 0) ∧ Fld Z h a "java/lang/String" "value" "[B" (.ref bl) ∧ own_AI Z h bl .byte 0 (fun _ => 0)) (J := fun vm => Lit (Z.setVm vm) "java/lang/String" 7 lt) (plainFor_of_name own_pn1) ?_
  intro p e s m below meth c s₁ Bd hml0 hZ e0 hs0 hJ
  have hx := Bd.exec
  have hby := Bd.bytes
  have hml : c.maxLocals = 2 := hml0
  have hown : s.vm.findClass "java/lang/String" = some m.cls := findClass_of_methodNamed Bd.named
  have hnm := (name_of_methodNamed Bd.named Bd.method).1
  have X0 : Stand p l e ({ frames := 2, cells := 0, slots := 0, locals := 29 } : Room) s m #[(.ref a), (.ref sr)] below meth c s₁ [] 0 0 := Stand.of_body Bd
  have N0 := Fr.nil n0
  rw [own_efsi_e2]
  have sg1 : own_V p e below s₁ (mkF m 6 #[rv a, rv sr] [.null, (.int (0 : Int32)), (.int (0 : Int32)), (.ref sr), (.ref a)]) (mkF m 0 #[rv a, rv sr] []) := by
    intro t kt
    refine XS.aloadN X0.here hx rfl (hb hby own_d2_0) rfl rfl ?_
    show own_S p e below s₁ m 1 #[rv a, rv sr] [(.ref a)] _
    refine XS.aloadN X0.here hx rfl (hb hby own_d2_1) rfl rfl ?_
    show own_S p e below s₁ m 2 #[rv a, rv sr] [(.ref sr), (.ref a)] _
    refine XS.iconst X0.here hx rfl (hb hby own_d2_2) ?_
    show own_S p e below s₁ m 3 #[rv a, rv sr] [(.int (0 : Int32)), (.ref sr), (.ref a)] _
    refine XS.aloadN X0.here hx rfl (hb hby own_d2_3) rfl rfl ?_
    show own_S p e below s₁ m 4 #[rv a, rv sr] [(.ref sr), (.int (0 : Int32)), (.ref sr), (.ref a)] _
    refine own_len (z := (0 : Int32)) X0 hx hZ e0 A (by decide) (g := (mkF m 4 #[rv a, rv sr] [(.ref sr), (.int (0 : Int32)), (.ref sr), (.ref a)])) rfl rfl (hb hby own_d2_4) _ ?_
    show own_S p e below s₁ m 5 #[rv a, rv sr] [(.int (0 : Int32)), (.int (0 : Int32)), (.ref sr), (.ref a)] _
    refine XS.aconstNull X0.here hx rfl (hb hby own_d2_5) ?_
    show own_S p e below s₁ m 6 #[rv a, rv sr] [.null, (.int (0 : Int32)), (.int (0 : Int32)), (.ref sr), (.ref a)] _
    exact kt
  refine own_st sg1 ?_
  obtain ⟨_, T2, L2, X2, I2, hZ, hown, hQ2, st2⟩ := own_callIJ (y := (⟨"java/lang/String", "<init>", "([CIILjava/lang/Void;)V"⟩ : MethodName)) (a := a) (s := s) (vm0 := s.vm) X0 ((State.WarmedH.refl s).since 0) (Nat.zero_le _) hx hZ hown rfl (hw _ (List.mem_of_getElem? (i := 11) rfl)) (hw _ (List.mem_of_getElem? (i := 12) rfl)) (hw _ (List.mem_of_getElem? (i := 7) rfl)) (hw _ (List.mem_of_getElem? (i := 14) rfl)) (by decide) (own_rmsv_e2 l Z a0 hw a sr lt bl h0 n0 Z0 EE Fv Fc g_a EL CL VL AB) e0 (g := (mkF m 6 #[rv a, rv sr] [.null, (.int (0 : Int32)), (.int (0 : Int32)), (.ref sr), (.ref a)])) rfl (by rw [hml]; rfl) (argsL := [(.ref sr), (.int (0 : Int32)), (.int (0 : Int32)), .null]) (rest := []) (lenOf own_pd3 rfl) rfl (W := 0) (by show 2 * 0 + _ ≤ _; exact Nat.le_of_eq rfl) (hb hby own_d2_6) (by decide) (by decide) (by decide) (by decide) (fun vm1 hv => own_lit_warm (s := s) (vm0 := s.vm) hJ hv)
  obtain ⟨rfl, Nq2, R2⟩ := hQ2
  refine own_st st2 ?_
  have Z2 : n0 ≤ T2.heap.size := Nat.le_trans Z0 R2.1.1
  have kk2 : 0 ≤ T2.heap.size := Nat.le_trans (Nat.zero_le _) R2.1.1
  have N2 := Fr.app N0 Nq2
  show own_Go p e below _ T2 (mkF m 9 #[rv a, rv sr] [])
  exact own_retVJ (s := s) (vm1 := T2.vm) X2 hx I2 (Nat.le_refl _) Bd.notSynchronized Bd.returns (hb hby own_d2_9) (by decide) (by decide) rfl ⟨rfl, N2, R2⟩
theorem own_d8_0 : decode method_3_code 0 = .ok (.iload_n 0, 1) := by decide +kernel
theorem own_d8_1 : decode method_3_code 1 = .ok (.ifCond .eq 14, 3) := by decide +kernel
theorem own_d8_4 : decode method_3_code 4 = .ok (.new 7, 3) := by decide +kernel
theorem own_d8_7 : decode method_3_code 7 = .ok (.dup, 1) := by decide +kernel
theorem own_d8_8 : decode method_3_code 8 = .ok (.iconst 0, 1) := by decide +kernel
theorem own_d8_9 : decode method_3_code 9 = .ok (.newarray .char, 2) := by decide +kernel
theorem own_d8_11 : decode method_3_code 11 = .ok (.invokespecial 9, 3) := by decide +kernel
theorem own_d8_14 : decode method_3_code 14 = .ok (.areturn, 1) := by decide +kernel
theorem own_d8_15 : decode method_3_code 15 = .ok (.iload_n 1, 1) := by decide +kernel
theorem own_d8_16 : decode method_3_code 16 = .ok (.invokestatic 12, 3) := by decide +kernel
theorem own_d8_19 : decode method_3_code 19 = .ok (.areturn, 1) := by decide +kernel
theorem own_pd14 : parseMethodDescriptor "(I)Ljava/lang/String;" = some ⟨[.int], some (.object "java/lang/String")⟩ := by decide +kernel
theorem own_efzt_n (m : MethodId) (y : Int32) : entryFrame m #[(.int (0 : Int32)), (.int y)] 2 = mkF m 0 #[iv (0 : Int32), iv y] [] := by first | (simp [entryFrame, mkF, argsToLocals, Value.category]; done) | rfl
set_option maxRecDepth 65536 in
set_option maxHeartbeats 40000000 in
theorem own_rmzt_n (l : Launch) (Z : State) (a0 : Array Value) (hw : ∀ d ∈ tables_1, d.before a0 Z = true) (y : Int32) (cc : Int32) (h0 : Heap) (n0 : Nat) (Z0 : n0 ≤ h0.size) (SC : Sta Z h0 "java/lang/String" "COMPACT_STRINGS" "Z" (.int cc)) (hcc : ¬ cc = 0) :
    own_Ct l Z (⟨"com/example/coverfold/coverfold/UsageSharesTextsOfKindPinLaw", "zoneText", "(ZI)Ljava/lang/String;"⟩ : MethodName) method_3_code 2 (some (.object "java/lang/String")) ({ frames := 5, cells := 3, slots := 6, locals := 79 } : Room) #[(.int (0 : Int32)), (.int y)] h0 (fun v h L => ∃ a b : Nat, v = some (.ref a) ∧ Fr n0 L ∧ Keep h0 h [] ∧ h0.size ≤ a ∧ h0.size ≤ b ∧ own_Str Z h a b 1 (fun _ => own_txc y)) := by
  refine own_body (y := (⟨"com/example/coverfold/coverfold/UsageSharesTextsOfKindPinLaw", "zoneText", "(ZI)Ljava/lang/String;"⟩ : MethodName)) (Q := fun v h L => ∃ a b : Nat, v = some (.ref a) ∧ Fr n0 L ∧ Keep h0 h [] ∧ h0.size ≤ a ∧ h0.size ≤ b ∧ own_Str Z h a b 1 (fun _ => own_txc y)) (plainFor_of_name own_pn2) ?_
  intro p e s m below meth c s₁ Bd hml0 hZ e0
  have hx := Bd.exec
  have hby := Bd.bytes
  have hml : c.maxLocals = 2 := hml0
  have hown : s.vm.findClass "com/example/coverfold/coverfold/UsageSharesTextsOfKindPinLaw" = some m.cls := findClass_of_methodNamed Bd.named
  have hnm := (name_of_methodNamed Bd.named Bd.method).1
  have X0 : Stand p l e ({ frames := 5, cells := 3, slots := 6, locals := 79 } : Room) s m #[(.int (0 : Int32)), (.int y)] below meth c s₁ [] 0 0 := Stand.of_body Bd
  have N0 := Fr.nil n0
  rw [own_efzt_n]
  have sg1 : own_V p e below s₁ (mkF m 16 #[iv (0 : Int32), iv y] [(.int y)]) (mkF m 0 #[iv (0 : Int32), iv y] []) := by
    intro t kt
    refine XS.iloadN X0.here hx rfl (hb hby own_d8_0) rfl ?_
    show own_S p e below s₁ m 1 #[iv (0 : Int32), iv y] [(.int (0 : Int32))] _
    refine XS.ifYes X0.here hx rfl (pc0 := 1) (pc' := 15) rfl (hb hby own_d8_1) rfl ((if0 _ _).trans (teq (by decide : (0 : Int32) = (0 : Int32))).1) (by decide) (by decide) ?_
    show own_S p e below s₁ m 15 #[iv (0 : Int32), iv y] [] _
    refine XS.iloadN X0.here hx rfl (hb hby own_d8_15) rfl ?_
    show own_S p e below s₁ m 16 #[iv (0 : Int32), iv y] [(.int y)] _
    exact kt
  refine own_st sg1 ?_
  obtain ⟨_, T2, L2, X2, hQ2, st2⟩ := own_callS (y := (⟨"com/example/coverfold/coverfold/UsageSharesTextsOfKindPinLaw", "text", "(I)Ljava/lang/String;"⟩ : MethodName)) X0 hx hZ hown (hw _ (List.mem_of_getElem? (i := 0) rfl)) (hw _ (List.mem_of_getElem? (i := 1) rfl)) (hw _ (List.mem_of_getElem? (i := 2) rfl)) (hw _ (List.mem_of_getElem? (i := 3) rfl)) (by decide) (own_rmtx l Z a0 hw y cc h0 n0 Z0 SC hcc) e0 (g := (mkF m 16 #[iv (0 : Int32), iv y] [(.int y)])) rfl (by rw [hml]; rfl) (argsL := [(.int y)]) (rest := []) (lenOf own_pd14 rfl) rfl (W := 0) (by show 2 * 0 + _ ≤ _; exact Nat.le_of_eq rfl) (hb hby own_d8_16) (by decide) (by decide) (by decide) (by decide)
  obtain ⟨a2, b2, rfl, Nq2, K2, sa2, sb2, S2⟩ := hQ2
  refine own_st st2 ?_
  have Z2 : n0 ≤ T2.heap.size := Nat.le_trans Z0 K2.1
  have N2 := Fr.app N0 Nq2
  show own_Go p e below _ T2 (mkF m 19 #[iv (0 : Int32), iv y] [(.ref a2)])
  exact own_retR X2 hx Bd.notSynchronized Bd.returns rfl rfl (hb hby own_d8_19) (by decide) (by decide) rfl ⟨a2, b2, rfl, N2, K2, sa2, sb2, S2⟩
theorem own_efzt_e (m : MethodId) (y : Int32) : entryFrame m #[(.int (1 : Int32)), (.int y)] 2 = mkF m 0 #[iv (1 : Int32), iv y] [] := by first | (simp [entryFrame, mkF, argsToLocals, Value.category]; done) | rfl
set_option maxRecDepth 65536 in
set_option maxHeartbeats 40000000 in
theorem own_rmzt_e (l : Launch) (Z : State) (a0 : Array Value) (hw : ∀ d ∈ tables_1, d.before a0 Z = true) (y : Int32) (h0 : Heap) (n0 : Nat) (Z0 : n0 ≤ h0.size) (HK : ∀ (b : Nat) (cl : Cell), Z.heap[b]? = some cl → h0[b]? = some cl) (hh : Jvm.Lit.constHeld Z "java/lang/String" 7) (hcw : Jvm.Lit.compactW.before a0 Z = true) :
    own_CtJ l Z (⟨"com/example/coverfold/coverfold/UsageSharesTextsOfKindPinLaw", "zoneText", "(ZI)Ljava/lang/String;"⟩ : MethodName) method_3_code 2 (some (.object "java/lang/String")) ({ frames := 3, cells := 4, slots := 8, locals := 43 } : Room) #[(.int (1 : Int32)), (.int y)] h0 (fun vm => vm.interned = Z.vm.interned) (fun v h vm L => ∃ a b lt : Nat, v = some (.ref a) ∧ Fr n0 L ∧ Keep h0 h [] ∧ h0.size ≤ a ∧ own_Str Z h a b 0 (fun _ => 0) ∧ Lit (Z.setVm vm) "java/lang/String" 7 lt ∧ own_Str Z h lt b 0 (fun _ => 0)) := by
  refine own_bodyJ (y := (⟨"com/example/coverfold/coverfold/UsageSharesTextsOfKindPinLaw", "zoneText", "(ZI)Ljava/lang/String;"⟩ : MethodName)) (Q := fun v h vm L => ∃ a b lt : Nat, v = some (.ref a) ∧ Fr n0 L ∧ Keep h0 h [] ∧ h0.size ≤ a ∧ own_Str Z h a b 0 (fun _ => 0) ∧ Lit (Z.setVm vm) "java/lang/String" 7 lt ∧ own_Str Z h lt b 0 (fun _ => 0)) (J := fun vm => vm.interned = Z.vm.interned) (plainFor_of_name own_pn2) ?_
  intro p e s m below meth c s₁ Bd hml0 hZ e0 hs0 hJ
  have hx := Bd.exec
  have hby := Bd.bytes
  have hml : c.maxLocals = 2 := hml0
  have hown : s.vm.findClass "com/example/coverfold/coverfold/UsageSharesTextsOfKindPinLaw" = some m.cls := findClass_of_methodNamed Bd.named
  have hnm := (name_of_methodNamed Bd.named Bd.method).1
  have X0 : Stand p l e ({ frames := 3, cells := 4, slots := 8, locals := 43 } : Room) s m #[(.int (1 : Int32)), (.int y)] below meth c s₁ [] 0 0 := Stand.of_body Bd
  have N0 := Fr.nil n0
  rw [own_efzt_e]
  have sg1 : own_V p e below s₁ (mkF m 4 #[iv (1 : Int32), iv y] []) (mkF m 0 #[iv (1 : Int32), iv y] []) := by
    intro t kt
    refine XS.iloadN X0.here hx rfl (hb hby own_d8_0) rfl ?_
    show own_S p e below s₁ m 1 #[iv (1 : Int32), iv y] [(.int (1 : Int32))] _
    refine XS.ifNo X0.here hx rfl (hb hby own_d8_1) rfl ((if0 _ _).trans (feq (by decide : ¬ (1 : Int32) = (0 : Int32))).1) ?_
    show own_S p e below s₁ m 4 #[iv (1 : Int32), iv y] [] _
    exact kt
  refine own_st sg1 ?_
  obtain ⟨T2, h2, X2, e2, E2, A2, D2, -, st2⟩ := newO X0 hx hZ hown (hw _ (List.mem_of_getElem? (i := 5) rfl)) (hw _ (List.mem_of_getElem? (i := 6) rfl)) (hw _ (List.mem_of_getElem? (i := 7) rfl)) e0 (g := (mkF m 4 #[iv (1 : Int32), iv y] [])) rfl (hb hby own_d8_4) (by decide) (by decide)
  obtain ⟨a2, g2⟩ : ∃ z, z = h0.size := ⟨_, rfl⟩
  rw [← g2] at A2 D2 st2
  refine own_st st2 ?_
  have g_a2 : n0 ≤ a2 := by rw [g2]; exact Z0
  have Z2 : n0 ≤ h2.size := Nat.le_trans Z0 E2.1
  have kk2 : 0 ≤ h2.size := Nat.le_trans (Nat.zero_le _) E2.1
  show own_Go p e below _ T2 (mkF m 7 #[iv (1 : Int32), iv y] [(.ref a2)])
  have sza : h0.size ≤ a2 := Nat.le_of_eq g2.symm
  have K2 : Keep h0 h2 [] := (Keep.refl h0 []).ext E2
  have Gvalue : Fld Z h2 a2 "java/lang/String" "value" "[B" .null := D2 (Or.inr (hw _ (List.mem_of_getElem? (i := 33) rfl))) (ty := (.array .byte)) (by decide)
  have Gcoder : Fld Z h2 a2 "java/lang/String" "coder" "B" (.int (0 : Int32)) := D2 (Or.inr (hw _ (List.mem_of_getElem? (i := 31) rfl))) (ty := .byte) (by decide)
  have sg3 : own_V p e below T2 (mkF m 9 #[iv (1 : Int32), iv y] [(.int (0 : Int32)), (.ref a2), (.ref a2)]) (mkF m 7 #[iv (1 : Int32), iv y] [(.ref a2)]) := by
    intro t kt
    refine XS.dup X2.here hx rfl (hb hby own_d8_7) rfl rfl ?_
    show own_S p e below T2 m 8 #[iv (1 : Int32), iv y] [(.ref a2), (.ref a2)] _
    refine XS.iconst X2.here hx rfl (hb hby own_d8_8) ?_
    show own_S p e below T2 m 9 #[iv (1 : Int32), iv y] [(.int (0 : Int32)), (.ref a2), (.ref a2)] _
    exact kt
  refine own_st sg3 ?_
  obtain ⟨T4, h4, a4, g4, X4, e4, E4, A4, st4⟩ := own_newP (n := 0) X2 hx hZ (hw _ (List.mem_of_getElem? (i := 4) rfl)) e2 (by decide) rfl (g := (mkF m 9 #[iv (1 : Int32), iv y] [(.int (0 : Int32)), (.ref a2), (.ref a2)])) rfl rfl (hb hby own_d8_9) (cap := 0) (by decide) (by decide) (by decide) (by decide)
  refine own_st st4 ?_
  have g_a4 : n0 ≤ a4 := by rw [g4]; exact Z2
  have Z4 : n0 ≤ h4.size := Nat.le_trans Z2 E4.1
  have kk4 : 0 ≤ h4.size := Nat.le_trans kk2 E4.1
  have B4 : own_AI Z h4 a4 .char 0 (fun _ => 0) := A4
  show own_Go p e below _ T4 (mkF m 11 #[iv (1 : Int32), iv y] [(.ref a4), (.ref a2), (.ref a2)])
  have K4 : Keep h0 h4 [] := K2.ext E4
  obtain ⟨_, T5, L5, X5, I5, hZ, hown, hQ5, st5⟩ := own_callIJ (y := (⟨"java/lang/String", "<init>", "([C)V"⟩ : MethodName)) (a := a2) (s := s) (vm0 := s.vm) X4 ((State.WarmedH.refl s).since 0) kk4 hx hZ hown rfl (hw _ (List.mem_of_getElem? (i := 8) rfl)) (hw _ (List.mem_of_getElem? (i := 9) rfl)) (hw _ (List.mem_of_getElem? (i := 7) rfl)) (hw _ (List.mem_of_getElem? (i := 10) rfl)) (by decide) (own_rmsi_e l Z a0 hw a2 a4 _ h4 n0 Z4 (A2.ext E4) (Gvalue.ext E4) (Gcoder.ext E4) g_a2 (fun b cl q => K4.2.1 b cl (HK b cl q) nin0) hh hcw B4) e4 (g := (mkF m 11 #[iv (1 : Int32), iv y] [(.ref a4), (.ref a2), (.ref a2)])) rfl (by rw [hml]; rfl) (argsL := [(.ref a4)]) (rest := [(.ref a2)]) (lenOf own_pd4 rfl) rfl (W := 1) (by show 2 * 0 + _ ≤ _; exact Nat.le_of_eq rfl) (hb hby own_d8_11) (by decide) (by decide) (by decide) (by decide) (fun vm1 hv => hv.interned_eq.trans hJ)
  obtain ⟨rfl, Nq5, R5⟩ := hQ5
  refine own_st st5 ?_
  have Z5 : n0 ≤ T5.heap.size := Nat.le_trans Z4 R5.1.1
  have kk5 : 0 ≤ T5.heap.size := Nat.le_trans kk4 R5.1.1
  have N5 := Fr.app N0 Nq5
  show own_Go p e below _ T5 (mkF m 14 #[iv (1 : Int32), iv y] [(.ref a2)])
  obtain ⟨KR, ER, CR, bR, ltR, FV, AB, LT, EL, CL, VL⟩ := R5
  exact own_retRJ (s := s) (vm1 := T5.vm) X5 hx I5 (Nat.le_refl _) Bd.notSynchronized Bd.returns rfl rfl (hb hby own_d8_14) (by decide) (by decide) rfl ⟨a2, bR, ltR, rfl, N5, K4.trans KR (allS (Or.inr sza) all0), sza, ⟨ER, CR, FV, AB⟩, LT, ⟨EL, CL, VL, AB⟩⟩
theorem own_efzt_e2 (m : MethodId) (y : Int32) : entryFrame m #[(.int (1 : Int32)), (.int y)] 2 = mkF m 0 #[iv (1 : Int32), iv y] [] := by first | (simp [entryFrame, mkF, argsToLocals, Value.category]; done) | rfl
set_option maxRecDepth 65536 in
set_option maxHeartbeats 40000000 in
theorem own_rmzt_e2 (l : Launch) (Z : State) (a0 : Array Value) (hw : ∀ d ∈ tables_1, d.before a0 Z = true) (y : Int32) (lt bl : Nat) (h0 : Heap) (n0 : Nat) (Z0 : n0 ≤ h0.size) (SL : own_Str Z h0 lt bl 0 (fun _ => 0)) :
    own_CtJ l Z (⟨"com/example/coverfold/coverfold/UsageSharesTextsOfKindPinLaw", "zoneText", "(ZI)Ljava/lang/String;"⟩ : MethodName) method_3_code 2 (some (.object "java/lang/String")) ({ frames := 3, cells := 2, slots := 4, locals := 43 } : Room) #[(.int (1 : Int32)), (.int y)] h0 (fun vm => Lit (Z.setVm vm) "java/lang/String" 7 lt) (fun v h vm L => ∃ a : Nat, v = some (.ref a) ∧ Fr n0 L ∧ Keep h0 h [] ∧ h0.size ≤ a ∧ own_Str Z h a bl 0 (fun _ => 0)) := by
  refine own_bodyJ (y := (⟨"com/example/coverfold/coverfold/UsageSharesTextsOfKindPinLaw", "zoneText", "(ZI)Ljava/lang/String;"⟩ : MethodName)) (Q := fun v h vm L => ∃ a : Nat, v = some (.ref a) ∧ Fr n0 L ∧ Keep h0 h [] ∧ h0.size ≤ a ∧ own_Str Z h a bl 0 (fun _ => 0)) (J := fun vm => Lit (Z.setVm vm) "java/lang/String" 7 lt) (plainFor_of_name own_pn2) ?_
  intro p e s m below meth c s₁ Bd hml0 hZ e0 hs0 hJ
  have hx := Bd.exec
  have hby := Bd.bytes
  have hml : c.maxLocals = 2 := hml0
  have hown : s.vm.findClass "com/example/coverfold/coverfold/UsageSharesTextsOfKindPinLaw" = some m.cls := findClass_of_methodNamed Bd.named
  have hnm := (name_of_methodNamed Bd.named Bd.method).1
  have X0 : Stand p l e ({ frames := 3, cells := 2, slots := 4, locals := 43 } : Room) s m #[(.int (1 : Int32)), (.int y)] below meth c s₁ [] 0 0 := Stand.of_body Bd
  have N0 := Fr.nil n0
  rw [own_efzt_e2]
  have sg1 : own_V p e below s₁ (mkF m 4 #[iv (1 : Int32), iv y] []) (mkF m 0 #[iv (1 : Int32), iv y] []) := by
    intro t kt
    refine XS.iloadN X0.here hx rfl (hb hby own_d8_0) rfl ?_
    show own_S p e below s₁ m 1 #[iv (1 : Int32), iv y] [(.int (1 : Int32))] _
    refine XS.ifNo X0.here hx rfl (hb hby own_d8_1) rfl ((if0 _ _).trans (feq (by decide : ¬ (1 : Int32) = (0 : Int32))).1) ?_
    show own_S p e below s₁ m 4 #[iv (1 : Int32), iv y] [] _
    exact kt
  refine own_st sg1 ?_
  obtain ⟨T2, h2, X2, e2, E2, A2, D2, -, st2⟩ := newO X0 hx hZ hown (hw _ (List.mem_of_getElem? (i := 5) rfl)) (hw _ (List.mem_of_getElem? (i := 6) rfl)) (hw _ (List.mem_of_getElem? (i := 7) rfl)) e0 (g := (mkF m 4 #[iv (1 : Int32), iv y] [])) rfl (hb hby own_d8_4) (by decide) (by decide)
  obtain ⟨a2, g2⟩ : ∃ z, z = h0.size := ⟨_, rfl⟩
  rw [← g2] at A2 D2 st2
  refine own_st st2 ?_
  have g_a2 : n0 ≤ a2 := by rw [g2]; exact Z0
  have Z2 : n0 ≤ h2.size := Nat.le_trans Z0 E2.1
  have kk2 : 0 ≤ h2.size := Nat.le_trans (Nat.zero_le _) E2.1
  show own_Go p e below _ T2 (mkF m 7 #[iv (1 : Int32), iv y] [(.ref a2)])
  have sza : h0.size ≤ a2 := Nat.le_of_eq g2.symm
  have K2 : Keep h0 h2 [] := (Keep.refl h0 []).ext E2
  have Gvalue : Fld Z h2 a2 "java/lang/String" "value" "[B" .null := D2 (Or.inr (hw _ (List.mem_of_getElem? (i := 33) rfl))) (ty := (.array .byte)) (by decide)
  have Gcoder : Fld Z h2 a2 "java/lang/String" "coder" "B" (.int (0 : Int32)) := D2 (Or.inr (hw _ (List.mem_of_getElem? (i := 31) rfl))) (ty := .byte) (by decide)
  have sg3 : own_V p e below T2 (mkF m 9 #[iv (1 : Int32), iv y] [(.int (0 : Int32)), (.ref a2), (.ref a2)]) (mkF m 7 #[iv (1 : Int32), iv y] [(.ref a2)]) := by
    intro t kt
    refine XS.dup X2.here hx rfl (hb hby own_d8_7) rfl rfl ?_
    show own_S p e below T2 m 8 #[iv (1 : Int32), iv y] [(.ref a2), (.ref a2)] _
    refine XS.iconst X2.here hx rfl (hb hby own_d8_8) ?_
    show own_S p e below T2 m 9 #[iv (1 : Int32), iv y] [(.int (0 : Int32)), (.ref a2), (.ref a2)] _
    exact kt
  refine own_st sg3 ?_
  obtain ⟨T4, h4, a4, g4, X4, e4, E4, A4, st4⟩ := own_newP (n := 0) X2 hx hZ (hw _ (List.mem_of_getElem? (i := 4) rfl)) e2 (by decide) rfl (g := (mkF m 9 #[iv (1 : Int32), iv y] [(.int (0 : Int32)), (.ref a2), (.ref a2)])) rfl rfl (hb hby own_d8_9) (cap := 0) (by decide) (by decide) (by decide) (by decide)
  refine own_st st4 ?_
  have g_a4 : n0 ≤ a4 := by rw [g4]; exact Z2
  have Z4 : n0 ≤ h4.size := Nat.le_trans Z2 E4.1
  have kk4 : 0 ≤ h4.size := Nat.le_trans kk2 E4.1
  have B4 : own_AI Z h4 a4 .char 0 (fun _ => 0) := A4
  show own_Go p e below _ T4 (mkF m 11 #[iv (1 : Int32), iv y] [(.ref a4), (.ref a2), (.ref a2)])
  have K4 : Keep h0 h4 [] := K2.ext E4
  have SLm := SL.keep K4 nin0 nin0
  obtain ⟨_, T5, L5, X5, I5, hZ, hown, hQ5, st5⟩ := own_callIJ (y := (⟨"java/lang/String", "<init>", "([C)V"⟩ : MethodName)) (a := a2) (s := s) (vm0 := s.vm) X4 ((State.WarmedH.refl s).since 0) kk4 hx hZ hown rfl (hw _ (List.mem_of_getElem? (i := 8) rfl)) (hw _ (List.mem_of_getElem? (i := 9) rfl)) (hw _ (List.mem_of_getElem? (i := 7) rfl)) (hw _ (List.mem_of_getElem? (i := 10) rfl)) (by decide) (own_rmsi_e2 l Z a0 hw a2 a4 lt bl _ h4 n0 Z4 (A2.ext E4) (Gvalue.ext E4) (Gcoder.ext E4) g_a2 SLm.1 SLm.2.1 SLm.2.2.1 SLm.2.2.2 B4) e4 (g := (mkF m 11 #[iv (1 : Int32), iv y] [(.ref a4), (.ref a2), (.ref a2)])) rfl (by rw [hml]; rfl) (argsL := [(.ref a4)]) (rest := [(.ref a2)]) (lenOf own_pd4 rfl) rfl (W := 1) (by show 2 * 0 + _ ≤ _; exact Nat.le_of_eq rfl) (hb hby own_d8_11) (by decide) (by decide) (by decide) (by decide) (fun vm1 hv => own_lit_warm (s := s) (vm0 := s.vm) hJ hv)
  obtain ⟨rfl, Nq5, R5⟩ := hQ5
  refine own_st st5 ?_
  have Z5 : n0 ≤ T5.heap.size := Nat.le_trans Z4 R5.1.1
  have kk5 : 0 ≤ T5.heap.size := Nat.le_trans kk4 R5.1.1
  have N5 := Fr.app N0 Nq5
  show own_Go p e below _ T5 (mkF m 14 #[iv (1 : Int32), iv y] [(.ref a2)])
  exact own_retRJ (s := s) (vm1 := T5.vm) X5 hx I5 (Nat.le_refl _) Bd.notSynchronized Bd.returns rfl rfl (hb hby own_d8_14) (by decide) (by decide) rfl ⟨a2, rfl, N5, K4.trans R5.1 (allS (Or.inr sza) all0), sza, R5.2⟩
theorem own_six (x : Int32) : (x &&& (63 : Int32)) = (63 : Int32) ↔ ¬ (x &&& (1 : Int32)) = (0 : Int32) ∧ ¬ (x &&& (2 : Int32)) = (0 : Int32) ∧ ¬ (x &&& (4 : Int32)) = (0 : Int32) ∧ ¬ (x &&& (8 : Int32)) = (0 : Int32) ∧ ¬ (x &&& (16 : Int32)) = (0 : Int32) ∧ ¬ (x &&& (32 : Int32)) = (0 : Int32) := by
  have a : ∀ k : Int32, ((63 : Int32) &&& k) = k → (x &&& k) = ((x &&& (63 : Int32)) &&& k) := fun k h => by rw [Int32.and_assoc, h]
  rw [a 1 (by decide), a 2 (by decide), a 4 (by decide), a 8 (by decide), a 16 (by decide), a 32 (by decide)]
  have m : (x &&& (63 : Int32)).toInt = x.toInt % ((2 ^ 6 : Nat) : Int) := c_mask x 63 6 (by decide) (by decide)
  have m' : (x &&& (63 : Int32)).toInt = x.toInt % 64 := m
  obtain ⟨y, hy⟩ : ∃ y : Int32, y = (x &&& (63 : Int32)) := ⟨_, rfl⟩
  rw [← hy] at m' ⊢
  obtain ⟨k, hk, hk6⟩ : ∃ k : Nat, y.toInt = (k : Int) ∧ k < 64 := ⟨y.toInt.toNat, by omega, by omega⟩
  have hyk : y = Int32.ofInt (k : Int) := by rw [← hk]; exact (Int32.ofInt_toInt y).symm
  have D : ∀ k : Fin 64, (Int32.ofInt ((k.1 : Nat) : Int) = (63 : Int32) ↔ ¬ (Int32.ofInt ((k.1 : Nat) : Int) &&& (1 : Int32)) = (0 : Int32) ∧ ¬ (Int32.ofInt ((k.1 : Nat) : Int) &&& (2 : Int32)) = (0 : Int32) ∧ ¬ (Int32.ofInt ((k.1 : Nat) : Int) &&& (4 : Int32)) = (0 : Int32) ∧ ¬ (Int32.ofInt ((k.1 : Nat) : Int) &&& (8 : Int32)) = (0 : Int32) ∧ ¬ (Int32.ofInt ((k.1 : Nat) : Int) &&& (16 : Int32)) = (0 : Int32) ∧ ¬ (Int32.ofInt ((k.1 : Nat) : Int) &&& (32 : Int32)) = (0 : Int32)) := by decide +kernel
  rw [hyk]; exact D ⟨k, hk6⟩
theorem own_min_lt (x : Int64) : own_min x (9223372036854775806 : Int64) < own_min x (9223372036854775806 : Int64) + (1 : Int64) := by
  have e : (9223372036854775806 : Int64).toInt = 9223372036854775806 := by decide
  have e1 : (1 : Int64).toInt = 1 := by decide
  obtain ⟨y, hy⟩ : ∃ y : Int64, y = own_min x (9223372036854775806 : Int64) := ⟨_, rfl⟩
  have h : y.toInt ≤ 9223372036854775806 := by
    rw [hy]; unfold own_min
    by_cases z : (9223372036854775806 : Int64) < x
    · rw [if_pos z, e]; exact Int.le_refl _
    · rw [if_neg z]; rw [Int64.lt_iff_toInt_lt, e] at z; omega
  rw [← hy, Int64.lt_iff_toInt_lt]
  have c := c_ladd y 1
  rw [e1] at c
  have r1 := rng64 y
  have r2 := rng64 (y + 1)
  omega
theorem own_pd15 : parseMethodDescriptor "(ZI)Ljava/lang/String;" = some ⟨[.boolean, .int], some (.object "java/lang/String")⟩ := by decide +kernel
theorem own_pd16 : parseMethodDescriptor "(JJ)J" = some ⟨[.long, .long], some .long⟩ := by decide +kernel
theorem own_pd17 : parseMethodDescriptor "(Ljava/lang/String;Ljava/lang/String;Ljava/lang/String;Ljava/lang/String;Ljava/lang/String;Ljava/lang/String;Ljava/lang/String;JJ)V" = some ⟨[(.object "java/lang/String"), (.object "java/lang/String"), (.object "java/lang/String"), (.object "java/lang/String"), (.object "java/lang/String"), (.object "java/lang/String"), (.object "java/lang/String"), .long, .long], none⟩ := by decide +kernel
theorem own_l6 {xp al : Int32} (hal : al = (if (xp &&& (63 : Int32)) = (63 : Int32) then (1 : Int32) else (0 : Int32))) {p1 p2 p3 p4 p5 p6 q1 q2 q3 q4 q5 q6 : Nat} (h1 : (xp &&& (1 : Int32)) = (0 : Int32) ↔ ¬ p1 = q1) (h2 : (xp &&& (2 : Int32)) = (0 : Int32) ↔ ¬ p2 = q2) (h3 : (xp &&& (4 : Int32)) = (0 : Int32) ↔ ¬ p3 = q3) (h4 : (xp &&& (8 : Int32)) = (0 : Int32) ↔ ¬ p4 = q4) (h5 : (xp &&& (16 : Int32)) = (0 : Int32) ↔ ¬ p5 = q5) (h6 : (xp &&& (32 : Int32)) = (0 : Int32) ↔ ¬ p6 = q6) : (if p1 = q1 ∧ p2 = q2 ∧ p3 = q3 ∧ p4 = q4 ∧ p5 = q5 ∧ p6 = q6 then (1 : Int32) else (0 : Int32)) = al := by
  have S := own_six xp
  rw [hal]
  by_cases z : (xp &&& (63 : Int32)) = (63 : Int32)
  · have w := S.mp z
    rw [if_pos z, if_pos ⟨Decidable.not_not.mp (fun k => w.1 (h1.mpr k)), Decidable.not_not.mp (fun k => w.2.1 (h2.mpr k)), Decidable.not_not.mp (fun k => w.2.2.1 (h3.mpr k)), Decidable.not_not.mp (fun k => w.2.2.2.1 (h4.mpr k)), Decidable.not_not.mp (fun k => w.2.2.2.2.1 (h5.mpr k)), Decidable.not_not.mp (fun k => w.2.2.2.2.2 (h6.mpr k))⟩]
  · rw [if_neg z, if_neg (fun k => z (S.mpr ⟨fun y => h1.mp y k.1, fun y => h2.mp y k.2.1, fun y => h3.mp y k.2.2.1, fun y => h4.mp y k.2.2.2.1, fun y => h5.mp y k.2.2.2.2.1, fun y => h6.mp y k.2.2.2.2.2⟩))]
theorem own_l6' {xp al : Int32} (hal : al = (if (xp &&& (63 : Int32)) = (63 : Int32) then (1 : Int32) else (0 : Int32))) {p1 p2 p3 p4 p5 p6 q1 q2 q3 q4 q5 q6 : Nat} (h1 : (xp &&& (1 : Int32)) = (0 : Int32) ↔ ¬ p1 = q1) (h2 : (xp &&& (2 : Int32)) = (0 : Int32) ↔ ¬ p2 = q2) (h3 : (xp &&& (4 : Int32)) = (0 : Int32) ↔ ¬ p3 = q3) (h4 : (xp &&& (8 : Int32)) = (0 : Int32) ↔ ¬ p4 = q4) (h5 : (xp &&& (16 : Int32)) = (0 : Int32) ↔ ¬ p5 = q5) (h6 : (xp &&& (32 : Int32)) = (0 : Int32) ↔ ¬ p6 = q6) : (if q1 = p1 ∧ q2 = p2 ∧ q3 = p3 ∧ q4 = p4 ∧ q5 = p5 ∧ q6 = p6 then (1 : Int32) else (0 : Int32)) = al := own_l6 hal ⟨fun z k => h1.mp z k.symm, fun z => h1.mpr fun k => z k.symm⟩ ⟨fun z k => h2.mp z k.symm, fun z => h2.mpr fun k => z k.symm⟩ ⟨fun z k => h3.mp z k.symm, fun z => h3.mpr fun k => z k.symm⟩ ⟨fun z k => h4.mp z k.symm, fun z => h4.mpr fun k => z k.symm⟩ ⟨fun z k => h5.mp z k.symm, fun z => h5.mpr fun k => z k.symm⟩ ⟨fun z k => h6.mp z k.symm, fun z => h6.mpr fun k => z k.symm⟩
theorem own_pd18 : parseMethodDescriptor "(Lcom/example/coverfold/coverfold/Usage;)Z" = some ⟨[(.object "com/example/coverfold/coverfold/Usage")], some .boolean⟩ := by decide +kernel
theorem own_eflaw (m : MethodId) (xp : Int32) (xq : Int32) (xs : Int64) (xu : Int64) : entryFrame m #[(.int xp), (.int xq), (.long xs), (.long xu)] maxLocals = mkF m 0 #[iv xp, iv xq, own_lv xs, .second, own_lv xu, .second, .unset, .unset, .unset, .unset, .unset, .unset, .unset, .unset, .unset, .unset, .unset, .unset, .unset, .unset, .unset, .unset, .unset, .unset, .unset, .unset, .unset, .unset, .unset, .unset, .unset, .unset] [] := by first | (simp [entryFrame, mkF, argsToLocals, Value.category, maxLocals]; done) | rfl
set_option maxRecDepth 65536 in
set_option maxHeartbeats 40000000 in
theorem own_rmlaw (l : Launch) (Z : State) (a0 : Array Value) (hw : ∀ d ∈ tables_1, d.before a0 Z = true) (xp : Int32) (xq : Int32) (xs : Int64) (xu : Int64) (cc : Int32) (h0 : Heap) (n0 : Nat) (Z0 : n0 ≤ h0.size) (SC : Sta Z h0 "java/lang/String" "COMPACT_STRINGS" "Z" (.int cc)) (hcc : ¬ cc = 0) (HZ : Z.heap = h0) (hh : Jvm.Lit.constHeld Z "java/lang/String" 7) (hcw : Jvm.Lit.compactW.before a0 Z = true) :
    MetFree l Jvm.Pilot.@@N@@.x (head1 (Jvm.Cond.code Jvm.Pilot.@@N@@.x code maxLocals ret :: tables_1) room_1) (fun a U => a = #[(.int xp), (.int xq), (.long xs), (.long xu)] ∧ Z.Warmed39 U.vm ∧ U.heap = h0 ∧ (fun vm => vm.interned = Z.vm.interned) U.vm) (fun _ _ _ _ _ => True) (fun _ U o U' => ∃ v L, o = .returned v ∧ (fun v h vm L => v = some (.int 1) ∧ Fr n0 L) v U'.heap U'.vm L ∧ ReturnedEndW U o U' L 44 104) := by
  refine own_bodyJ (y := Jvm.Pilot.@@N@@.x) (Q := fun v h vm L => v = some (.int 1) ∧ Fr n0 L) (J := fun vm => vm.interned = Z.vm.interned) (plainFor_of_name own_pn2) ?_
  intro p e s m below meth c s₁ Bd hml0 hZ e0 hs0 hJ
  have hx := Bd.exec
  have hby := Bd.bytes
  have hml : c.maxLocals = 32 := hml0
  have hown : s.vm.findClass "com/example/coverfold/coverfold/UsageSharesTextsOfKindPinLaw" = some m.cls := findClass_of_methodNamed Bd.named
  have hnm := (name_of_methodNamed Bd.named Bd.method).1
  have X0 : Stand p l e room_1 s m #[(.int xp), (.int xq), (.long xs), (.long xu)] below meth c s₁ [] 0 0 := Stand.of_body Bd
  have N0 := Fr.nil n0
  rw [own_eflaw]
  obtain ⟨ra, hra⟩ : ∃ z : Int32, z = (xq &&& (255 : Int32)) := ⟨_, rfl⟩
  obtain ⟨rg, hrg⟩ : ∃ z : Int32, z = (((xq.toUInt32 >>> ((8 : Int32) &&& 31).toUInt32).toInt32) &&& (255 : Int32)) := ⟨_, rfl⟩
  obtain ⟨ri, hri⟩ : ∃ z : Int32, z = (((xq.toUInt32 >>> ((16 : Int32) &&& 31).toUInt32).toInt32) &&& (255 : Int32)) := ⟨_, rfl⟩
  obtain ⟨rf, hrf⟩ : ∃ z : Int32, z = (((xq.toUInt32 >>> ((24 : Int32) &&& 31).toUInt32).toInt32) &&& (255 : Int32)) := ⟨_, rfl⟩
  have sg1 : own_V p e below s₁ (mkF m 37 #[iv xp, iv xq, own_lv xs, .second, own_lv xu, .second, iv ra, iv rg, iv ri, iv rf, .unset, .unset, .unset, .unset, .unset, .unset, .unset, .unset, .unset, .unset, .unset, .unset, .unset, .unset, .unset, .unset, .unset, .unset, .unset, .unset, .unset, .unset] []) (mkF m 0 #[iv xp, iv xq, own_lv xs, .second, own_lv xu, .second, .unset, .unset, .unset, .unset, .unset, .unset, .unset, .unset, .unset, .unset, .unset, .unset, .unset, .unset, .unset, .unset, .unset, .unset, .unset, .unset, .unset, .unset, .unset, .unset, .unset, .unset] []) := by
    intro t kt
    refine XS.iloadN X0.here hx rfl (hb hby at_0) rfl ?_
    show own_S p e below s₁ m 1 #[iv xp, iv xq, own_lv xs, .second, own_lv xu, .second, .unset, .unset, .unset, .unset, .unset, .unset, .unset, .unset, .unset, .unset, .unset, .unset, .unset, .unset, .unset, .unset, .unset, .unset, .unset, .unset, .unset, .unset, .unset, .unset, .unset, .unset] [(.int xq)] _
    refine XS.sipush X0.here hx rfl (hb hby at_1) ?_
    show own_S p e below s₁ m 4 #[iv xp, iv xq, own_lv xs, .second, own_lv xu, .second, .unset, .unset, .unset, .unset, .unset, .unset, .unset, .unset, .unset, .unset, .unset, .unset, .unset, .unset, .unset, .unset, .unset, .unset, .unset, .unset, .unset, .unset, .unset, .unset, .unset, .unset] [(.int (255 : Int32)), (.int xq)] _
    refine XS.iand X0.here hx rfl (hb hby at_4) rfl ?_
    show own_S p e below s₁ m 5 #[iv xp, iv xq, own_lv xs, .second, own_lv xu, .second, .unset, .unset, .unset, .unset, .unset, .unset, .unset, .unset, .unset, .unset, .unset, .unset, .unset, .unset, .unset, .unset, .unset, .unset, .unset, .unset, .unset, .unset, .unset, .unset, .unset, .unset] [(.int (xq &&& (255 : Int32)))] _
    refine XS.istore X0.here hx rfl (hb hby at_5) rfl (l' := #[iv xp, iv xq, own_lv xs, .second, own_lv xu, .second, iv (xq &&& (255 : Int32)), .unset, .unset, .unset, .unset, .unset, .unset, .unset, .unset, .unset, .unset, .unset, .unset, .unset, .unset, .unset, .unset, .unset, .unset, .unset, .unset, .unset, .unset, .unset, .unset, .unset]) rfl ?_
    show own_S p e below s₁ m 7 #[iv xp, iv xq, own_lv xs, .second, own_lv xu, .second, iv (xq &&& (255 : Int32)), .unset, .unset, .unset, .unset, .unset, .unset, .unset, .unset, .unset, .unset, .unset, .unset, .unset, .unset, .unset, .unset, .unset, .unset, .unset, .unset, .unset, .unset, .unset, .unset, .unset] [] _
    refine XS.iloadN X0.here hx rfl (hb hby at_7) rfl ?_
    show own_S p e below s₁ m 8 #[iv xp, iv xq, own_lv xs, .second, own_lv xu, .second, iv (xq &&& (255 : Int32)), .unset, .unset, .unset, .unset, .unset, .unset, .unset, .unset, .unset, .unset, .unset, .unset, .unset, .unset, .unset, .unset, .unset, .unset, .unset, .unset, .unset, .unset, .unset, .unset, .unset] [(.int xq)] _
    refine XS.bipush X0.here hx rfl (hb hby at_8) ?_
    show own_S p e below s₁ m 10 #[iv xp, iv xq, own_lv xs, .second, own_lv xu, .second, iv (xq &&& (255 : Int32)), .unset, .unset, .unset, .unset, .unset, .unset, .unset, .unset, .unset, .unset, .unset, .unset, .unset, .unset, .unset, .unset, .unset, .unset, .unset, .unset, .unset, .unset, .unset, .unset, .unset] [(.int (8 : Int32)), (.int xq)] _
    refine XS.iushr X0.here hx rfl (hb hby at_10) rfl ?_
    show own_S p e below s₁ m 11 #[iv xp, iv xq, own_lv xs, .second, own_lv xu, .second, iv (xq &&& (255 : Int32)), .unset, .unset, .unset, .unset, .unset, .unset, .unset, .unset, .unset, .unset, .unset, .unset, .unset, .unset, .unset, .unset, .unset, .unset, .unset, .unset, .unset, .unset, .unset, .unset, .unset] [(.int ((xq.toUInt32 >>> ((8 : Int32) &&& 31).toUInt32).toInt32))] _
    refine XS.sipush X0.here hx rfl (hb hby at_11) ?_
    show own_S p e below s₁ m 14 #[iv xp, iv xq, own_lv xs, .second, own_lv xu, .second, iv (xq &&& (255 : Int32)), .unset, .unset, .unset, .unset, .unset, .unset, .unset, .unset, .unset, .unset, .unset, .unset, .unset, .unset, .unset, .unset, .unset, .unset, .unset, .unset, .unset, .unset, .unset, .unset, .unset] [(.int (255 : Int32)), (.int ((xq.toUInt32 >>> ((8 : Int32) &&& 31).toUInt32).toInt32))] _
    refine XS.iand X0.here hx rfl (hb hby at_14) rfl ?_
    show own_S p e below s₁ m 15 #[iv xp, iv xq, own_lv xs, .second, own_lv xu, .second, iv (xq &&& (255 : Int32)), .unset, .unset, .unset, .unset, .unset, .unset, .unset, .unset, .unset, .unset, .unset, .unset, .unset, .unset, .unset, .unset, .unset, .unset, .unset, .unset, .unset, .unset, .unset, .unset, .unset] [(.int (((xq.toUInt32 >>> ((8 : Int32) &&& 31).toUInt32).toInt32) &&& (255 : Int32)))] _
    refine XS.istore X0.here hx rfl (hb hby at_15) rfl (l' := #[iv xp, iv xq, own_lv xs, .second, own_lv xu, .second, iv (xq &&& (255 : Int32)), iv (((xq.toUInt32 >>> ((8 : Int32) &&& 31).toUInt32).toInt32) &&& (255 : Int32)), .unset, .unset, .unset, .unset, .unset, .unset, .unset, .unset, .unset, .unset, .unset, .unset, .unset, .unset, .unset, .unset, .unset, .unset, .unset, .unset, .unset, .unset, .unset, .unset]) rfl ?_
    show own_S p e below s₁ m 17 #[iv xp, iv xq, own_lv xs, .second, own_lv xu, .second, iv (xq &&& (255 : Int32)), iv (((xq.toUInt32 >>> ((8 : Int32) &&& 31).toUInt32).toInt32) &&& (255 : Int32)), .unset, .unset, .unset, .unset, .unset, .unset, .unset, .unset, .unset, .unset, .unset, .unset, .unset, .unset, .unset, .unset, .unset, .unset, .unset, .unset, .unset, .unset, .unset, .unset] [] _
    refine XS.iloadN X0.here hx rfl (hb hby at_17) rfl ?_
    show own_S p e below s₁ m 18 #[iv xp, iv xq, own_lv xs, .second, own_lv xu, .second, iv (xq &&& (255 : Int32)), iv (((xq.toUInt32 >>> ((8 : Int32) &&& 31).toUInt32).toInt32) &&& (255 : Int32)), .unset, .unset, .unset, .unset, .unset, .unset, .unset, .unset, .unset, .unset, .unset, .unset, .unset, .unset, .unset, .unset, .unset, .unset, .unset, .unset, .unset, .unset, .unset, .unset] [(.int xq)] _
    refine XS.bipush X0.here hx rfl (hb hby at_18) ?_
    show own_S p e below s₁ m 20 #[iv xp, iv xq, own_lv xs, .second, own_lv xu, .second, iv (xq &&& (255 : Int32)), iv (((xq.toUInt32 >>> ((8 : Int32) &&& 31).toUInt32).toInt32) &&& (255 : Int32)), .unset, .unset, .unset, .unset, .unset, .unset, .unset, .unset, .unset, .unset, .unset, .unset, .unset, .unset, .unset, .unset, .unset, .unset, .unset, .unset, .unset, .unset, .unset, .unset] [(.int (16 : Int32)), (.int xq)] _
    refine XS.iushr X0.here hx rfl (hb hby at_20) rfl ?_
    show own_S p e below s₁ m 21 #[iv xp, iv xq, own_lv xs, .second, own_lv xu, .second, iv (xq &&& (255 : Int32)), iv (((xq.toUInt32 >>> ((8 : Int32) &&& 31).toUInt32).toInt32) &&& (255 : Int32)), .unset, .unset, .unset, .unset, .unset, .unset, .unset, .unset, .unset, .unset, .unset, .unset, .unset, .unset, .unset, .unset, .unset, .unset, .unset, .unset, .unset, .unset, .unset, .unset] [(.int ((xq.toUInt32 >>> ((16 : Int32) &&& 31).toUInt32).toInt32))] _
    refine XS.sipush X0.here hx rfl (hb hby at_21) ?_
    show own_S p e below s₁ m 24 #[iv xp, iv xq, own_lv xs, .second, own_lv xu, .second, iv (xq &&& (255 : Int32)), iv (((xq.toUInt32 >>> ((8 : Int32) &&& 31).toUInt32).toInt32) &&& (255 : Int32)), .unset, .unset, .unset, .unset, .unset, .unset, .unset, .unset, .unset, .unset, .unset, .unset, .unset, .unset, .unset, .unset, .unset, .unset, .unset, .unset, .unset, .unset, .unset, .unset] [(.int (255 : Int32)), (.int ((xq.toUInt32 >>> ((16 : Int32) &&& 31).toUInt32).toInt32))] _
    refine XS.iand X0.here hx rfl (hb hby at_24) rfl ?_
    show own_S p e below s₁ m 25 #[iv xp, iv xq, own_lv xs, .second, own_lv xu, .second, iv (xq &&& (255 : Int32)), iv (((xq.toUInt32 >>> ((8 : Int32) &&& 31).toUInt32).toInt32) &&& (255 : Int32)), .unset, .unset, .unset, .unset, .unset, .unset, .unset, .unset, .unset, .unset, .unset, .unset, .unset, .unset, .unset, .unset, .unset, .unset, .unset, .unset, .unset, .unset, .unset, .unset] [(.int (((xq.toUInt32 >>> ((16 : Int32) &&& 31).toUInt32).toInt32) &&& (255 : Int32)))] _
    refine XS.istore X0.here hx rfl (hb hby at_25) rfl (l' := #[iv xp, iv xq, own_lv xs, .second, own_lv xu, .second, iv (xq &&& (255 : Int32)), iv (((xq.toUInt32 >>> ((8 : Int32) &&& 31).toUInt32).toInt32) &&& (255 : Int32)), iv (((xq.toUInt32 >>> ((16 : Int32) &&& 31).toUInt32).toInt32) &&& (255 : Int32)), .unset, .unset, .unset, .unset, .unset, .unset, .unset, .unset, .unset, .unset, .unset, .unset, .unset, .unset, .unset, .unset, .unset, .unset, .unset, .unset, .unset, .unset, .unset]) rfl ?_
    show own_S p e below s₁ m 27 #[iv xp, iv xq, own_lv xs, .second, own_lv xu, .second, iv (xq &&& (255 : Int32)), iv (((xq.toUInt32 >>> ((8 : Int32) &&& 31).toUInt32).toInt32) &&& (255 : Int32)), iv (((xq.toUInt32 >>> ((16 : Int32) &&& 31).toUInt32).toInt32) &&& (255 : Int32)), .unset, .unset, .unset, .unset, .unset, .unset, .unset, .unset, .unset, .unset, .unset, .unset, .unset, .unset, .unset, .unset, .unset, .unset, .unset, .unset, .unset, .unset, .unset] [] _
    refine XS.iloadN X0.here hx rfl (hb hby at_27) rfl ?_
    show own_S p e below s₁ m 28 #[iv xp, iv xq, own_lv xs, .second, own_lv xu, .second, iv (xq &&& (255 : Int32)), iv (((xq.toUInt32 >>> ((8 : Int32) &&& 31).toUInt32).toInt32) &&& (255 : Int32)), iv (((xq.toUInt32 >>> ((16 : Int32) &&& 31).toUInt32).toInt32) &&& (255 : Int32)), .unset, .unset, .unset, .unset, .unset, .unset, .unset, .unset, .unset, .unset, .unset, .unset, .unset, .unset, .unset, .unset, .unset, .unset, .unset, .unset, .unset, .unset, .unset] [(.int xq)] _
    refine XS.bipush X0.here hx rfl (hb hby at_28) ?_
    show own_S p e below s₁ m 30 #[iv xp, iv xq, own_lv xs, .second, own_lv xu, .second, iv (xq &&& (255 : Int32)), iv (((xq.toUInt32 >>> ((8 : Int32) &&& 31).toUInt32).toInt32) &&& (255 : Int32)), iv (((xq.toUInt32 >>> ((16 : Int32) &&& 31).toUInt32).toInt32) &&& (255 : Int32)), .unset, .unset, .unset, .unset, .unset, .unset, .unset, .unset, .unset, .unset, .unset, .unset, .unset, .unset, .unset, .unset, .unset, .unset, .unset, .unset, .unset, .unset, .unset] [(.int (24 : Int32)), (.int xq)] _
    refine XS.iushr X0.here hx rfl (hb hby at_30) rfl ?_
    show own_S p e below s₁ m 31 #[iv xp, iv xq, own_lv xs, .second, own_lv xu, .second, iv (xq &&& (255 : Int32)), iv (((xq.toUInt32 >>> ((8 : Int32) &&& 31).toUInt32).toInt32) &&& (255 : Int32)), iv (((xq.toUInt32 >>> ((16 : Int32) &&& 31).toUInt32).toInt32) &&& (255 : Int32)), .unset, .unset, .unset, .unset, .unset, .unset, .unset, .unset, .unset, .unset, .unset, .unset, .unset, .unset, .unset, .unset, .unset, .unset, .unset, .unset, .unset, .unset, .unset] [(.int ((xq.toUInt32 >>> ((24 : Int32) &&& 31).toUInt32).toInt32))] _
    refine XS.sipush X0.here hx rfl (hb hby at_31) ?_
    show own_S p e below s₁ m 34 #[iv xp, iv xq, own_lv xs, .second, own_lv xu, .second, iv (xq &&& (255 : Int32)), iv (((xq.toUInt32 >>> ((8 : Int32) &&& 31).toUInt32).toInt32) &&& (255 : Int32)), iv (((xq.toUInt32 >>> ((16 : Int32) &&& 31).toUInt32).toInt32) &&& (255 : Int32)), .unset, .unset, .unset, .unset, .unset, .unset, .unset, .unset, .unset, .unset, .unset, .unset, .unset, .unset, .unset, .unset, .unset, .unset, .unset, .unset, .unset, .unset, .unset] [(.int (255 : Int32)), (.int ((xq.toUInt32 >>> ((24 : Int32) &&& 31).toUInt32).toInt32))] _
    refine XS.iand X0.here hx rfl (hb hby at_34) rfl ?_
    show own_S p e below s₁ m 35 #[iv xp, iv xq, own_lv xs, .second, own_lv xu, .second, iv (xq &&& (255 : Int32)), iv (((xq.toUInt32 >>> ((8 : Int32) &&& 31).toUInt32).toInt32) &&& (255 : Int32)), iv (((xq.toUInt32 >>> ((16 : Int32) &&& 31).toUInt32).toInt32) &&& (255 : Int32)), .unset, .unset, .unset, .unset, .unset, .unset, .unset, .unset, .unset, .unset, .unset, .unset, .unset, .unset, .unset, .unset, .unset, .unset, .unset, .unset, .unset, .unset, .unset] [(.int (((xq.toUInt32 >>> ((24 : Int32) &&& 31).toUInt32).toInt32) &&& (255 : Int32)))] _
    refine XS.istore X0.here hx rfl (hb hby at_35) rfl (l' := #[iv xp, iv xq, own_lv xs, .second, own_lv xu, .second, iv (xq &&& (255 : Int32)), iv (((xq.toUInt32 >>> ((8 : Int32) &&& 31).toUInt32).toInt32) &&& (255 : Int32)), iv (((xq.toUInt32 >>> ((16 : Int32) &&& 31).toUInt32).toInt32) &&& (255 : Int32)), iv (((xq.toUInt32 >>> ((24 : Int32) &&& 31).toUInt32).toInt32) &&& (255 : Int32)), .unset, .unset, .unset, .unset, .unset, .unset, .unset, .unset, .unset, .unset, .unset, .unset, .unset, .unset, .unset, .unset, .unset, .unset, .unset, .unset, .unset, .unset]) rfl ?_
    show own_S p e below s₁ m 37 #[iv xp, iv xq, own_lv xs, .second, own_lv xu, .second, iv (xq &&& (255 : Int32)), iv (((xq.toUInt32 >>> ((8 : Int32) &&& 31).toUInt32).toInt32) &&& (255 : Int32)), iv (((xq.toUInt32 >>> ((16 : Int32) &&& 31).toUInt32).toInt32) &&& (255 : Int32)), iv (((xq.toUInt32 >>> ((24 : Int32) &&& 31).toUInt32).toInt32) &&& (255 : Int32)), .unset, .unset, .unset, .unset, .unset, .unset, .unset, .unset, .unset, .unset, .unset, .unset, .unset, .unset, .unset, .unset, .unset, .unset, .unset, .unset, .unset, .unset] [] _
    rw [hra] at kt
    rw [hrg] at kt
    rw [hri] at kt
    rw [hrf] at kt
    exact kt
  refine own_st sg1 ?_
  have sg2 : own_V p e below s₁ (mkF m 41 #[iv xp, iv xq, own_lv xs, .second, own_lv xu, .second, iv ra, iv rg, iv ri, iv rf, .unset, .unset, .unset, .unset, .unset, .unset, .unset, .unset, .unset, .unset, .unset, .unset, .unset, .unset, .unset, .unset, .unset, .unset, .unset, .unset, .unset, .unset] [(.int (xp &&& (64 : Int32)))]) (mkF m 37 #[iv xp, iv xq, own_lv xs, .second, own_lv xu, .second, iv ra, iv rg, iv ri, iv rf, .unset, .unset, .unset, .unset, .unset, .unset, .unset, .unset, .unset, .unset, .unset, .unset, .unset, .unset, .unset, .unset, .unset, .unset, .unset, .unset, .unset, .unset] []) := by
    intro t kt
    refine XS.iloadN X0.here hx rfl (hb hby at_37) rfl ?_
    show own_S p e below s₁ m 38 #[iv xp, iv xq, own_lv xs, .second, own_lv xu, .second, iv ra, iv rg, iv ri, iv rf, .unset, .unset, .unset, .unset, .unset, .unset, .unset, .unset, .unset, .unset, .unset, .unset, .unset, .unset, .unset, .unset, .unset, .unset, .unset, .unset, .unset, .unset] [(.int xp)] _
    refine XS.bipush X0.here hx rfl (hb hby at_38) ?_
    show own_S p e below s₁ m 40 #[iv xp, iv xq, own_lv xs, .second, own_lv xu, .second, iv ra, iv rg, iv ri, iv rf, .unset, .unset, .unset, .unset, .unset, .unset, .unset, .unset, .unset, .unset, .unset, .unset, .unset, .unset, .unset, .unset, .unset, .unset, .unset, .unset, .unset, .unset] [(.int (64 : Int32)), (.int xp)] _
    refine XS.iand X0.here hx rfl (hb hby at_40) rfl ?_
    show own_S p e below s₁ m 41 #[iv xp, iv xq, own_lv xs, .second, own_lv xu, .second, iv ra, iv rg, iv ri, iv rf, .unset, .unset, .unset, .unset, .unset, .unset, .unset, .unset, .unset, .unset, .unset, .unset, .unset, .unset, .unset, .unset, .unset, .unset, .unset, .unset, .unset, .unset] [(.int (xp &&& (64 : Int32)))] _
    exact kt
  refine own_st sg2 ?_
  by_cases hc3 : (xp &&& (64 : Int32)) = (0 : Int32)
  · skip
    have sg4 : own_V p e below s₁ (mkF m 48 #[iv xp, iv xq, own_lv xs, .second, own_lv xu, .second, iv ra, iv rg, iv ri, iv rf, .unset, .unset, .unset, .unset, .unset, .unset, .unset, .unset, .unset, .unset, .unset, .unset, .unset, .unset, .unset, .unset, .unset, .unset, .unset, .unset, .unset, .unset] []) (mkF m 41 #[iv xp, iv xq, own_lv xs, .second, own_lv xu, .second, iv ra, iv rg, iv ri, iv rf, .unset, .unset, .unset, .unset, .unset, .unset, .unset, .unset, .unset, .unset, .unset, .unset, .unset, .unset, .unset, .unset, .unset, .unset, .unset, .unset, .unset, .unset] [(.int (xp &&& (64 : Int32)))]) := by
      intro t kt
      refine XS.ifYes X0.here hx rfl (pc0 := 41) (pc' := 48) rfl (hb hby at_41) rfl ((if0 _ _).trans (teq hc3).1) (by decide) (by decide) ?_
      exact kt
    refine own_st sg4 ?_
    have sg5 : own_V p e below s₁ (mkF m 56 #[iv xp, iv xq, own_lv xs, .second, own_lv xu, .second, iv ra, iv rg, iv ri, iv rf, iv (0 : Int32), .unset, .unset, .unset, .unset, .unset, .unset, .unset, .unset, .unset, .unset, .unset, .unset, .unset, .unset, .unset, .unset, .unset, .unset, .unset, .unset, .unset] [(.int (ri ^^^ rg))]) (mkF m 48 #[iv xp, iv xq, own_lv xs, .second, own_lv xu, .second, iv ra, iv rg, iv ri, iv rf, .unset, .unset, .unset, .unset, .unset, .unset, .unset, .unset, .unset, .unset, .unset, .unset, .unset, .unset, .unset, .unset, .unset, .unset, .unset, .unset, .unset, .unset] []) := by
      intro t kt
      refine XS.iconst X0.here hx rfl (hb hby at_48) ?_
      show own_S p e below s₁ m 49 #[iv xp, iv xq, own_lv xs, .second, own_lv xu, .second, iv ra, iv rg, iv ri, iv rf, .unset, .unset, .unset, .unset, .unset, .unset, .unset, .unset, .unset, .unset, .unset, .unset, .unset, .unset, .unset, .unset, .unset, .unset, .unset, .unset, .unset, .unset] [(.int (0 : Int32))] _
      refine XS.istore X0.here hx rfl (hb hby at_49) rfl (l' := #[iv xp, iv xq, own_lv xs, .second, own_lv xu, .second, iv ra, iv rg, iv ri, iv rf, iv (0 : Int32), .unset, .unset, .unset, .unset, .unset, .unset, .unset, .unset, .unset, .unset, .unset, .unset, .unset, .unset, .unset, .unset, .unset, .unset, .unset, .unset, .unset]) rfl ?_
      show own_S p e below s₁ m 51 #[iv xp, iv xq, own_lv xs, .second, own_lv xu, .second, iv ra, iv rg, iv ri, iv rf, iv (0 : Int32), .unset, .unset, .unset, .unset, .unset, .unset, .unset, .unset, .unset, .unset, .unset, .unset, .unset, .unset, .unset, .unset, .unset, .unset, .unset, .unset, .unset] [] _
      refine XS.iload X0.here hx rfl (hb hby at_51) rfl ?_
      show own_S p e below s₁ m 53 #[iv xp, iv xq, own_lv xs, .second, own_lv xu, .second, iv ra, iv rg, iv ri, iv rf, iv (0 : Int32), .unset, .unset, .unset, .unset, .unset, .unset, .unset, .unset, .unset, .unset, .unset, .unset, .unset, .unset, .unset, .unset, .unset, .unset, .unset, .unset, .unset] [(.int ri)] _
      refine XS.iload X0.here hx rfl (hb hby at_53) rfl ?_
      show own_S p e below s₁ m 55 #[iv xp, iv xq, own_lv xs, .second, own_lv xu, .second, iv ra, iv rg, iv ri, iv rf, iv (0 : Int32), .unset, .unset, .unset, .unset, .unset, .unset, .unset, .unset, .unset, .unset, .unset, .unset, .unset, .unset, .unset, .unset, .unset, .unset, .unset, .unset, .unset] [(.int rg), (.int ri)] _
      refine XS.ixor X0.here hx rfl (hb hby at_55) rfl ?_
      show own_S p e below s₁ m 56 #[iv xp, iv xq, own_lv xs, .second, own_lv xu, .second, iv ra, iv rg, iv ri, iv rf, iv (0 : Int32), .unset, .unset, .unset, .unset, .unset, .unset, .unset, .unset, .unset, .unset, .unset, .unset, .unset, .unset, .unset, .unset, .unset, .unset, .unset, .unset, .unset] [(.int (ri ^^^ rg))] _
      exact kt
    refine own_st sg5 ?_
    obtain ⟨_, T6, L6, X6, hQ6, st6⟩ := own_callS (y := (⟨"com/example/coverfold/coverfold/UsageSharesTextsOfKindPinLaw", "text", "(I)Ljava/lang/String;"⟩ : MethodName)) X0 hx hZ hown (hw _ (List.mem_of_getElem? (i := 0) rfl)) (hw _ (List.mem_of_getElem? (i := 1) rfl)) (hw _ (List.mem_of_getElem? (i := 2) rfl)) (hw _ (List.mem_of_getElem? (i := 3) rfl)) (by decide) (own_rmtx l Z a0 hw (ri ^^^ rg) cc h0 n0 Z0 SC hcc) e0 (g := (mkF m 56 #[iv xp, iv xq, own_lv xs, .second, own_lv xu, .second, iv ra, iv rg, iv ri, iv rf, iv (0 : Int32), .unset, .unset, .unset, .unset, .unset, .unset, .unset, .unset, .unset, .unset, .unset, .unset, .unset, .unset, .unset, .unset, .unset, .unset, .unset, .unset, .unset] [(.int (ri ^^^ rg))])) rfl (by rw [hml]; rfl) (argsL := [(.int (ri ^^^ rg))]) (rest := []) (lenOf own_pd14 rfl) rfl (W := 0) (by show 2 * 0 + _ ≤ _; exact Nat.le_of_eq rfl) (hb hby at_56) (by decide) (by decide) (by decide) (by decide)
    obtain ⟨a6, b6, rfl, Nq6, K6, sa6, sb6, S6⟩ := hQ6
    refine own_st st6 ?_
    have Z6 : n0 ≤ T6.heap.size := Nat.le_trans Z0 K6.1
    have kk6 : 0 ≤ T6.heap.size := Nat.le_trans (Nat.zero_le _) K6.1
    have N6 := Fr.app N0 Nq6
    show own_Go p e below _ T6 (mkF m 59 #[iv xp, iv xq, own_lv xs, .second, own_lv xu, .second, iv ra, iv rg, iv ri, iv rf, iv (0 : Int32), .unset, .unset, .unset, .unset, .unset, .unset, .unset, .unset, .unset, .unset, .unset, .unset, .unset, .unset, .unset, .unset, .unset, .unset, .unset, .unset, .unset] [(.ref a6)])
    have SC_6 := own_Sta.keep SC K6
    have sg7 : own_V p e below T6 (mkF m 63 #[iv xp, iv xq, own_lv xs, .second, own_lv xu, .second, iv ra, iv rg, iv ri, iv rf, iv (0 : Int32), rv a6, .unset, .unset, .unset, .unset, .unset, .unset, .unset, .unset, .unset, .unset, .unset, .unset, .unset, .unset, .unset, .unset, .unset, .unset, .unset, .unset] [(.int ra)]) (mkF m 59 #[iv xp, iv xq, own_lv xs, .second, own_lv xu, .second, iv ra, iv rg, iv ri, iv rf, iv (0 : Int32), .unset, .unset, .unset, .unset, .unset, .unset, .unset, .unset, .unset, .unset, .unset, .unset, .unset, .unset, .unset, .unset, .unset, .unset, .unset, .unset, .unset] [(.ref a6)]) := by
      intro t kt
      refine XS.astore X6.here hx rfl (hb hby at_59) rfl rfl (l' := #[iv xp, iv xq, own_lv xs, .second, own_lv xu, .second, iv ra, iv rg, iv ri, iv rf, iv (0 : Int32), rv a6, .unset, .unset, .unset, .unset, .unset, .unset, .unset, .unset, .unset, .unset, .unset, .unset, .unset, .unset, .unset, .unset, .unset, .unset, .unset, .unset]) rfl ?_
      show own_S p e below T6 m 61 #[iv xp, iv xq, own_lv xs, .second, own_lv xu, .second, iv ra, iv rg, iv ri, iv rf, iv (0 : Int32), rv a6, .unset, .unset, .unset, .unset, .unset, .unset, .unset, .unset, .unset, .unset, .unset, .unset, .unset, .unset, .unset, .unset, .unset, .unset, .unset, .unset] [] _
      refine XS.iload X6.here hx rfl (hb hby at_61) rfl ?_
      show own_S p e below T6 m 63 #[iv xp, iv xq, own_lv xs, .second, own_lv xu, .second, iv ra, iv rg, iv ri, iv rf, iv (0 : Int32), rv a6, .unset, .unset, .unset, .unset, .unset, .unset, .unset, .unset, .unset, .unset, .unset, .unset, .unset, .unset, .unset, .unset, .unset, .unset, .unset, .unset] [(.int ra)] _
      exact kt
    refine own_st sg7 ?_
    obtain ⟨_, T8, L8, X8, hQ8, st8⟩ := own_callS (y := (⟨"com/example/coverfold/coverfold/UsageSharesTextsOfKindPinLaw", "text", "(I)Ljava/lang/String;"⟩ : MethodName)) X6 hx hZ hown (hw _ (List.mem_of_getElem? (i := 0) rfl)) (hw _ (List.mem_of_getElem? (i := 1) rfl)) (hw _ (List.mem_of_getElem? (i := 2) rfl)) (hw _ (List.mem_of_getElem? (i := 3) rfl)) (by decide) (own_rmtx l Z a0 hw ra cc T6.heap n0 Z6 SC_6 hcc) rfl (g := (mkF m 63 #[iv xp, iv xq, own_lv xs, .second, own_lv xu, .second, iv ra, iv rg, iv ri, iv rf, iv (0 : Int32), rv a6, .unset, .unset, .unset, .unset, .unset, .unset, .unset, .unset, .unset, .unset, .unset, .unset, .unset, .unset, .unset, .unset, .unset, .unset, .unset, .unset] [(.int ra)])) rfl (by rw [hml]; rfl) (argsL := [(.int ra)]) (rest := []) (lenOf own_pd14 rfl) rfl (W := 0) (by show 2 * 0 + _ ≤ _; exact Nat.le_of_eq rfl) (hb hby at_63) (by decide) (by decide) (by decide) (by decide)
    obtain ⟨a8, b8, rfl, Nq8, K8, sa8, sb8, S8⟩ := hQ8
    refine own_st st8 ?_
    have Z8 : n0 ≤ T8.heap.size := Nat.le_trans Z6 K8.1
    have kk8 : 0 ≤ T8.heap.size := Nat.le_trans kk6 K8.1
    have N8 := Fr.app N6 Nq8
    show own_Go p e below _ T8 (mkF m 66 #[iv xp, iv xq, own_lv xs, .second, own_lv xu, .second, iv ra, iv rg, iv ri, iv rf, iv (0 : Int32), rv a6, .unset, .unset, .unset, .unset, .unset, .unset, .unset, .unset, .unset, .unset, .unset, .unset, .unset, .unset, .unset, .unset, .unset, .unset, .unset, .unset] [(.ref a8)])
    have SC_8 := own_Sta.keep SC_6 K8
    have T11_8 := S6.keep K8 nin0 nin0
    have sg9 : own_V p e below T8 (mkF m 70 #[iv xp, iv xq, own_lv xs, .second, own_lv xu, .second, iv ra, iv rg, iv ri, iv rf, iv (0 : Int32), rv a6, rv a8, .unset, .unset, .unset, .unset, .unset, .unset, .unset, .unset, .unset, .unset, .unset, .unset, .unset, .unset, .unset, .unset, .unset, .unset, .unset] [(.int rg)]) (mkF m 66 #[iv xp, iv xq, own_lv xs, .second, own_lv xu, .second, iv ra, iv rg, iv ri, iv rf, iv (0 : Int32), rv a6, .unset, .unset, .unset, .unset, .unset, .unset, .unset, .unset, .unset, .unset, .unset, .unset, .unset, .unset, .unset, .unset, .unset, .unset, .unset, .unset] [(.ref a8)]) := by
      intro t kt
      refine XS.astore X8.here hx rfl (hb hby at_66) rfl rfl (l' := #[iv xp, iv xq, own_lv xs, .second, own_lv xu, .second, iv ra, iv rg, iv ri, iv rf, iv (0 : Int32), rv a6, rv a8, .unset, .unset, .unset, .unset, .unset, .unset, .unset, .unset, .unset, .unset, .unset, .unset, .unset, .unset, .unset, .unset, .unset, .unset, .unset]) rfl ?_
      show own_S p e below T8 m 68 #[iv xp, iv xq, own_lv xs, .second, own_lv xu, .second, iv ra, iv rg, iv ri, iv rf, iv (0 : Int32), rv a6, rv a8, .unset, .unset, .unset, .unset, .unset, .unset, .unset, .unset, .unset, .unset, .unset, .unset, .unset, .unset, .unset, .unset, .unset, .unset, .unset] [] _
      refine XS.iload X8.here hx rfl (hb hby at_68) rfl ?_
      show own_S p e below T8 m 70 #[iv xp, iv xq, own_lv xs, .second, own_lv xu, .second, iv ra, iv rg, iv ri, iv rf, iv (0 : Int32), rv a6, rv a8, .unset, .unset, .unset, .unset, .unset, .unset, .unset, .unset, .unset, .unset, .unset, .unset, .unset, .unset, .unset, .unset, .unset, .unset, .unset] [(.int rg)] _
      exact kt
    refine own_st sg9 ?_
    obtain ⟨_, T10, L10, X10, hQ10, st10⟩ := own_callS (y := (⟨"com/example/coverfold/coverfold/UsageSharesTextsOfKindPinLaw", "text", "(I)Ljava/lang/String;"⟩ : MethodName)) X8 hx hZ hown (hw _ (List.mem_of_getElem? (i := 0) rfl)) (hw _ (List.mem_of_getElem? (i := 1) rfl)) (hw _ (List.mem_of_getElem? (i := 2) rfl)) (hw _ (List.mem_of_getElem? (i := 3) rfl)) (by decide) (own_rmtx l Z a0 hw rg cc T8.heap n0 Z8 SC_8 hcc) rfl (g := (mkF m 70 #[iv xp, iv xq, own_lv xs, .second, own_lv xu, .second, iv ra, iv rg, iv ri, iv rf, iv (0 : Int32), rv a6, rv a8, .unset, .unset, .unset, .unset, .unset, .unset, .unset, .unset, .unset, .unset, .unset, .unset, .unset, .unset, .unset, .unset, .unset, .unset, .unset] [(.int rg)])) rfl (by rw [hml]; rfl) (argsL := [(.int rg)]) (rest := []) (lenOf own_pd14 rfl) rfl (W := 0) (by show 2 * 0 + _ ≤ _; exact Nat.le_of_eq rfl) (hb hby at_70) (by decide) (by decide) (by decide) (by decide)
    obtain ⟨a10, b10, rfl, Nq10, K10, sa10, sb10, S10⟩ := hQ10
    refine own_st st10 ?_
    have Z10 : n0 ≤ T10.heap.size := Nat.le_trans Z8 K10.1
    have kk10 : 0 ≤ T10.heap.size := Nat.le_trans kk8 K10.1
    have N10 := Fr.app N8 Nq10
    show own_Go p e below _ T10 (mkF m 73 #[iv xp, iv xq, own_lv xs, .second, own_lv xu, .second, iv ra, iv rg, iv ri, iv rf, iv (0 : Int32), rv a6, rv a8, .unset, .unset, .unset, .unset, .unset, .unset, .unset, .unset, .unset, .unset, .unset, .unset, .unset, .unset, .unset, .unset, .unset, .unset, .unset] [(.ref a10)])
    have SC_10 := own_Sta.keep SC_8 K10
    have T11_10 := T11_8.keep K10 nin0 nin0
    have T12_10 := S8.keep K10 nin0 nin0
    have sg11 : own_V p e below T10 (mkF m 79 #[iv xp, iv xq, own_lv xs, .second, own_lv xu, .second, iv ra, iv rg, iv ri, iv rf, iv (0 : Int32), rv a6, rv a8, rv a10, .unset, .unset, .unset, .unset, .unset, .unset, .unset, .unset, .unset, .unset, .unset, .unset, .unset, .unset, .unset, .unset, .unset, .unset] [(.int rg), (.int (0 : Int32))]) (mkF m 73 #[iv xp, iv xq, own_lv xs, .second, own_lv xu, .second, iv ra, iv rg, iv ri, iv rf, iv (0 : Int32), rv a6, rv a8, .unset, .unset, .unset, .unset, .unset, .unset, .unset, .unset, .unset, .unset, .unset, .unset, .unset, .unset, .unset, .unset, .unset, .unset, .unset] [(.ref a10)]) := by
      intro t kt
      refine XS.astore X10.here hx rfl (hb hby at_73) rfl rfl (l' := #[iv xp, iv xq, own_lv xs, .second, own_lv xu, .second, iv ra, iv rg, iv ri, iv rf, iv (0 : Int32), rv a6, rv a8, rv a10, .unset, .unset, .unset, .unset, .unset, .unset, .unset, .unset, .unset, .unset, .unset, .unset, .unset, .unset, .unset, .unset, .unset, .unset]) rfl ?_
      show own_S p e below T10 m 75 #[iv xp, iv xq, own_lv xs, .second, own_lv xu, .second, iv ra, iv rg, iv ri, iv rf, iv (0 : Int32), rv a6, rv a8, rv a10, .unset, .unset, .unset, .unset, .unset, .unset, .unset, .unset, .unset, .unset, .unset, .unset, .unset, .unset, .unset, .unset, .unset, .unset] [] _
      refine XS.iload X10.here hx rfl (hb hby at_75) rfl ?_
      show own_S p e below T10 m 77 #[iv xp, iv xq, own_lv xs, .second, own_lv xu, .second, iv ra, iv rg, iv ri, iv rf, iv (0 : Int32), rv a6, rv a8, rv a10, .unset, .unset, .unset, .unset, .unset, .unset, .unset, .unset, .unset, .unset, .unset, .unset, .unset, .unset, .unset, .unset, .unset, .unset] [(.int (0 : Int32))] _
      refine XS.iload X10.here hx rfl (hb hby at_77) rfl ?_
      show own_S p e below T10 m 79 #[iv xp, iv xq, own_lv xs, .second, own_lv xu, .second, iv ra, iv rg, iv ri, iv rf, iv (0 : Int32), rv a6, rv a8, rv a10, .unset, .unset, .unset, .unset, .unset, .unset, .unset, .unset, .unset, .unset, .unset, .unset, .unset, .unset, .unset, .unset, .unset, .unset] [(.int rg), (.int (0 : Int32))] _
      exact kt
    refine own_st sg11 ?_
    obtain ⟨_, T12, L12, X12, hQ12, st12⟩ := own_callS (y := (⟨"com/example/coverfold/coverfold/UsageSharesTextsOfKindPinLaw", "zoneText", "(ZI)Ljava/lang/String;"⟩ : MethodName)) X10 hx hZ hown (hw _ (List.mem_of_getElem? (i := 34) rfl)) (hw _ (List.mem_of_getElem? (i := 35) rfl)) (hw _ (List.mem_of_getElem? (i := 2) rfl)) (hw _ (List.mem_of_getElem? (i := 36) rfl)) (by decide) (own_rmzt_n l Z a0 hw rg cc T10.heap n0 Z10 SC_10 hcc) rfl (g := (mkF m 79 #[iv xp, iv xq, own_lv xs, .second, own_lv xu, .second, iv ra, iv rg, iv ri, iv rf, iv (0 : Int32), rv a6, rv a8, rv a10, .unset, .unset, .unset, .unset, .unset, .unset, .unset, .unset, .unset, .unset, .unset, .unset, .unset, .unset, .unset, .unset, .unset, .unset] [(.int rg), (.int (0 : Int32))])) rfl (by rw [hml]; rfl) (argsL := [(.int (0 : Int32)), (.int rg)]) (rest := []) (lenOf own_pd15 rfl) rfl (W := 0) (by show 2 * 0 + _ ≤ _; exact Nat.le_of_eq rfl) (hb hby at_79) (by decide) (by decide) (by decide) (by decide)
    obtain ⟨a12, b12, rfl, Nq12, K12, sa12, sb12, S12⟩ := hQ12
    refine own_st st12 ?_
    have Z12 : n0 ≤ T12.heap.size := Nat.le_trans Z10 K12.1
    have kk12 : 0 ≤ T12.heap.size := Nat.le_trans kk10 K12.1
    have N12 := Fr.app N10 Nq12
    show own_Go p e below _ T12 (mkF m 82 #[iv xp, iv xq, own_lv xs, .second, own_lv xu, .second, iv ra, iv rg, iv ri, iv rf, iv (0 : Int32), rv a6, rv a8, rv a10, .unset, .unset, .unset, .unset, .unset, .unset, .unset, .unset, .unset, .unset, .unset, .unset, .unset, .unset, .unset, .unset, .unset, .unset] [(.ref a12)])
    have SC_12 := own_Sta.keep SC_10 K12
    have T11_12 := T11_10.keep K12 nin0 nin0
    have T12_12 := T12_10.keep K12 nin0 nin0
    have T13_12 := S10.keep K12 nin0 nin0
    have sg13 : own_V p e below T12 (mkF m 86 #[iv xp, iv xq, own_lv xs, .second, own_lv xu, .second, iv ra, iv rg, iv ri, iv rf, iv (0 : Int32), rv a6, rv a8, rv a10, rv a12, .unset, .unset, .unset, .unset, .unset, .unset, .unset, .unset, .unset, .unset, .unset, .unset, .unset, .unset, .unset, .unset, .unset] [(.int ri)]) (mkF m 82 #[iv xp, iv xq, own_lv xs, .second, own_lv xu, .second, iv ra, iv rg, iv ri, iv rf, iv (0 : Int32), rv a6, rv a8, rv a10, .unset, .unset, .unset, .unset, .unset, .unset, .unset, .unset, .unset, .unset, .unset, .unset, .unset, .unset, .unset, .unset, .unset, .unset] [(.ref a12)]) := by
      intro t kt
      refine XS.astore X12.here hx rfl (hb hby at_82) rfl rfl (l' := #[iv xp, iv xq, own_lv xs, .second, own_lv xu, .second, iv ra, iv rg, iv ri, iv rf, iv (0 : Int32), rv a6, rv a8, rv a10, rv a12, .unset, .unset, .unset, .unset, .unset, .unset, .unset, .unset, .unset, .unset, .unset, .unset, .unset, .unset, .unset, .unset, .unset]) rfl ?_
      show own_S p e below T12 m 84 #[iv xp, iv xq, own_lv xs, .second, own_lv xu, .second, iv ra, iv rg, iv ri, iv rf, iv (0 : Int32), rv a6, rv a8, rv a10, rv a12, .unset, .unset, .unset, .unset, .unset, .unset, .unset, .unset, .unset, .unset, .unset, .unset, .unset, .unset, .unset, .unset, .unset] [] _
      refine XS.iload X12.here hx rfl (hb hby at_84) rfl ?_
      show own_S p e below T12 m 86 #[iv xp, iv xq, own_lv xs, .second, own_lv xu, .second, iv ra, iv rg, iv ri, iv rf, iv (0 : Int32), rv a6, rv a8, rv a10, rv a12, .unset, .unset, .unset, .unset, .unset, .unset, .unset, .unset, .unset, .unset, .unset, .unset, .unset, .unset, .unset, .unset, .unset] [(.int ri)] _
      exact kt
    refine own_st sg13 ?_
    obtain ⟨_, T14, L14, X14, hQ14, st14⟩ := own_callS (y := (⟨"com/example/coverfold/coverfold/UsageSharesTextsOfKindPinLaw", "text", "(I)Ljava/lang/String;"⟩ : MethodName)) X12 hx hZ hown (hw _ (List.mem_of_getElem? (i := 0) rfl)) (hw _ (List.mem_of_getElem? (i := 1) rfl)) (hw _ (List.mem_of_getElem? (i := 2) rfl)) (hw _ (List.mem_of_getElem? (i := 3) rfl)) (by decide) (own_rmtx l Z a0 hw ri cc T12.heap n0 Z12 SC_12 hcc) rfl (g := (mkF m 86 #[iv xp, iv xq, own_lv xs, .second, own_lv xu, .second, iv ra, iv rg, iv ri, iv rf, iv (0 : Int32), rv a6, rv a8, rv a10, rv a12, .unset, .unset, .unset, .unset, .unset, .unset, .unset, .unset, .unset, .unset, .unset, .unset, .unset, .unset, .unset, .unset, .unset] [(.int ri)])) rfl (by rw [hml]; rfl) (argsL := [(.int ri)]) (rest := []) (lenOf own_pd14 rfl) rfl (W := 0) (by show 2 * 0 + _ ≤ _; exact Nat.le_of_eq rfl) (hb hby at_86) (by decide) (by decide) (by decide) (by decide)
    obtain ⟨a14, b14, rfl, Nq14, K14, sa14, sb14, S14⟩ := hQ14
    refine own_st st14 ?_
    have Z14 : n0 ≤ T14.heap.size := Nat.le_trans Z12 K14.1
    have kk14 : 0 ≤ T14.heap.size := Nat.le_trans kk12 K14.1
    have N14 := Fr.app N12 Nq14
    show own_Go p e below _ T14 (mkF m 89 #[iv xp, iv xq, own_lv xs, .second, own_lv xu, .second, iv ra, iv rg, iv ri, iv rf, iv (0 : Int32), rv a6, rv a8, rv a10, rv a12, .unset, .unset, .unset, .unset, .unset, .unset, .unset, .unset, .unset, .unset, .unset, .unset, .unset, .unset, .unset, .unset, .unset] [(.ref a14)])
    have SC_14 := own_Sta.keep SC_12 K14
    have T11_14 := T11_12.keep K14 nin0 nin0
    have T12_14 := T12_12.keep K14 nin0 nin0
    have T13_14 := T13_12.keep K14 nin0 nin0
    have T14_14 := S12.keep K14 nin0 nin0
    have sg15 : own_V p e below T14 (mkF m 93 #[iv xp, iv xq, own_lv xs, .second, own_lv xu, .second, iv ra, iv rg, iv ri, iv rf, iv (0 : Int32), rv a6, rv a8, rv a10, rv a12, rv a14, .unset, .unset, .unset, .unset, .unset, .unset, .unset, .unset, .unset, .unset, .unset, .unset, .unset, .unset, .unset, .unset] [(.int rf)]) (mkF m 89 #[iv xp, iv xq, own_lv xs, .second, own_lv xu, .second, iv ra, iv rg, iv ri, iv rf, iv (0 : Int32), rv a6, rv a8, rv a10, rv a12, .unset, .unset, .unset, .unset, .unset, .unset, .unset, .unset, .unset, .unset, .unset, .unset, .unset, .unset, .unset, .unset, .unset] [(.ref a14)]) := by
      intro t kt
      refine XS.astore X14.here hx rfl (hb hby at_89) rfl rfl (l' := #[iv xp, iv xq, own_lv xs, .second, own_lv xu, .second, iv ra, iv rg, iv ri, iv rf, iv (0 : Int32), rv a6, rv a8, rv a10, rv a12, rv a14, .unset, .unset, .unset, .unset, .unset, .unset, .unset, .unset, .unset, .unset, .unset, .unset, .unset, .unset, .unset, .unset]) rfl ?_
      show own_S p e below T14 m 91 #[iv xp, iv xq, own_lv xs, .second, own_lv xu, .second, iv ra, iv rg, iv ri, iv rf, iv (0 : Int32), rv a6, rv a8, rv a10, rv a12, rv a14, .unset, .unset, .unset, .unset, .unset, .unset, .unset, .unset, .unset, .unset, .unset, .unset, .unset, .unset, .unset, .unset] [] _
      refine XS.iload X14.here hx rfl (hb hby at_91) rfl ?_
      show own_S p e below T14 m 93 #[iv xp, iv xq, own_lv xs, .second, own_lv xu, .second, iv ra, iv rg, iv ri, iv rf, iv (0 : Int32), rv a6, rv a8, rv a10, rv a12, rv a14, .unset, .unset, .unset, .unset, .unset, .unset, .unset, .unset, .unset, .unset, .unset, .unset, .unset, .unset, .unset, .unset] [(.int rf)] _
      exact kt
    refine own_st sg15 ?_
    obtain ⟨_, T16, L16, X16, hQ16, st16⟩ := own_callS (y := (⟨"com/example/coverfold/coverfold/UsageSharesTextsOfKindPinLaw", "text", "(I)Ljava/lang/String;"⟩ : MethodName)) X14 hx hZ hown (hw _ (List.mem_of_getElem? (i := 0) rfl)) (hw _ (List.mem_of_getElem? (i := 1) rfl)) (hw _ (List.mem_of_getElem? (i := 2) rfl)) (hw _ (List.mem_of_getElem? (i := 3) rfl)) (by decide) (own_rmtx l Z a0 hw rf cc T14.heap n0 Z14 SC_14 hcc) rfl (g := (mkF m 93 #[iv xp, iv xq, own_lv xs, .second, own_lv xu, .second, iv ra, iv rg, iv ri, iv rf, iv (0 : Int32), rv a6, rv a8, rv a10, rv a12, rv a14, .unset, .unset, .unset, .unset, .unset, .unset, .unset, .unset, .unset, .unset, .unset, .unset, .unset, .unset, .unset, .unset] [(.int rf)])) rfl (by rw [hml]; rfl) (argsL := [(.int rf)]) (rest := []) (lenOf own_pd14 rfl) rfl (W := 0) (by show 2 * 0 + _ ≤ _; exact Nat.le_of_eq rfl) (hb hby at_93) (by decide) (by decide) (by decide) (by decide)
    obtain ⟨a16, b16, rfl, Nq16, K16, sa16, sb16, S16⟩ := hQ16
    refine own_st st16 ?_
    have Z16 : n0 ≤ T16.heap.size := Nat.le_trans Z14 K16.1
    have kk16 : 0 ≤ T16.heap.size := Nat.le_trans kk14 K16.1
    have N16 := Fr.app N14 Nq16
    show own_Go p e below _ T16 (mkF m 96 #[iv xp, iv xq, own_lv xs, .second, own_lv xu, .second, iv ra, iv rg, iv ri, iv rf, iv (0 : Int32), rv a6, rv a8, rv a10, rv a12, rv a14, .unset, .unset, .unset, .unset, .unset, .unset, .unset, .unset, .unset, .unset, .unset, .unset, .unset, .unset, .unset, .unset] [(.ref a16)])
    have SC_16 := own_Sta.keep SC_14 K16
    have T11_16 := T11_14.keep K16 nin0 nin0
    have T12_16 := T12_14.keep K16 nin0 nin0
    have T13_16 := T13_14.keep K16 nin0 nin0
    have T14_16 := T14_14.keep K16 nin0 nin0
    have T15_16 := S14.keep K16 nin0 nin0
    have sg17 : own_V p e below T16 (mkF m 103 #[iv xp, iv xq, own_lv xs, .second, own_lv xu, .second, iv ra, iv rg, iv ri, iv rf, iv (0 : Int32), rv a6, rv a8, rv a10, rv a12, rv a14, rv a16, .unset, .unset, .unset, .unset, .unset, .unset, .unset, .unset, .unset, .unset, .unset, .unset, .unset, .unset, .unset] [(.int (ra ^^^ rf))]) (mkF m 96 #[iv xp, iv xq, own_lv xs, .second, own_lv xu, .second, iv ra, iv rg, iv ri, iv rf, iv (0 : Int32), rv a6, rv a8, rv a10, rv a12, rv a14, .unset, .unset, .unset, .unset, .unset, .unset, .unset, .unset, .unset, .unset, .unset, .unset, .unset, .unset, .unset, .unset] [(.ref a16)]) := by
      intro t kt
      refine XS.astore X16.here hx rfl (hb hby at_96) rfl rfl (l' := #[iv xp, iv xq, own_lv xs, .second, own_lv xu, .second, iv ra, iv rg, iv ri, iv rf, iv (0 : Int32), rv a6, rv a8, rv a10, rv a12, rv a14, rv a16, .unset, .unset, .unset, .unset, .unset, .unset, .unset, .unset, .unset, .unset, .unset, .unset, .unset, .unset, .unset]) rfl ?_
      show own_S p e below T16 m 98 #[iv xp, iv xq, own_lv xs, .second, own_lv xu, .second, iv ra, iv rg, iv ri, iv rf, iv (0 : Int32), rv a6, rv a8, rv a10, rv a12, rv a14, rv a16, .unset, .unset, .unset, .unset, .unset, .unset, .unset, .unset, .unset, .unset, .unset, .unset, .unset, .unset, .unset] [] _
      refine XS.iload X16.here hx rfl (hb hby at_98) rfl ?_
      show own_S p e below T16 m 100 #[iv xp, iv xq, own_lv xs, .second, own_lv xu, .second, iv ra, iv rg, iv ri, iv rf, iv (0 : Int32), rv a6, rv a8, rv a10, rv a12, rv a14, rv a16, .unset, .unset, .unset, .unset, .unset, .unset, .unset, .unset, .unset, .unset, .unset, .unset, .unset, .unset, .unset] [(.int ra)] _
      refine XS.iload X16.here hx rfl (hb hby at_100) rfl ?_
      show own_S p e below T16 m 102 #[iv xp, iv xq, own_lv xs, .second, own_lv xu, .second, iv ra, iv rg, iv ri, iv rf, iv (0 : Int32), rv a6, rv a8, rv a10, rv a12, rv a14, rv a16, .unset, .unset, .unset, .unset, .unset, .unset, .unset, .unset, .unset, .unset, .unset, .unset, .unset, .unset, .unset] [(.int rf), (.int ra)] _
      refine XS.ixor X16.here hx rfl (hb hby at_102) rfl ?_
      show own_S p e below T16 m 103 #[iv xp, iv xq, own_lv xs, .second, own_lv xu, .second, iv ra, iv rg, iv ri, iv rf, iv (0 : Int32), rv a6, rv a8, rv a10, rv a12, rv a14, rv a16, .unset, .unset, .unset, .unset, .unset, .unset, .unset, .unset, .unset, .unset, .unset, .unset, .unset, .unset, .unset] [(.int (ra ^^^ rf))] _
      exact kt
    refine own_st sg17 ?_
    obtain ⟨_, T18, L18, X18, hQ18, st18⟩ := own_callS (y := (⟨"com/example/coverfold/coverfold/UsageSharesTextsOfKindPinLaw", "text", "(I)Ljava/lang/String;"⟩ : MethodName)) X16 hx hZ hown (hw _ (List.mem_of_getElem? (i := 0) rfl)) (hw _ (List.mem_of_getElem? (i := 1) rfl)) (hw _ (List.mem_of_getElem? (i := 2) rfl)) (hw _ (List.mem_of_getElem? (i := 3) rfl)) (by decide) (own_rmtx l Z a0 hw (ra ^^^ rf) cc T16.heap n0 Z16 SC_16 hcc) rfl (g := (mkF m 103 #[iv xp, iv xq, own_lv xs, .second, own_lv xu, .second, iv ra, iv rg, iv ri, iv rf, iv (0 : Int32), rv a6, rv a8, rv a10, rv a12, rv a14, rv a16, .unset, .unset, .unset, .unset, .unset, .unset, .unset, .unset, .unset, .unset, .unset, .unset, .unset, .unset, .unset] [(.int (ra ^^^ rf))])) rfl (by rw [hml]; rfl) (argsL := [(.int (ra ^^^ rf))]) (rest := []) (lenOf own_pd14 rfl) rfl (W := 0) (by show 2 * 0 + _ ≤ _; exact Nat.le_of_eq rfl) (hb hby at_103) (by decide) (by decide) (by decide) (by decide)
    obtain ⟨a18, b18, rfl, Nq18, K18, sa18, sb18, S18⟩ := hQ18
    refine own_st st18 ?_
    have Z18 : n0 ≤ T18.heap.size := Nat.le_trans Z16 K18.1
    have kk18 : 0 ≤ T18.heap.size := Nat.le_trans kk16 K18.1
    have N18 := Fr.app N16 Nq18
    show own_Go p e below _ T18 (mkF m 106 #[iv xp, iv xq, own_lv xs, .second, own_lv xu, .second, iv ra, iv rg, iv ri, iv rf, iv (0 : Int32), rv a6, rv a8, rv a10, rv a12, rv a14, rv a16, .unset, .unset, .unset, .unset, .unset, .unset, .unset, .unset, .unset, .unset, .unset, .unset, .unset, .unset, .unset] [(.ref a18)])
    have SC_18 := own_Sta.keep SC_16 K18
    have T11_18 := T11_16.keep K18 nin0 nin0
    have T12_18 := T12_16.keep K18 nin0 nin0
    have T13_18 := T13_16.keep K18 nin0 nin0
    have T14_18 := T14_16.keep K18 nin0 nin0
    have T15_18 := T15_16.keep K18 nin0 nin0
    have T16_18 := S16.keep K18 nin0 nin0
    have sg19 : own_V p e below T18 (mkF m 113 #[iv xp, iv xq, own_lv xs, .second, own_lv xu, .second, iv ra, iv rg, iv ri, iv rf, iv (0 : Int32), rv a6, rv a8, rv a10, rv a12, rv a14, rv a16, rv a18, .unset, .unset, .unset, .unset, .unset, .unset, .unset, .unset, .unset, .unset, .unset, .unset, .unset, .unset] [(.int (xp &&& (128 : Int32)))]) (mkF m 106 #[iv xp, iv xq, own_lv xs, .second, own_lv xu, .second, iv ra, iv rg, iv ri, iv rf, iv (0 : Int32), rv a6, rv a8, rv a10, rv a12, rv a14, rv a16, .unset, .unset, .unset, .unset, .unset, .unset, .unset, .unset, .unset, .unset, .unset, .unset, .unset, .unset, .unset] [(.ref a18)]) := by
      intro t kt
      refine XS.astore X18.here hx rfl (hb hby at_106) rfl rfl (l' := #[iv xp, iv xq, own_lv xs, .second, own_lv xu, .second, iv ra, iv rg, iv ri, iv rf, iv (0 : Int32), rv a6, rv a8, rv a10, rv a12, rv a14, rv a16, rv a18, .unset, .unset, .unset, .unset, .unset, .unset, .unset, .unset, .unset, .unset, .unset, .unset, .unset, .unset]) rfl ?_
      show own_S p e below T18 m 108 #[iv xp, iv xq, own_lv xs, .second, own_lv xu, .second, iv ra, iv rg, iv ri, iv rf, iv (0 : Int32), rv a6, rv a8, rv a10, rv a12, rv a14, rv a16, rv a18, .unset, .unset, .unset, .unset, .unset, .unset, .unset, .unset, .unset, .unset, .unset, .unset, .unset, .unset] [] _
      refine XS.iloadN X18.here hx rfl (hb hby at_108) rfl ?_
      show own_S p e below T18 m 109 #[iv xp, iv xq, own_lv xs, .second, own_lv xu, .second, iv ra, iv rg, iv ri, iv rf, iv (0 : Int32), rv a6, rv a8, rv a10, rv a12, rv a14, rv a16, rv a18, .unset, .unset, .unset, .unset, .unset, .unset, .unset, .unset, .unset, .unset, .unset, .unset, .unset, .unset] [(.int xp)] _
      refine XS.sipush X18.here hx rfl (hb hby at_109) ?_
      show own_S p e below T18 m 112 #[iv xp, iv xq, own_lv xs, .second, own_lv xu, .second, iv ra, iv rg, iv ri, iv rf, iv (0 : Int32), rv a6, rv a8, rv a10, rv a12, rv a14, rv a16, rv a18, .unset, .unset, .unset, .unset, .unset, .unset, .unset, .unset, .unset, .unset, .unset, .unset, .unset, .unset] [(.int (128 : Int32)), (.int xp)] _
      refine XS.iand X18.here hx rfl (hb hby at_112) rfl ?_
      show own_S p e below T18 m 113 #[iv xp, iv xq, own_lv xs, .second, own_lv xu, .second, iv ra, iv rg, iv ri, iv rf, iv (0 : Int32), rv a6, rv a8, rv a10, rv a12, rv a14, rv a16, rv a18, .unset, .unset, .unset, .unset, .unset, .unset, .unset, .unset, .unset, .unset, .unset, .unset, .unset, .unset] [(.int (xp &&& (128 : Int32)))] _
      exact kt
    refine own_st sg19 ?_
    obtain ⟨T20, _, ⟨h20, L20, s220, b220, rfl, X20, e20, N20, Z20, K20, S20, Q20⟩, st20⟩ : own_Pk p e below (fun T' f' => ∃ (h' : Heap) (locs' : List Loc) (s2 : Nat) (b2 : Nat), f' = (mkF m 129 #[iv xp, iv xq, own_lv xs, .second, own_lv xu, .second, iv ra, iv rg, iv ri, iv rf, iv (0 : Int32), rv a6, rv a8, rv a10, rv a12, rv a14, rv a16, rv a18, .unset, .unset, .unset, .unset, .unset, .unset, .unset, .unset, .unset, .unset, .unset, .unset, .unset, .unset] [(.ref s2)]) ∧ Stand p l e room_1 s m #[(.int xp), (.int xq), (.long xs), (.long xu)] below meth c T' locs' 24 48 ∧ T'.heap = h' ∧ Fr n0 locs' ∧ n0 ≤ h'.size ∧ (Keep T18.heap h' [] ∧ own_Str Z h' s2 b2 1 (fun _ => own_txc (ri ^^^ rg)) ∧ ((xp &&& (128 : Int32)) = (0 : Int32) ↔ ¬ a6 = s2))) T18 (mkF m 113 #[iv xp, iv xq, own_lv xs, .second, own_lv xu, .second, iv ra, iv rg, iv ri, iv rf, iv (0 : Int32), rv a6, rv a8, rv a10, rv a12, rv a14, rv a16, rv a18, .unset, .unset, .unset, .unset, .unset, .unset, .unset, .unset, .unset, .unset, .unset, .unset, .unset, .unset] [(.int (xp &&& (128 : Int32)))]) := by
      by_cases hc21 : (xp &&& (128 : Int32)) = (0 : Int32)
      · skip
        have sg22 : own_V p e below T18 (mkF m 121 #[iv xp, iv xq, own_lv xs, .second, own_lv xu, .second, iv ra, iv rg, iv ri, iv rf, iv (0 : Int32), rv a6, rv a8, rv a10, rv a12, rv a14, rv a16, rv a18, .unset, .unset, .unset, .unset, .unset, .unset, .unset, .unset, .unset, .unset, .unset, .unset, .unset, .unset] []) (mkF m 113 #[iv xp, iv xq, own_lv xs, .second, own_lv xu, .second, iv ra, iv rg, iv ri, iv rf, iv (0 : Int32), rv a6, rv a8, rv a10, rv a12, rv a14, rv a16, rv a18, .unset, .unset, .unset, .unset, .unset, .unset, .unset, .unset, .unset, .unset, .unset, .unset, .unset, .unset] [(.int (xp &&& (128 : Int32)))]) := by
          intro t kt
          refine XS.ifYes X18.here hx rfl (pc0 := 113) (pc' := 121) rfl (hb hby at_113) rfl ((if0 _ _).trans (teq hc21).1) (by decide) (by decide) ?_
          exact kt
        refine own_sp sg22 ?_
        have sg23 : own_V p e below T18 (mkF m 126 #[iv xp, iv xq, own_lv xs, .second, own_lv xu, .second, iv ra, iv rg, iv ri, iv rf, iv (0 : Int32), rv a6, rv a8, rv a10, rv a12, rv a14, rv a16, rv a18, .unset, .unset, .unset, .unset, .unset, .unset, .unset, .unset, .unset, .unset, .unset, .unset, .unset, .unset] [(.int (ri ^^^ rg))]) (mkF m 121 #[iv xp, iv xq, own_lv xs, .second, own_lv xu, .second, iv ra, iv rg, iv ri, iv rf, iv (0 : Int32), rv a6, rv a8, rv a10, rv a12, rv a14, rv a16, rv a18, .unset, .unset, .unset, .unset, .unset, .unset, .unset, .unset, .unset, .unset, .unset, .unset, .unset, .unset] []) := by
          intro t kt
          refine XS.iload X18.here hx rfl (hb hby at_121) rfl ?_
          show own_S p e below T18 m 123 #[iv xp, iv xq, own_lv xs, .second, own_lv xu, .second, iv ra, iv rg, iv ri, iv rf, iv (0 : Int32), rv a6, rv a8, rv a10, rv a12, rv a14, rv a16, rv a18, .unset, .unset, .unset, .unset, .unset, .unset, .unset, .unset, .unset, .unset, .unset, .unset, .unset, .unset] [(.int ri)] _
          refine XS.iload X18.here hx rfl (hb hby at_123) rfl ?_
          show own_S p e below T18 m 125 #[iv xp, iv xq, own_lv xs, .second, own_lv xu, .second, iv ra, iv rg, iv ri, iv rf, iv (0 : Int32), rv a6, rv a8, rv a10, rv a12, rv a14, rv a16, rv a18, .unset, .unset, .unset, .unset, .unset, .unset, .unset, .unset, .unset, .unset, .unset, .unset, .unset, .unset] [(.int rg), (.int ri)] _
          refine XS.ixor X18.here hx rfl (hb hby at_125) rfl ?_
          show own_S p e below T18 m 126 #[iv xp, iv xq, own_lv xs, .second, own_lv xu, .second, iv ra, iv rg, iv ri, iv rf, iv (0 : Int32), rv a6, rv a8, rv a10, rv a12, rv a14, rv a16, rv a18, .unset, .unset, .unset, .unset, .unset, .unset, .unset, .unset, .unset, .unset, .unset, .unset, .unset, .unset] [(.int (ri ^^^ rg))] _
          exact kt
        refine own_sp sg23 ?_
        obtain ⟨_, T24, L24, X24, hQ24, st24⟩ := own_callS (y := (⟨"com/example/coverfold/coverfold/UsageSharesTextsOfKindPinLaw", "text", "(I)Ljava/lang/String;"⟩ : MethodName)) X18 hx hZ hown (hw _ (List.mem_of_getElem? (i := 0) rfl)) (hw _ (List.mem_of_getElem? (i := 1) rfl)) (hw _ (List.mem_of_getElem? (i := 2) rfl)) (hw _ (List.mem_of_getElem? (i := 3) rfl)) (by decide) (own_rmtx l Z a0 hw (ri ^^^ rg) cc T18.heap n0 Z18 SC_18 hcc) rfl (g := (mkF m 126 #[iv xp, iv xq, own_lv xs, .second, own_lv xu, .second, iv ra, iv rg, iv ri, iv rf, iv (0 : Int32), rv a6, rv a8, rv a10, rv a12, rv a14, rv a16, rv a18, .unset, .unset, .unset, .unset, .unset, .unset, .unset, .unset, .unset, .unset, .unset, .unset, .unset, .unset] [(.int (ri ^^^ rg))])) rfl (by rw [hml]; rfl) (argsL := [(.int (ri ^^^ rg))]) (rest := []) (lenOf own_pd14 rfl) rfl (W := 0) (by show 2 * 0 + _ ≤ _; exact Nat.le_of_eq rfl) (hb hby at_126) (by decide) (by decide) (by decide) (by decide)
        obtain ⟨a24, b24, rfl, Nq24, K24, sa24, sb24, S24⟩ := hQ24
        refine own_sp st24 ?_
        have Z24 : n0 ≤ T24.heap.size := Nat.le_trans Z18 K24.1
        have kk24 : 0 ≤ T24.heap.size := Nat.le_trans kk18 K24.1
        have N24 := Fr.app N18 Nq24
        show own_Pk p e below _ T24 (mkF m 129 #[iv xp, iv xq, own_lv xs, .second, own_lv xu, .second, iv ra, iv rg, iv ri, iv rf, iv (0 : Int32), rv a6, rv a8, rv a10, rv a12, rv a14, rv a16, rv a18, .unset, .unset, .unset, .unset, .unset, .unset, .unset, .unset, .unset, .unset, .unset, .unset, .unset, .unset] [(.ref a24)])
        have SC_24 := own_Sta.keep SC_18 K24
        have T11_24 := T11_18.keep K24 nin0 nin0
        exact ⟨T24, _, ⟨_, _, a24, b24, rfl, X24, rfl, N24, Z24, ⟨K24, S24, ⟨fun _ => Nat.ne_of_lt (Nat.lt_of_lt_of_le T11_18.lt sa24), fun _ => hc21⟩⟩⟩, fun t k => k⟩
      have sg25 : own_V p e below T18 (mkF m 116 #[iv xp, iv xq, own_lv xs, .second, own_lv xu, .second, iv ra, iv rg, iv ri, iv rf, iv (0 : Int32), rv a6, rv a8, rv a10, rv a12, rv a14, rv a16, rv a18, .unset, .unset, .unset, .unset, .unset, .unset, .unset, .unset, .unset, .unset, .unset, .unset, .unset, .unset] []) (mkF m 113 #[iv xp, iv xq, own_lv xs, .second, own_lv xu, .second, iv ra, iv rg, iv ri, iv rf, iv (0 : Int32), rv a6, rv a8, rv a10, rv a12, rv a14, rv a16, rv a18, .unset, .unset, .unset, .unset, .unset, .unset, .unset, .unset, .unset, .unset, .unset, .unset, .unset, .unset] [(.int (xp &&& (128 : Int32)))]) := by
        intro t kt
        refine XS.ifNo X18.here hx rfl (hb hby at_113) rfl ((if0 _ _).trans (feq hc21).1) ?_
        exact kt
      refine own_sp sg25 ?_
      have sg26 : own_V p e below T18 (mkF m 129 #[iv xp, iv xq, own_lv xs, .second, own_lv xu, .second, iv ra, iv rg, iv ri, iv rf, iv (0 : Int32), rv a6, rv a8, rv a10, rv a12, rv a14, rv a16, rv a18, .unset, .unset, .unset, .unset, .unset, .unset, .unset, .unset, .unset, .unset, .unset, .unset, .unset, .unset] [(.ref a6)]) (mkF m 116 #[iv xp, iv xq, own_lv xs, .second, own_lv xu, .second, iv ra, iv rg, iv ri, iv rf, iv (0 : Int32), rv a6, rv a8, rv a10, rv a12, rv a14, rv a16, rv a18, .unset, .unset, .unset, .unset, .unset, .unset, .unset, .unset, .unset, .unset, .unset, .unset, .unset, .unset] []) := by
        intro t kt
        refine XS.aload X18.here hx rfl (hb hby at_116) rfl rfl ?_
        show own_S p e below T18 m 118 #[iv xp, iv xq, own_lv xs, .second, own_lv xu, .second, iv ra, iv rg, iv ri, iv rf, iv (0 : Int32), rv a6, rv a8, rv a10, rv a12, rv a14, rv a16, rv a18, .unset, .unset, .unset, .unset, .unset, .unset, .unset, .unset, .unset, .unset, .unset, .unset, .unset, .unset] [(.ref a6)] _
        refine XS.goto X18.here hx rfl (pc0 := 118) (pc' := 129) rfl (hb hby at_118) (by decide) (by decide) ?_
        show own_S p e below T18 m 129 #[iv xp, iv xq, own_lv xs, .second, own_lv xu, .second, iv ra, iv rg, iv ri, iv rf, iv (0 : Int32), rv a6, rv a8, rv a10, rv a12, rv a14, rv a16, rv a18, .unset, .unset, .unset, .unset, .unset, .unset, .unset, .unset, .unset, .unset, .unset, .unset, .unset, .unset] [(.ref a6)] _
        exact kt
      refine own_sp sg26 ?_
      have XM := X18.mono (cells' := 24) (slots' := 48) (by decide) (by decide)
      exact ⟨T18, _, ⟨_, _, a6, b6, rfl, XM, rfl, N18, Z18, ⟨Keep.refl _ [], T11_18, ⟨fun z => absurd z hc21, fun z => absurd rfl z⟩⟩⟩, fun t k => k⟩
    refine own_st st20 ?_
    show own_Go p e below _ T20 (mkF m 129 #[iv xp, iv xq, own_lv xs, .second, own_lv xu, .second, iv ra, iv rg, iv ri, iv rf, iv (0 : Int32), rv a6, rv a8, rv a10, rv a12, rv a14, rv a16, rv a18, .unset, .unset, .unset, .unset, .unset, .unset, .unset, .unset, .unset, .unset, .unset, .unset, .unset, .unset] [(.ref s220)])
    have SC_20 := own_Sta.keep SC_18 K20
    have T11_20 := T11_18.keep K20 nin0 nin0
    have T12_20 := T12_18.keep K20 nin0 nin0
    have T13_20 := T13_18.keep K20 nin0 nin0
    have T14_20 := T14_18.keep K20 nin0 nin0
    have T15_20 := T15_18.keep K20 nin0 nin0
    have T16_20 := T16_18.keep K20 nin0 nin0
    have T17_20 := S18.keep K20 nin0 nin0
    have kk20 : 0 ≤ h20.size := Nat.le_trans kk18 K20.1
    have sg27 : own_V p e below T20 (mkF m 134 #[iv xp, iv xq, own_lv xs, .second, own_lv xu, .second, iv ra, iv rg, iv ri, iv rf, iv (0 : Int32), rv a6, rv a8, rv a10, rv a12, rv a14, rv a16, rv a18, rv s220, .unset, .unset, .unset, .unset, .unset, .unset, .unset, .unset, .unset, .unset, .unset, .unset, .unset] [(.int (xp &&& (1 : Int32)))]) (mkF m 129 #[iv xp, iv xq, own_lv xs, .second, own_lv xu, .second, iv ra, iv rg, iv ri, iv rf, iv (0 : Int32), rv a6, rv a8, rv a10, rv a12, rv a14, rv a16, rv a18, .unset, .unset, .unset, .unset, .unset, .unset, .unset, .unset, .unset, .unset, .unset, .unset, .unset, .unset] [(.ref s220)]) := by
      intro t kt
      refine XS.astore X20.here hx rfl (hb hby at_129) rfl rfl (l' := #[iv xp, iv xq, own_lv xs, .second, own_lv xu, .second, iv ra, iv rg, iv ri, iv rf, iv (0 : Int32), rv a6, rv a8, rv a10, rv a12, rv a14, rv a16, rv a18, rv s220, .unset, .unset, .unset, .unset, .unset, .unset, .unset, .unset, .unset, .unset, .unset, .unset, .unset]) rfl ?_
      show own_S p e below T20 m 131 #[iv xp, iv xq, own_lv xs, .second, own_lv xu, .second, iv ra, iv rg, iv ri, iv rf, iv (0 : Int32), rv a6, rv a8, rv a10, rv a12, rv a14, rv a16, rv a18, rv s220, .unset, .unset, .unset, .unset, .unset, .unset, .unset, .unset, .unset, .unset, .unset, .unset, .unset] [] _
      refine XS.iloadN X20.here hx rfl (hb hby at_131) rfl ?_
      show own_S p e below T20 m 132 #[iv xp, iv xq, own_lv xs, .second, own_lv xu, .second, iv ra, iv rg, iv ri, iv rf, iv (0 : Int32), rv a6, rv a8, rv a10, rv a12, rv a14, rv a16, rv a18, rv s220, .unset, .unset, .unset, .unset, .unset, .unset, .unset, .unset, .unset, .unset, .unset, .unset, .unset] [(.int xp)] _
      refine XS.iconst X20.here hx rfl (hb hby at_132) ?_
      show own_S p e below T20 m 133 #[iv xp, iv xq, own_lv xs, .second, own_lv xu, .second, iv ra, iv rg, iv ri, iv rf, iv (0 : Int32), rv a6, rv a8, rv a10, rv a12, rv a14, rv a16, rv a18, rv s220, .unset, .unset, .unset, .unset, .unset, .unset, .unset, .unset, .unset, .unset, .unset, .unset, .unset] [(.int (1 : Int32)), (.int xp)] _
      refine XS.iand X20.here hx rfl (hb hby at_133) rfl ?_
      show own_S p e below T20 m 134 #[iv xp, iv xq, own_lv xs, .second, own_lv xu, .second, iv ra, iv rg, iv ri, iv rf, iv (0 : Int32), rv a6, rv a8, rv a10, rv a12, rv a14, rv a16, rv a18, rv s220, .unset, .unset, .unset, .unset, .unset, .unset, .unset, .unset, .unset, .unset, .unset, .unset, .unset] [(.int (xp &&& (1 : Int32)))] _
      exact kt
    refine own_st sg27 ?_
    obtain ⟨T28, _, ⟨h28, L28, s228, b228, rfl, X28, e28, N28, Z28, K28, S28, Q28⟩, st28⟩ : own_Pk p e below (fun T' f' => ∃ (h' : Heap) (locs' : List Loc) (s2 : Nat) (b2 : Nat), f' = (mkF m 147 #[iv xp, iv xq, own_lv xs, .second, own_lv xu, .second, iv ra, iv rg, iv ri, iv rf, iv (0 : Int32), rv a6, rv a8, rv a10, rv a12, rv a14, rv a16, rv a18, rv s220, .unset, .unset, .unset, .unset, .unset, .unset, .unset, .unset, .unset, .unset, .unset, .unset, .unset] [(.ref s2)]) ∧ Stand p l e room_1 s m #[(.int xp), (.int xq), (.long xs), (.long xu)] below meth c T' locs' 27 54 ∧ T'.heap = h' ∧ Fr n0 locs' ∧ n0 ≤ h'.size ∧ (Keep h20 h' [] ∧ own_Str Z h' s2 b2 1 (fun _ => own_txc ra) ∧ ((xp &&& (1 : Int32)) = (0 : Int32) ↔ ¬ a8 = s2))) T20 (mkF m 134 #[iv xp, iv xq, own_lv xs, .second, own_lv xu, .second, iv ra, iv rg, iv ri, iv rf, iv (0 : Int32), rv a6, rv a8, rv a10, rv a12, rv a14, rv a16, rv a18, rv s220, .unset, .unset, .unset, .unset, .unset, .unset, .unset, .unset, .unset, .unset, .unset, .unset, .unset] [(.int (xp &&& (1 : Int32)))]) := by
      by_cases hc29 : (xp &&& (1 : Int32)) = (0 : Int32)
      · skip
        have sg30 : own_V p e below T20 (mkF m 142 #[iv xp, iv xq, own_lv xs, .second, own_lv xu, .second, iv ra, iv rg, iv ri, iv rf, iv (0 : Int32), rv a6, rv a8, rv a10, rv a12, rv a14, rv a16, rv a18, rv s220, .unset, .unset, .unset, .unset, .unset, .unset, .unset, .unset, .unset, .unset, .unset, .unset, .unset] []) (mkF m 134 #[iv xp, iv xq, own_lv xs, .second, own_lv xu, .second, iv ra, iv rg, iv ri, iv rf, iv (0 : Int32), rv a6, rv a8, rv a10, rv a12, rv a14, rv a16, rv a18, rv s220, .unset, .unset, .unset, .unset, .unset, .unset, .unset, .unset, .unset, .unset, .unset, .unset, .unset] [(.int (xp &&& (1 : Int32)))]) := by
          intro t kt
          refine XS.ifYes X20.here hx rfl (pc0 := 134) (pc' := 142) rfl (hb hby at_134) rfl ((if0 _ _).trans (teq hc29).1) (by decide) (by decide) ?_
          exact kt
        refine own_sp sg30 ?_
        have sg31 : own_V p e below T20 (mkF m 144 #[iv xp, iv xq, own_lv xs, .second, own_lv xu, .second, iv ra, iv rg, iv ri, iv rf, iv (0 : Int32), rv a6, rv a8, rv a10, rv a12, rv a14, rv a16, rv a18, rv s220, .unset, .unset, .unset, .unset, .unset, .unset, .unset, .unset, .unset, .unset, .unset, .unset, .unset] [(.int ra)]) (mkF m 142 #[iv xp, iv xq, own_lv xs, .second, own_lv xu, .second, iv ra, iv rg, iv ri, iv rf, iv (0 : Int32), rv a6, rv a8, rv a10, rv a12, rv a14, rv a16, rv a18, rv s220, .unset, .unset, .unset, .unset, .unset, .unset, .unset, .unset, .unset, .unset, .unset, .unset, .unset] []) := by
          intro t kt
          refine XS.iload X20.here hx rfl (hb hby at_142) rfl ?_
          show own_S p e below T20 m 144 #[iv xp, iv xq, own_lv xs, .second, own_lv xu, .second, iv ra, iv rg, iv ri, iv rf, iv (0 : Int32), rv a6, rv a8, rv a10, rv a12, rv a14, rv a16, rv a18, rv s220, .unset, .unset, .unset, .unset, .unset, .unset, .unset, .unset, .unset, .unset, .unset, .unset, .unset] [(.int ra)] _
          exact kt
        refine own_sp sg31 ?_
        obtain ⟨_, T32, L32, X32, hQ32, st32⟩ := own_callS (y := (⟨"com/example/coverfold/coverfold/UsageSharesTextsOfKindPinLaw", "text", "(I)Ljava/lang/String;"⟩ : MethodName)) X20 hx hZ hown (hw _ (List.mem_of_getElem? (i := 0) rfl)) (hw _ (List.mem_of_getElem? (i := 1) rfl)) (hw _ (List.mem_of_getElem? (i := 2) rfl)) (hw _ (List.mem_of_getElem? (i := 3) rfl)) (by decide) (own_rmtx l Z a0 hw ra cc h20 n0 Z20 SC_20 hcc) e20 (g := (mkF m 144 #[iv xp, iv xq, own_lv xs, .second, own_lv xu, .second, iv ra, iv rg, iv ri, iv rf, iv (0 : Int32), rv a6, rv a8, rv a10, rv a12, rv a14, rv a16, rv a18, rv s220, .unset, .unset, .unset, .unset, .unset, .unset, .unset, .unset, .unset, .unset, .unset, .unset, .unset] [(.int ra)])) rfl (by rw [hml]; rfl) (argsL := [(.int ra)]) (rest := []) (lenOf own_pd14 rfl) rfl (W := 0) (by show 2 * 0 + _ ≤ _; exact Nat.le_of_eq rfl) (hb hby at_144) (by decide) (by decide) (by decide) (by decide)
        obtain ⟨a32, b32, rfl, Nq32, K32, sa32, sb32, S32⟩ := hQ32
        refine own_sp st32 ?_
        have Z32 : n0 ≤ T32.heap.size := Nat.le_trans Z20 K32.1
        have kk32 : 0 ≤ T32.heap.size := Nat.le_trans kk20 K32.1
        have N32 := Fr.app N20 Nq32
        show own_Pk p e below _ T32 (mkF m 147 #[iv xp, iv xq, own_lv xs, .second, own_lv xu, .second, iv ra, iv rg, iv ri, iv rf, iv (0 : Int32), rv a6, rv a8, rv a10, rv a12, rv a14, rv a16, rv a18, rv s220, .unset, .unset, .unset, .unset, .unset, .unset, .unset, .unset, .unset, .unset, .unset, .unset, .unset] [(.ref a32)])
        have SC_32 := own_Sta.keep SC_20 K32
        have T12_32 := T12_20.keep K32 nin0 nin0
        exact ⟨T32, _, ⟨_, _, a32, b32, rfl, X32, rfl, N32, Z32, ⟨K32, S32, ⟨fun _ => Nat.ne_of_lt (Nat.lt_of_lt_of_le T12_20.lt sa32), fun _ => hc29⟩⟩⟩, fun t k => k⟩
      have sg33 : own_V p e below T20 (mkF m 137 #[iv xp, iv xq, own_lv xs, .second, own_lv xu, .second, iv ra, iv rg, iv ri, iv rf, iv (0 : Int32), rv a6, rv a8, rv a10, rv a12, rv a14, rv a16, rv a18, rv s220, .unset, .unset, .unset, .unset, .unset, .unset, .unset, .unset, .unset, .unset, .unset, .unset, .unset] []) (mkF m 134 #[iv xp, iv xq, own_lv xs, .second, own_lv xu, .second, iv ra, iv rg, iv ri, iv rf, iv (0 : Int32), rv a6, rv a8, rv a10, rv a12, rv a14, rv a16, rv a18, rv s220, .unset, .unset, .unset, .unset, .unset, .unset, .unset, .unset, .unset, .unset, .unset, .unset, .unset] [(.int (xp &&& (1 : Int32)))]) := by
        intro t kt
        refine XS.ifNo X20.here hx rfl (hb hby at_134) rfl ((if0 _ _).trans (feq hc29).1) ?_
        exact kt
      refine own_sp sg33 ?_
      have sg34 : own_V p e below T20 (mkF m 147 #[iv xp, iv xq, own_lv xs, .second, own_lv xu, .second, iv ra, iv rg, iv ri, iv rf, iv (0 : Int32), rv a6, rv a8, rv a10, rv a12, rv a14, rv a16, rv a18, rv s220, .unset, .unset, .unset, .unset, .unset, .unset, .unset, .unset, .unset, .unset, .unset, .unset, .unset] [(.ref a8)]) (mkF m 137 #[iv xp, iv xq, own_lv xs, .second, own_lv xu, .second, iv ra, iv rg, iv ri, iv rf, iv (0 : Int32), rv a6, rv a8, rv a10, rv a12, rv a14, rv a16, rv a18, rv s220, .unset, .unset, .unset, .unset, .unset, .unset, .unset, .unset, .unset, .unset, .unset, .unset, .unset] []) := by
        intro t kt
        refine XS.aload X20.here hx rfl (hb hby at_137) rfl rfl ?_
        show own_S p e below T20 m 139 #[iv xp, iv xq, own_lv xs, .second, own_lv xu, .second, iv ra, iv rg, iv ri, iv rf, iv (0 : Int32), rv a6, rv a8, rv a10, rv a12, rv a14, rv a16, rv a18, rv s220, .unset, .unset, .unset, .unset, .unset, .unset, .unset, .unset, .unset, .unset, .unset, .unset, .unset] [(.ref a8)] _
        refine XS.goto X20.here hx rfl (pc0 := 139) (pc' := 147) rfl (hb hby at_139) (by decide) (by decide) ?_
        show own_S p e below T20 m 147 #[iv xp, iv xq, own_lv xs, .second, own_lv xu, .second, iv ra, iv rg, iv ri, iv rf, iv (0 : Int32), rv a6, rv a8, rv a10, rv a12, rv a14, rv a16, rv a18, rv s220, .unset, .unset, .unset, .unset, .unset, .unset, .unset, .unset, .unset, .unset, .unset, .unset, .unset] [(.ref a8)] _
        exact kt
      refine own_sp sg34 ?_
      have XM := X20.mono (cells' := 27) (slots' := 54) (by decide) (by decide)
      exact ⟨T20, _, ⟨_, _, a8, b8, rfl, XM, e20, N20, Z20, ⟨Keep.refl _ [], T12_20, ⟨fun z => absurd z hc29, fun z => absurd rfl z⟩⟩⟩, fun t k => k⟩
    refine own_st st28 ?_
    show own_Go p e below _ T28 (mkF m 147 #[iv xp, iv xq, own_lv xs, .second, own_lv xu, .second, iv ra, iv rg, iv ri, iv rf, iv (0 : Int32), rv a6, rv a8, rv a10, rv a12, rv a14, rv a16, rv a18, rv s220, .unset, .unset, .unset, .unset, .unset, .unset, .unset, .unset, .unset, .unset, .unset, .unset, .unset] [(.ref s228)])
    have SC_28 := own_Sta.keep SC_20 K28
    have T11_28 := T11_20.keep K28 nin0 nin0
    have T12_28 := T12_20.keep K28 nin0 nin0
    have T13_28 := T13_20.keep K28 nin0 nin0
    have T14_28 := T14_20.keep K28 nin0 nin0
    have T15_28 := T15_20.keep K28 nin0 nin0
    have T16_28 := T16_20.keep K28 nin0 nin0
    have T17_28 := T17_20.keep K28 nin0 nin0
    have T11b_28 := S20.keep K28 nin0 nin0
    have kk28 : 0 ≤ h28.size := Nat.le_trans kk20 K28.1
    have sg35 : own_V p e below T28 (mkF m 152 #[iv xp, iv xq, own_lv xs, .second, own_lv xu, .second, iv ra, iv rg, iv ri, iv rf, iv (0 : Int32), rv a6, rv a8, rv a10, rv a12, rv a14, rv a16, rv a18, rv s220, rv s228, .unset, .unset, .unset, .unset, .unset, .unset, .unset, .unset, .unset, .unset, .unset, .unset] [(.int (xp &&& (2 : Int32)))]) (mkF m 147 #[iv xp, iv xq, own_lv xs, .second, own_lv xu, .second, iv ra, iv rg, iv ri, iv rf, iv (0 : Int32), rv a6, rv a8, rv a10, rv a12, rv a14, rv a16, rv a18, rv s220, .unset, .unset, .unset, .unset, .unset, .unset, .unset, .unset, .unset, .unset, .unset, .unset, .unset] [(.ref s228)]) := by
      intro t kt
      refine XS.astore X28.here hx rfl (hb hby at_147) rfl rfl (l' := #[iv xp, iv xq, own_lv xs, .second, own_lv xu, .second, iv ra, iv rg, iv ri, iv rf, iv (0 : Int32), rv a6, rv a8, rv a10, rv a12, rv a14, rv a16, rv a18, rv s220, rv s228, .unset, .unset, .unset, .unset, .unset, .unset, .unset, .unset, .unset, .unset, .unset, .unset]) rfl ?_
      show own_S p e below T28 m 149 #[iv xp, iv xq, own_lv xs, .second, own_lv xu, .second, iv ra, iv rg, iv ri, iv rf, iv (0 : Int32), rv a6, rv a8, rv a10, rv a12, rv a14, rv a16, rv a18, rv s220, rv s228, .unset, .unset, .unset, .unset, .unset, .unset, .unset, .unset, .unset, .unset, .unset, .unset] [] _
      refine XS.iloadN X28.here hx rfl (hb hby at_149) rfl ?_
      show own_S p e below T28 m 150 #[iv xp, iv xq, own_lv xs, .second, own_lv xu, .second, iv ra, iv rg, iv ri, iv rf, iv (0 : Int32), rv a6, rv a8, rv a10, rv a12, rv a14, rv a16, rv a18, rv s220, rv s228, .unset, .unset, .unset, .unset, .unset, .unset, .unset, .unset, .unset, .unset, .unset, .unset] [(.int xp)] _
      refine XS.iconst X28.here hx rfl (hb hby at_150) ?_
      show own_S p e below T28 m 151 #[iv xp, iv xq, own_lv xs, .second, own_lv xu, .second, iv ra, iv rg, iv ri, iv rf, iv (0 : Int32), rv a6, rv a8, rv a10, rv a12, rv a14, rv a16, rv a18, rv s220, rv s228, .unset, .unset, .unset, .unset, .unset, .unset, .unset, .unset, .unset, .unset, .unset, .unset] [(.int (2 : Int32)), (.int xp)] _
      refine XS.iand X28.here hx rfl (hb hby at_151) rfl ?_
      show own_S p e below T28 m 152 #[iv xp, iv xq, own_lv xs, .second, own_lv xu, .second, iv ra, iv rg, iv ri, iv rf, iv (0 : Int32), rv a6, rv a8, rv a10, rv a12, rv a14, rv a16, rv a18, rv s220, rv s228, .unset, .unset, .unset, .unset, .unset, .unset, .unset, .unset, .unset, .unset, .unset, .unset] [(.int (xp &&& (2 : Int32)))] _
      exact kt
    refine own_st sg35 ?_
    obtain ⟨T36, _, ⟨h36, L36, s236, b236, rfl, X36, e36, N36, Z36, K36, S36, Q36⟩, st36⟩ : own_Pk p e below (fun T' f' => ∃ (h' : Heap) (locs' : List Loc) (s2 : Nat) (b2 : Nat), f' = (mkF m 165 #[iv xp, iv xq, own_lv xs, .second, own_lv xu, .second, iv ra, iv rg, iv ri, iv rf, iv (0 : Int32), rv a6, rv a8, rv a10, rv a12, rv a14, rv a16, rv a18, rv s220, rv s228, .unset, .unset, .unset, .unset, .unset, .unset, .unset, .unset, .unset, .unset, .unset, .unset] [(.ref s2)]) ∧ Stand p l e room_1 s m #[(.int xp), (.int xq), (.long xs), (.long xu)] below meth c T' locs' 30 60 ∧ T'.heap = h' ∧ Fr n0 locs' ∧ n0 ≤ h'.size ∧ (Keep h28 h' [] ∧ own_Str Z h' s2 b2 1 (fun _ => own_txc rg) ∧ ((xp &&& (2 : Int32)) = (0 : Int32) ↔ ¬ a10 = s2))) T28 (mkF m 152 #[iv xp, iv xq, own_lv xs, .second, own_lv xu, .second, iv ra, iv rg, iv ri, iv rf, iv (0 : Int32), rv a6, rv a8, rv a10, rv a12, rv a14, rv a16, rv a18, rv s220, rv s228, .unset, .unset, .unset, .unset, .unset, .unset, .unset, .unset, .unset, .unset, .unset, .unset] [(.int (xp &&& (2 : Int32)))]) := by
      by_cases hc37 : (xp &&& (2 : Int32)) = (0 : Int32)
      · skip
        have sg38 : own_V p e below T28 (mkF m 160 #[iv xp, iv xq, own_lv xs, .second, own_lv xu, .second, iv ra, iv rg, iv ri, iv rf, iv (0 : Int32), rv a6, rv a8, rv a10, rv a12, rv a14, rv a16, rv a18, rv s220, rv s228, .unset, .unset, .unset, .unset, .unset, .unset, .unset, .unset, .unset, .unset, .unset, .unset] []) (mkF m 152 #[iv xp, iv xq, own_lv xs, .second, own_lv xu, .second, iv ra, iv rg, iv ri, iv rf, iv (0 : Int32), rv a6, rv a8, rv a10, rv a12, rv a14, rv a16, rv a18, rv s220, rv s228, .unset, .unset, .unset, .unset, .unset, .unset, .unset, .unset, .unset, .unset, .unset, .unset] [(.int (xp &&& (2 : Int32)))]) := by
          intro t kt
          refine XS.ifYes X28.here hx rfl (pc0 := 152) (pc' := 160) rfl (hb hby at_152) rfl ((if0 _ _).trans (teq hc37).1) (by decide) (by decide) ?_
          exact kt
        refine own_sp sg38 ?_
        have sg39 : own_V p e below T28 (mkF m 162 #[iv xp, iv xq, own_lv xs, .second, own_lv xu, .second, iv ra, iv rg, iv ri, iv rf, iv (0 : Int32), rv a6, rv a8, rv a10, rv a12, rv a14, rv a16, rv a18, rv s220, rv s228, .unset, .unset, .unset, .unset, .unset, .unset, .unset, .unset, .unset, .unset, .unset, .unset] [(.int rg)]) (mkF m 160 #[iv xp, iv xq, own_lv xs, .second, own_lv xu, .second, iv ra, iv rg, iv ri, iv rf, iv (0 : Int32), rv a6, rv a8, rv a10, rv a12, rv a14, rv a16, rv a18, rv s220, rv s228, .unset, .unset, .unset, .unset, .unset, .unset, .unset, .unset, .unset, .unset, .unset, .unset] []) := by
          intro t kt
          refine XS.iload X28.here hx rfl (hb hby at_160) rfl ?_
          show own_S p e below T28 m 162 #[iv xp, iv xq, own_lv xs, .second, own_lv xu, .second, iv ra, iv rg, iv ri, iv rf, iv (0 : Int32), rv a6, rv a8, rv a10, rv a12, rv a14, rv a16, rv a18, rv s220, rv s228, .unset, .unset, .unset, .unset, .unset, .unset, .unset, .unset, .unset, .unset, .unset, .unset] [(.int rg)] _
          exact kt
        refine own_sp sg39 ?_
        obtain ⟨_, T40, L40, X40, hQ40, st40⟩ := own_callS (y := (⟨"com/example/coverfold/coverfold/UsageSharesTextsOfKindPinLaw", "text", "(I)Ljava/lang/String;"⟩ : MethodName)) X28 hx hZ hown (hw _ (List.mem_of_getElem? (i := 0) rfl)) (hw _ (List.mem_of_getElem? (i := 1) rfl)) (hw _ (List.mem_of_getElem? (i := 2) rfl)) (hw _ (List.mem_of_getElem? (i := 3) rfl)) (by decide) (own_rmtx l Z a0 hw rg cc h28 n0 Z28 SC_28 hcc) e28 (g := (mkF m 162 #[iv xp, iv xq, own_lv xs, .second, own_lv xu, .second, iv ra, iv rg, iv ri, iv rf, iv (0 : Int32), rv a6, rv a8, rv a10, rv a12, rv a14, rv a16, rv a18, rv s220, rv s228, .unset, .unset, .unset, .unset, .unset, .unset, .unset, .unset, .unset, .unset, .unset, .unset] [(.int rg)])) rfl (by rw [hml]; rfl) (argsL := [(.int rg)]) (rest := []) (lenOf own_pd14 rfl) rfl (W := 0) (by show 2 * 0 + _ ≤ _; exact Nat.le_of_eq rfl) (hb hby at_162) (by decide) (by decide) (by decide) (by decide)
        obtain ⟨a40, b40, rfl, Nq40, K40, sa40, sb40, S40⟩ := hQ40
        refine own_sp st40 ?_
        have Z40 : n0 ≤ T40.heap.size := Nat.le_trans Z28 K40.1
        have kk40 : 0 ≤ T40.heap.size := Nat.le_trans kk28 K40.1
        have N40 := Fr.app N28 Nq40
        show own_Pk p e below _ T40 (mkF m 165 #[iv xp, iv xq, own_lv xs, .second, own_lv xu, .second, iv ra, iv rg, iv ri, iv rf, iv (0 : Int32), rv a6, rv a8, rv a10, rv a12, rv a14, rv a16, rv a18, rv s220, rv s228, .unset, .unset, .unset, .unset, .unset, .unset, .unset, .unset, .unset, .unset, .unset, .unset] [(.ref a40)])
        have SC_40 := own_Sta.keep SC_28 K40
        have T13_40 := T13_28.keep K40 nin0 nin0
        exact ⟨T40, _, ⟨_, _, a40, b40, rfl, X40, rfl, N40, Z40, ⟨K40, S40, ⟨fun _ => Nat.ne_of_lt (Nat.lt_of_lt_of_le T13_28.lt sa40), fun _ => hc37⟩⟩⟩, fun t k => k⟩
      have sg41 : own_V p e below T28 (mkF m 155 #[iv xp, iv xq, own_lv xs, .second, own_lv xu, .second, iv ra, iv rg, iv ri, iv rf, iv (0 : Int32), rv a6, rv a8, rv a10, rv a12, rv a14, rv a16, rv a18, rv s220, rv s228, .unset, .unset, .unset, .unset, .unset, .unset, .unset, .unset, .unset, .unset, .unset, .unset] []) (mkF m 152 #[iv xp, iv xq, own_lv xs, .second, own_lv xu, .second, iv ra, iv rg, iv ri, iv rf, iv (0 : Int32), rv a6, rv a8, rv a10, rv a12, rv a14, rv a16, rv a18, rv s220, rv s228, .unset, .unset, .unset, .unset, .unset, .unset, .unset, .unset, .unset, .unset, .unset, .unset] [(.int (xp &&& (2 : Int32)))]) := by
        intro t kt
        refine XS.ifNo X28.here hx rfl (hb hby at_152) rfl ((if0 _ _).trans (feq hc37).1) ?_
        exact kt
      refine own_sp sg41 ?_
      have sg42 : own_V p e below T28 (mkF m 165 #[iv xp, iv xq, own_lv xs, .second, own_lv xu, .second, iv ra, iv rg, iv ri, iv rf, iv (0 : Int32), rv a6, rv a8, rv a10, rv a12, rv a14, rv a16, rv a18, rv s220, rv s228, .unset, .unset, .unset, .unset, .unset, .unset, .unset, .unset, .unset, .unset, .unset, .unset] [(.ref a10)]) (mkF m 155 #[iv xp, iv xq, own_lv xs, .second, own_lv xu, .second, iv ra, iv rg, iv ri, iv rf, iv (0 : Int32), rv a6, rv a8, rv a10, rv a12, rv a14, rv a16, rv a18, rv s220, rv s228, .unset, .unset, .unset, .unset, .unset, .unset, .unset, .unset, .unset, .unset, .unset, .unset] []) := by
        intro t kt
        refine XS.aload X28.here hx rfl (hb hby at_155) rfl rfl ?_
        show own_S p e below T28 m 157 #[iv xp, iv xq, own_lv xs, .second, own_lv xu, .second, iv ra, iv rg, iv ri, iv rf, iv (0 : Int32), rv a6, rv a8, rv a10, rv a12, rv a14, rv a16, rv a18, rv s220, rv s228, .unset, .unset, .unset, .unset, .unset, .unset, .unset, .unset, .unset, .unset, .unset, .unset] [(.ref a10)] _
        refine XS.goto X28.here hx rfl (pc0 := 157) (pc' := 165) rfl (hb hby at_157) (by decide) (by decide) ?_
        show own_S p e below T28 m 165 #[iv xp, iv xq, own_lv xs, .second, own_lv xu, .second, iv ra, iv rg, iv ri, iv rf, iv (0 : Int32), rv a6, rv a8, rv a10, rv a12, rv a14, rv a16, rv a18, rv s220, rv s228, .unset, .unset, .unset, .unset, .unset, .unset, .unset, .unset, .unset, .unset, .unset, .unset] [(.ref a10)] _
        exact kt
      refine own_sp sg42 ?_
      have XM := X28.mono (cells' := 30) (slots' := 60) (by decide) (by decide)
      exact ⟨T28, _, ⟨_, _, a10, b10, rfl, XM, e28, N28, Z28, ⟨Keep.refl _ [], T13_28, ⟨fun z => absurd z hc37, fun z => absurd rfl z⟩⟩⟩, fun t k => k⟩
    refine own_st st36 ?_
    show own_Go p e below _ T36 (mkF m 165 #[iv xp, iv xq, own_lv xs, .second, own_lv xu, .second, iv ra, iv rg, iv ri, iv rf, iv (0 : Int32), rv a6, rv a8, rv a10, rv a12, rv a14, rv a16, rv a18, rv s220, rv s228, .unset, .unset, .unset, .unset, .unset, .unset, .unset, .unset, .unset, .unset, .unset, .unset] [(.ref s236)])
    have SC_36 := own_Sta.keep SC_28 K36
    have T11_36 := T11_28.keep K36 nin0 nin0
    have T12_36 := T12_28.keep K36 nin0 nin0
    have T13_36 := T13_28.keep K36 nin0 nin0
    have T14_36 := T14_28.keep K36 nin0 nin0
    have T15_36 := T15_28.keep K36 nin0 nin0
    have T16_36 := T16_28.keep K36 nin0 nin0
    have T17_36 := T17_28.keep K36 nin0 nin0
    have T11b_36 := T11b_28.keep K36 nin0 nin0
    have T12b_36 := S28.keep K36 nin0 nin0
    have kk36 : 0 ≤ h36.size := Nat.le_trans kk28 K36.1
    have sg43 : own_V p e below T36 (mkF m 170 #[iv xp, iv xq, own_lv xs, .second, own_lv xu, .second, iv ra, iv rg, iv ri, iv rf, iv (0 : Int32), rv a6, rv a8, rv a10, rv a12, rv a14, rv a16, rv a18, rv s220, rv s228, rv s236, .unset, .unset, .unset, .unset, .unset, .unset, .unset, .unset, .unset, .unset, .unset] [(.int (xp &&& (4 : Int32)))]) (mkF m 165 #[iv xp, iv xq, own_lv xs, .second, own_lv xu, .second, iv ra, iv rg, iv ri, iv rf, iv (0 : Int32), rv a6, rv a8, rv a10, rv a12, rv a14, rv a16, rv a18, rv s220, rv s228, .unset, .unset, .unset, .unset, .unset, .unset, .unset, .unset, .unset, .unset, .unset, .unset] [(.ref s236)]) := by
      intro t kt
      refine XS.astore X36.here hx rfl (hb hby at_165) rfl rfl (l' := #[iv xp, iv xq, own_lv xs, .second, own_lv xu, .second, iv ra, iv rg, iv ri, iv rf, iv (0 : Int32), rv a6, rv a8, rv a10, rv a12, rv a14, rv a16, rv a18, rv s220, rv s228, rv s236, .unset, .unset, .unset, .unset, .unset, .unset, .unset, .unset, .unset, .unset, .unset]) rfl ?_
      show own_S p e below T36 m 167 #[iv xp, iv xq, own_lv xs, .second, own_lv xu, .second, iv ra, iv rg, iv ri, iv rf, iv (0 : Int32), rv a6, rv a8, rv a10, rv a12, rv a14, rv a16, rv a18, rv s220, rv s228, rv s236, .unset, .unset, .unset, .unset, .unset, .unset, .unset, .unset, .unset, .unset, .unset] [] _
      refine XS.iloadN X36.here hx rfl (hb hby at_167) rfl ?_
      show own_S p e below T36 m 168 #[iv xp, iv xq, own_lv xs, .second, own_lv xu, .second, iv ra, iv rg, iv ri, iv rf, iv (0 : Int32), rv a6, rv a8, rv a10, rv a12, rv a14, rv a16, rv a18, rv s220, rv s228, rv s236, .unset, .unset, .unset, .unset, .unset, .unset, .unset, .unset, .unset, .unset, .unset] [(.int xp)] _
      refine XS.iconst X36.here hx rfl (hb hby at_168) ?_
      show own_S p e below T36 m 169 #[iv xp, iv xq, own_lv xs, .second, own_lv xu, .second, iv ra, iv rg, iv ri, iv rf, iv (0 : Int32), rv a6, rv a8, rv a10, rv a12, rv a14, rv a16, rv a18, rv s220, rv s228, rv s236, .unset, .unset, .unset, .unset, .unset, .unset, .unset, .unset, .unset, .unset, .unset] [(.int (4 : Int32)), (.int xp)] _
      refine XS.iand X36.here hx rfl (hb hby at_169) rfl ?_
      show own_S p e below T36 m 170 #[iv xp, iv xq, own_lv xs, .second, own_lv xu, .second, iv ra, iv rg, iv ri, iv rf, iv (0 : Int32), rv a6, rv a8, rv a10, rv a12, rv a14, rv a16, rv a18, rv s220, rv s228, rv s236, .unset, .unset, .unset, .unset, .unset, .unset, .unset, .unset, .unset, .unset, .unset] [(.int (xp &&& (4 : Int32)))] _
      exact kt
    refine own_st sg43 ?_
    obtain ⟨T44, _, ⟨h44, L44, s244, b244, rfl, X44, e44, N44, Z44, K44, S44, Q44⟩, st44⟩ : own_Pk p e below (fun T' f' => ∃ (h' : Heap) (locs' : List Loc) (s2 : Nat) (b2 : Nat), f' = (mkF m 185 #[iv xp, iv xq, own_lv xs, .second, own_lv xu, .second, iv ra, iv rg, iv ri, iv rf, iv (0 : Int32), rv a6, rv a8, rv a10, rv a12, rv a14, rv a16, rv a18, rv s220, rv s228, rv s236, .unset, .unset, .unset, .unset, .unset, .unset, .unset, .unset, .unset, .unset, .unset] [(.ref s2)]) ∧ Stand p l e room_1 s m #[(.int xp), (.int xq), (.long xs), (.long xu)] below meth c T' locs' 33 66 ∧ T'.heap = h' ∧ Fr n0 locs' ∧ n0 ≤ h'.size ∧ (Keep h36 h' [] ∧ own_Str Z h' s2 b2 1 (fun _ => own_txc rg) ∧ ((xp &&& (4 : Int32)) = (0 : Int32) ↔ ¬ a12 = s2))) T36 (mkF m 170 #[iv xp, iv xq, own_lv xs, .second, own_lv xu, .second, iv ra, iv rg, iv ri, iv rf, iv (0 : Int32), rv a6, rv a8, rv a10, rv a12, rv a14, rv a16, rv a18, rv s220, rv s228, rv s236, .unset, .unset, .unset, .unset, .unset, .unset, .unset, .unset, .unset, .unset, .unset] [(.int (xp &&& (4 : Int32)))]) := by
      by_cases hc45 : (xp &&& (4 : Int32)) = (0 : Int32)
      · skip
        have sg46 : own_V p e below T36 (mkF m 178 #[iv xp, iv xq, own_lv xs, .second, own_lv xu, .second, iv ra, iv rg, iv ri, iv rf, iv (0 : Int32), rv a6, rv a8, rv a10, rv a12, rv a14, rv a16, rv a18, rv s220, rv s228, rv s236, .unset, .unset, .unset, .unset, .unset, .unset, .unset, .unset, .unset, .unset, .unset] []) (mkF m 170 #[iv xp, iv xq, own_lv xs, .second, own_lv xu, .second, iv ra, iv rg, iv ri, iv rf, iv (0 : Int32), rv a6, rv a8, rv a10, rv a12, rv a14, rv a16, rv a18, rv s220, rv s228, rv s236, .unset, .unset, .unset, .unset, .unset, .unset, .unset, .unset, .unset, .unset, .unset] [(.int (xp &&& (4 : Int32)))]) := by
          intro t kt
          refine XS.ifYes X36.here hx rfl (pc0 := 170) (pc' := 178) rfl (hb hby at_170) rfl ((if0 _ _).trans (teq hc45).1) (by decide) (by decide) ?_
          exact kt
        refine own_sp sg46 ?_
        have sg47 : own_V p e below T36 (mkF m 182 #[iv xp, iv xq, own_lv xs, .second, own_lv xu, .second, iv ra, iv rg, iv ri, iv rf, iv (0 : Int32), rv a6, rv a8, rv a10, rv a12, rv a14, rv a16, rv a18, rv s220, rv s228, rv s236, .unset, .unset, .unset, .unset, .unset, .unset, .unset, .unset, .unset, .unset, .unset] [(.int rg), (.int (0 : Int32))]) (mkF m 178 #[iv xp, iv xq, own_lv xs, .second, own_lv xu, .second, iv ra, iv rg, iv ri, iv rf, iv (0 : Int32), rv a6, rv a8, rv a10, rv a12, rv a14, rv a16, rv a18, rv s220, rv s228, rv s236, .unset, .unset, .unset, .unset, .unset, .unset, .unset, .unset, .unset, .unset, .unset] []) := by
          intro t kt
          refine XS.iload X36.here hx rfl (hb hby at_178) rfl ?_
          show own_S p e below T36 m 180 #[iv xp, iv xq, own_lv xs, .second, own_lv xu, .second, iv ra, iv rg, iv ri, iv rf, iv (0 : Int32), rv a6, rv a8, rv a10, rv a12, rv a14, rv a16, rv a18, rv s220, rv s228, rv s236, .unset, .unset, .unset, .unset, .unset, .unset, .unset, .unset, .unset, .unset, .unset] [(.int (0 : Int32))] _
          refine XS.iload X36.here hx rfl (hb hby at_180) rfl ?_
          show own_S p e below T36 m 182 #[iv xp, iv xq, own_lv xs, .second, own_lv xu, .second, iv ra, iv rg, iv ri, iv rf, iv (0 : Int32), rv a6, rv a8, rv a10, rv a12, rv a14, rv a16, rv a18, rv s220, rv s228, rv s236, .unset, .unset, .unset, .unset, .unset, .unset, .unset, .unset, .unset, .unset, .unset] [(.int rg), (.int (0 : Int32))] _
          exact kt
        refine own_sp sg47 ?_
        obtain ⟨_, T48, L48, X48, hQ48, st48⟩ := own_callS (y := (⟨"com/example/coverfold/coverfold/UsageSharesTextsOfKindPinLaw", "zoneText", "(ZI)Ljava/lang/String;"⟩ : MethodName)) X36 hx hZ hown (hw _ (List.mem_of_getElem? (i := 34) rfl)) (hw _ (List.mem_of_getElem? (i := 35) rfl)) (hw _ (List.mem_of_getElem? (i := 2) rfl)) (hw _ (List.mem_of_getElem? (i := 36) rfl)) (by decide) (own_rmzt_n l Z a0 hw rg cc h36 n0 Z36 SC_36 hcc) e36 (g := (mkF m 182 #[iv xp, iv xq, own_lv xs, .second, own_lv xu, .second, iv ra, iv rg, iv ri, iv rf, iv (0 : Int32), rv a6, rv a8, rv a10, rv a12, rv a14, rv a16, rv a18, rv s220, rv s228, rv s236, .unset, .unset, .unset, .unset, .unset, .unset, .unset, .unset, .unset, .unset, .unset] [(.int rg), (.int (0 : Int32))])) rfl (by rw [hml]; rfl) (argsL := [(.int (0 : Int32)), (.int rg)]) (rest := []) (lenOf own_pd15 rfl) rfl (W := 0) (by show 2 * 0 + _ ≤ _; exact Nat.le_of_eq rfl) (hb hby at_182) (by decide) (by decide) (by decide) (by decide)
        obtain ⟨a48, b48, rfl, Nq48, K48, sa48, sb48, S48⟩ := hQ48
        refine own_sp st48 ?_
        have Z48 : n0 ≤ T48.heap.size := Nat.le_trans Z36 K48.1
        have kk48 : 0 ≤ T48.heap.size := Nat.le_trans kk36 K48.1
        have N48 := Fr.app N36 Nq48
        show own_Pk p e below _ T48 (mkF m 185 #[iv xp, iv xq, own_lv xs, .second, own_lv xu, .second, iv ra, iv rg, iv ri, iv rf, iv (0 : Int32), rv a6, rv a8, rv a10, rv a12, rv a14, rv a16, rv a18, rv s220, rv s228, rv s236, .unset, .unset, .unset, .unset, .unset, .unset, .unset, .unset, .unset, .unset, .unset] [(.ref a48)])
        have SC_48 := own_Sta.keep SC_36 K48
        have T14_48 := T14_36.keep K48 nin0 nin0
        exact ⟨T48, _, ⟨_, _, a48, b48, rfl, X48, rfl, N48, Z48, ⟨K48, S48, ⟨fun _ => Nat.ne_of_lt (Nat.lt_of_lt_of_le T14_36.lt sa48), fun _ => hc45⟩⟩⟩, fun t k => k⟩
      have sg49 : own_V p e below T36 (mkF m 173 #[iv xp, iv xq, own_lv xs, .second, own_lv xu, .second, iv ra, iv rg, iv ri, iv rf, iv (0 : Int32), rv a6, rv a8, rv a10, rv a12, rv a14, rv a16, rv a18, rv s220, rv s228, rv s236, .unset, .unset, .unset, .unset, .unset, .unset, .unset, .unset, .unset, .unset, .unset] []) (mkF m 170 #[iv xp, iv xq, own_lv xs, .second, own_lv xu, .second, iv ra, iv rg, iv ri, iv rf, iv (0 : Int32), rv a6, rv a8, rv a10, rv a12, rv a14, rv a16, rv a18, rv s220, rv s228, rv s236, .unset, .unset, .unset, .unset, .unset, .unset, .unset, .unset, .unset, .unset, .unset] [(.int (xp &&& (4 : Int32)))]) := by
        intro t kt
        refine XS.ifNo X36.here hx rfl (hb hby at_170) rfl ((if0 _ _).trans (feq hc45).1) ?_
        exact kt
      refine own_sp sg49 ?_
      have sg50 : own_V p e below T36 (mkF m 185 #[iv xp, iv xq, own_lv xs, .second, own_lv xu, .second, iv ra, iv rg, iv ri, iv rf, iv (0 : Int32), rv a6, rv a8, rv a10, rv a12, rv a14, rv a16, rv a18, rv s220, rv s228, rv s236, .unset, .unset, .unset, .unset, .unset, .unset, .unset, .unset, .unset, .unset, .unset] [(.ref a12)]) (mkF m 173 #[iv xp, iv xq, own_lv xs, .second, own_lv xu, .second, iv ra, iv rg, iv ri, iv rf, iv (0 : Int32), rv a6, rv a8, rv a10, rv a12, rv a14, rv a16, rv a18, rv s220, rv s228, rv s236, .unset, .unset, .unset, .unset, .unset, .unset, .unset, .unset, .unset, .unset, .unset] []) := by
        intro t kt
        refine XS.aload X36.here hx rfl (hb hby at_173) rfl rfl ?_
        show own_S p e below T36 m 175 #[iv xp, iv xq, own_lv xs, .second, own_lv xu, .second, iv ra, iv rg, iv ri, iv rf, iv (0 : Int32), rv a6, rv a8, rv a10, rv a12, rv a14, rv a16, rv a18, rv s220, rv s228, rv s236, .unset, .unset, .unset, .unset, .unset, .unset, .unset, .unset, .unset, .unset, .unset] [(.ref a12)] _
        refine XS.goto X36.here hx rfl (pc0 := 175) (pc' := 185) rfl (hb hby at_175) (by decide) (by decide) ?_
        show own_S p e below T36 m 185 #[iv xp, iv xq, own_lv xs, .second, own_lv xu, .second, iv ra, iv rg, iv ri, iv rf, iv (0 : Int32), rv a6, rv a8, rv a10, rv a12, rv a14, rv a16, rv a18, rv s220, rv s228, rv s236, .unset, .unset, .unset, .unset, .unset, .unset, .unset, .unset, .unset, .unset, .unset] [(.ref a12)] _
        exact kt
      refine own_sp sg50 ?_
      have XM := X36.mono (cells' := 33) (slots' := 66) (by decide) (by decide)
      exact ⟨T36, _, ⟨_, _, a12, b12, rfl, XM, e36, N36, Z36, ⟨Keep.refl _ [], T14_36, ⟨fun z => absurd z hc45, fun z => absurd rfl z⟩⟩⟩, fun t k => k⟩
    refine own_st st44 ?_
    show own_Go p e below _ T44 (mkF m 185 #[iv xp, iv xq, own_lv xs, .second, own_lv xu, .second, iv ra, iv rg, iv ri, iv rf, iv (0 : Int32), rv a6, rv a8, rv a10, rv a12, rv a14, rv a16, rv a18, rv s220, rv s228, rv s236, .unset, .unset, .unset, .unset, .unset, .unset, .unset, .unset, .unset, .unset, .unset] [(.ref s244)])
    have SC_44 := own_Sta.keep SC_36 K44
    have T11_44 := T11_36.keep K44 nin0 nin0
    have T12_44 := T12_36.keep K44 nin0 nin0
    have T13_44 := T13_36.keep K44 nin0 nin0
    have T14_44 := T14_36.keep K44 nin0 nin0
    have T15_44 := T15_36.keep K44 nin0 nin0
    have T16_44 := T16_36.keep K44 nin0 nin0
    have T17_44 := T17_36.keep K44 nin0 nin0
    have T11b_44 := T11b_36.keep K44 nin0 nin0
    have T12b_44 := T12b_36.keep K44 nin0 nin0
    have T13b_44 := S36.keep K44 nin0 nin0
    have kk44 : 0 ≤ h44.size := Nat.le_trans kk36 K44.1
    have sg51 : own_V p e below T44 (mkF m 187 #[iv xp, iv xq, own_lv xs, .second, own_lv xu, .second, iv ra, iv rg, iv ri, iv rf, iv (0 : Int32), rv a6, rv a8, rv a10, rv a12, rv a14, rv a16, rv a18, rv s220, rv s228, rv s236, rv s244, .unset, .unset, .unset, .unset, .unset, .unset, .unset, .unset, .unset, .unset] []) (mkF m 185 #[iv xp, iv xq, own_lv xs, .second, own_lv xu, .second, iv ra, iv rg, iv ri, iv rf, iv (0 : Int32), rv a6, rv a8, rv a10, rv a12, rv a14, rv a16, rv a18, rv s220, rv s228, rv s236, .unset, .unset, .unset, .unset, .unset, .unset, .unset, .unset, .unset, .unset, .unset] [(.ref s244)]) := by
      intro t kt
      refine XS.astore X44.here hx rfl (hb hby at_185) rfl rfl (l' := #[iv xp, iv xq, own_lv xs, .second, own_lv xu, .second, iv ra, iv rg, iv ri, iv rf, iv (0 : Int32), rv a6, rv a8, rv a10, rv a12, rv a14, rv a16, rv a18, rv s220, rv s228, rv s236, rv s244, .unset, .unset, .unset, .unset, .unset, .unset, .unset, .unset, .unset, .unset]) rfl ?_
      show own_S p e below T44 m 187 #[iv xp, iv xq, own_lv xs, .second, own_lv xu, .second, iv ra, iv rg, iv ri, iv rf, iv (0 : Int32), rv a6, rv a8, rv a10, rv a12, rv a14, rv a16, rv a18, rv s220, rv s228, rv s236, rv s244, .unset, .unset, .unset, .unset, .unset, .unset, .unset, .unset, .unset, .unset] [] _
      exact kt
    refine own_st sg51 ?_
    have sg52 : own_V p e below T44 (mkF m 191 #[iv xp, iv xq, own_lv xs, .second, own_lv xu, .second, iv ra, iv rg, iv ri, iv rf, iv (0 : Int32), rv a6, rv a8, rv a10, rv a12, rv a14, rv a16, rv a18, rv s220, rv s228, rv s236, rv s244, .unset, .unset, .unset, .unset, .unset, .unset, .unset, .unset, .unset, .unset] [(.int (xp &&& (8 : Int32)))]) (mkF m 187 #[iv xp, iv xq, own_lv xs, .second, own_lv xu, .second, iv ra, iv rg, iv ri, iv rf, iv (0 : Int32), rv a6, rv a8, rv a10, rv a12, rv a14, rv a16, rv a18, rv s220, rv s228, rv s236, rv s244, .unset, .unset, .unset, .unset, .unset, .unset, .unset, .unset, .unset, .unset] []) := by
      intro t kt
      refine XS.iloadN X44.here hx rfl (hb hby at_187) rfl ?_
      show own_S p e below T44 m 188 #[iv xp, iv xq, own_lv xs, .second, own_lv xu, .second, iv ra, iv rg, iv ri, iv rf, iv (0 : Int32), rv a6, rv a8, rv a10, rv a12, rv a14, rv a16, rv a18, rv s220, rv s228, rv s236, rv s244, .unset, .unset, .unset, .unset, .unset, .unset, .unset, .unset, .unset, .unset] [(.int xp)] _
      refine XS.bipush X44.here hx rfl (hb hby at_188) ?_
      show own_S p e below T44 m 190 #[iv xp, iv xq, own_lv xs, .second, own_lv xu, .second, iv ra, iv rg, iv ri, iv rf, iv (0 : Int32), rv a6, rv a8, rv a10, rv a12, rv a14, rv a16, rv a18, rv s220, rv s228, rv s236, rv s244, .unset, .unset, .unset, .unset, .unset, .unset, .unset, .unset, .unset, .unset] [(.int (8 : Int32)), (.int xp)] _
      refine XS.iand X44.here hx rfl (hb hby at_190) rfl ?_
      show own_S p e below T44 m 191 #[iv xp, iv xq, own_lv xs, .second, own_lv xu, .second, iv ra, iv rg, iv ri, iv rf, iv (0 : Int32), rv a6, rv a8, rv a10, rv a12, rv a14, rv a16, rv a18, rv s220, rv s228, rv s236, rv s244, .unset, .unset, .unset, .unset, .unset, .unset, .unset, .unset, .unset, .unset] [(.int (xp &&& (8 : Int32)))] _
      exact kt
    refine own_st sg52 ?_
    obtain ⟨T53, _, ⟨h53, L53, s253, b253, rfl, X53, e53, N53, Z53, K53, S53, Q53⟩, st53⟩ : own_Pk p e below (fun T' f' => ∃ (h' : Heap) (locs' : List Loc) (s2 : Nat) (b2 : Nat), f' = (mkF m 204 #[iv xp, iv xq, own_lv xs, .second, own_lv xu, .second, iv ra, iv rg, iv ri, iv rf, iv (0 : Int32), rv a6, rv a8, rv a10, rv a12, rv a14, rv a16, rv a18, rv s220, rv s228, rv s236, rv s244, .unset, .unset, .unset, .unset, .unset, .unset, .unset, .unset, .unset, .unset] [(.ref s2)]) ∧ Stand p l e room_1 s m #[(.int xp), (.int xq), (.long xs), (.long xu)] below meth c T' locs' 36 72 ∧ T'.heap = h' ∧ Fr n0 locs' ∧ n0 ≤ h'.size ∧ (Keep h44 h' [] ∧ own_Str Z h' s2 b2 1 (fun _ => own_txc ri) ∧ ((xp &&& (8 : Int32)) = (0 : Int32) ↔ ¬ a14 = s2))) T44 (mkF m 191 #[iv xp, iv xq, own_lv xs, .second, own_lv xu, .second, iv ra, iv rg, iv ri, iv rf, iv (0 : Int32), rv a6, rv a8, rv a10, rv a12, rv a14, rv a16, rv a18, rv s220, rv s228, rv s236, rv s244, .unset, .unset, .unset, .unset, .unset, .unset, .unset, .unset, .unset, .unset] [(.int (xp &&& (8 : Int32)))]) := by
      by_cases hc54 : (xp &&& (8 : Int32)) = (0 : Int32)
      · skip
        have sg55 : own_V p e below T44 (mkF m 199 #[iv xp, iv xq, own_lv xs, .second, own_lv xu, .second, iv ra, iv rg, iv ri, iv rf, iv (0 : Int32), rv a6, rv a8, rv a10, rv a12, rv a14, rv a16, rv a18, rv s220, rv s228, rv s236, rv s244, .unset, .unset, .unset, .unset, .unset, .unset, .unset, .unset, .unset, .unset] []) (mkF m 191 #[iv xp, iv xq, own_lv xs, .second, own_lv xu, .second, iv ra, iv rg, iv ri, iv rf, iv (0 : Int32), rv a6, rv a8, rv a10, rv a12, rv a14, rv a16, rv a18, rv s220, rv s228, rv s236, rv s244, .unset, .unset, .unset, .unset, .unset, .unset, .unset, .unset, .unset, .unset] [(.int (xp &&& (8 : Int32)))]) := by
          intro t kt
          refine XS.ifYes X44.here hx rfl (pc0 := 191) (pc' := 199) rfl (hb hby at_191) rfl ((if0 _ _).trans (teq hc54).1) (by decide) (by decide) ?_
          exact kt
        refine own_sp sg55 ?_
        have sg56 : own_V p e below T44 (mkF m 201 #[iv xp, iv xq, own_lv xs, .second, own_lv xu, .second, iv ra, iv rg, iv ri, iv rf, iv (0 : Int32), rv a6, rv a8, rv a10, rv a12, rv a14, rv a16, rv a18, rv s220, rv s228, rv s236, rv s244, .unset, .unset, .unset, .unset, .unset, .unset, .unset, .unset, .unset, .unset] [(.int ri)]) (mkF m 199 #[iv xp, iv xq, own_lv xs, .second, own_lv xu, .second, iv ra, iv rg, iv ri, iv rf, iv (0 : Int32), rv a6, rv a8, rv a10, rv a12, rv a14, rv a16, rv a18, rv s220, rv s228, rv s236, rv s244, .unset, .unset, .unset, .unset, .unset, .unset, .unset, .unset, .unset, .unset] []) := by
          intro t kt
          refine XS.iload X44.here hx rfl (hb hby at_199) rfl ?_
          show own_S p e below T44 m 201 #[iv xp, iv xq, own_lv xs, .second, own_lv xu, .second, iv ra, iv rg, iv ri, iv rf, iv (0 : Int32), rv a6, rv a8, rv a10, rv a12, rv a14, rv a16, rv a18, rv s220, rv s228, rv s236, rv s244, .unset, .unset, .unset, .unset, .unset, .unset, .unset, .unset, .unset, .unset] [(.int ri)] _
          exact kt
        refine own_sp sg56 ?_
        obtain ⟨_, T57, L57, X57, hQ57, st57⟩ := own_callS (y := (⟨"com/example/coverfold/coverfold/UsageSharesTextsOfKindPinLaw", "text", "(I)Ljava/lang/String;"⟩ : MethodName)) X44 hx hZ hown (hw _ (List.mem_of_getElem? (i := 0) rfl)) (hw _ (List.mem_of_getElem? (i := 1) rfl)) (hw _ (List.mem_of_getElem? (i := 2) rfl)) (hw _ (List.mem_of_getElem? (i := 3) rfl)) (by decide) (own_rmtx l Z a0 hw ri cc h44 n0 Z44 SC_44 hcc) e44 (g := (mkF m 201 #[iv xp, iv xq, own_lv xs, .second, own_lv xu, .second, iv ra, iv rg, iv ri, iv rf, iv (0 : Int32), rv a6, rv a8, rv a10, rv a12, rv a14, rv a16, rv a18, rv s220, rv s228, rv s236, rv s244, .unset, .unset, .unset, .unset, .unset, .unset, .unset, .unset, .unset, .unset] [(.int ri)])) rfl (by rw [hml]; rfl) (argsL := [(.int ri)]) (rest := []) (lenOf own_pd14 rfl) rfl (W := 0) (by show 2 * 0 + _ ≤ _; exact Nat.le_of_eq rfl) (hb hby at_201) (by decide) (by decide) (by decide) (by decide)
        obtain ⟨a57, b57, rfl, Nq57, K57, sa57, sb57, S57⟩ := hQ57
        refine own_sp st57 ?_
        have Z57 : n0 ≤ T57.heap.size := Nat.le_trans Z44 K57.1
        have kk57 : 0 ≤ T57.heap.size := Nat.le_trans kk44 K57.1
        have N57 := Fr.app N44 Nq57
        show own_Pk p e below _ T57 (mkF m 204 #[iv xp, iv xq, own_lv xs, .second, own_lv xu, .second, iv ra, iv rg, iv ri, iv rf, iv (0 : Int32), rv a6, rv a8, rv a10, rv a12, rv a14, rv a16, rv a18, rv s220, rv s228, rv s236, rv s244, .unset, .unset, .unset, .unset, .unset, .unset, .unset, .unset, .unset, .unset] [(.ref a57)])
        have SC_57 := own_Sta.keep SC_44 K57
        have T15_57 := T15_44.keep K57 nin0 nin0
        exact ⟨T57, _, ⟨_, _, a57, b57, rfl, X57, rfl, N57, Z57, ⟨K57, S57, ⟨fun _ => Nat.ne_of_lt (Nat.lt_of_lt_of_le T15_44.lt sa57), fun _ => hc54⟩⟩⟩, fun t k => k⟩
      have sg58 : own_V p e below T44 (mkF m 194 #[iv xp, iv xq, own_lv xs, .second, own_lv xu, .second, iv ra, iv rg, iv ri, iv rf, iv (0 : Int32), rv a6, rv a8, rv a10, rv a12, rv a14, rv a16, rv a18, rv s220, rv s228, rv s236, rv s244, .unset, .unset, .unset, .unset, .unset, .unset, .unset, .unset, .unset, .unset] []) (mkF m 191 #[iv xp, iv xq, own_lv xs, .second, own_lv xu, .second, iv ra, iv rg, iv ri, iv rf, iv (0 : Int32), rv a6, rv a8, rv a10, rv a12, rv a14, rv a16, rv a18, rv s220, rv s228, rv s236, rv s244, .unset, .unset, .unset, .unset, .unset, .unset, .unset, .unset, .unset, .unset] [(.int (xp &&& (8 : Int32)))]) := by
        intro t kt
        refine XS.ifNo X44.here hx rfl (hb hby at_191) rfl ((if0 _ _).trans (feq hc54).1) ?_
        exact kt
      refine own_sp sg58 ?_
      have sg59 : own_V p e below T44 (mkF m 204 #[iv xp, iv xq, own_lv xs, .second, own_lv xu, .second, iv ra, iv rg, iv ri, iv rf, iv (0 : Int32), rv a6, rv a8, rv a10, rv a12, rv a14, rv a16, rv a18, rv s220, rv s228, rv s236, rv s244, .unset, .unset, .unset, .unset, .unset, .unset, .unset, .unset, .unset, .unset] [(.ref a14)]) (mkF m 194 #[iv xp, iv xq, own_lv xs, .second, own_lv xu, .second, iv ra, iv rg, iv ri, iv rf, iv (0 : Int32), rv a6, rv a8, rv a10, rv a12, rv a14, rv a16, rv a18, rv s220, rv s228, rv s236, rv s244, .unset, .unset, .unset, .unset, .unset, .unset, .unset, .unset, .unset, .unset] []) := by
        intro t kt
        refine XS.aload X44.here hx rfl (hb hby at_194) rfl rfl ?_
        show own_S p e below T44 m 196 #[iv xp, iv xq, own_lv xs, .second, own_lv xu, .second, iv ra, iv rg, iv ri, iv rf, iv (0 : Int32), rv a6, rv a8, rv a10, rv a12, rv a14, rv a16, rv a18, rv s220, rv s228, rv s236, rv s244, .unset, .unset, .unset, .unset, .unset, .unset, .unset, .unset, .unset, .unset] [(.ref a14)] _
        refine XS.goto X44.here hx rfl (pc0 := 196) (pc' := 204) rfl (hb hby at_196) (by decide) (by decide) ?_
        show own_S p e below T44 m 204 #[iv xp, iv xq, own_lv xs, .second, own_lv xu, .second, iv ra, iv rg, iv ri, iv rf, iv (0 : Int32), rv a6, rv a8, rv a10, rv a12, rv a14, rv a16, rv a18, rv s220, rv s228, rv s236, rv s244, .unset, .unset, .unset, .unset, .unset, .unset, .unset, .unset, .unset, .unset] [(.ref a14)] _
        exact kt
      refine own_sp sg59 ?_
      have XM := X44.mono (cells' := 36) (slots' := 72) (by decide) (by decide)
      exact ⟨T44, _, ⟨_, _, a14, b14, rfl, XM, e44, N44, Z44, ⟨Keep.refl _ [], T15_44, ⟨fun z => absurd z hc54, fun z => absurd rfl z⟩⟩⟩, fun t k => k⟩
    refine own_st st53 ?_
    show own_Go p e below _ T53 (mkF m 204 #[iv xp, iv xq, own_lv xs, .second, own_lv xu, .second, iv ra, iv rg, iv ri, iv rf, iv (0 : Int32), rv a6, rv a8, rv a10, rv a12, rv a14, rv a16, rv a18, rv s220, rv s228, rv s236, rv s244, .unset, .unset, .unset, .unset, .unset, .unset, .unset, .unset, .unset, .unset] [(.ref s253)])
    have SC_53 := own_Sta.keep SC_44 K53
    have T11_53 := T11_44.keep K53 nin0 nin0
    have T12_53 := T12_44.keep K53 nin0 nin0
    have T13_53 := T13_44.keep K53 nin0 nin0
    have T14_53 := T14_44.keep K53 nin0 nin0
    have T15_53 := T15_44.keep K53 nin0 nin0
    have T16_53 := T16_44.keep K53 nin0 nin0
    have T17_53 := T17_44.keep K53 nin0 nin0
    have T11b_53 := T11b_44.keep K53 nin0 nin0
    have T12b_53 := T12b_44.keep K53 nin0 nin0
    have T13b_53 := T13b_44.keep K53 nin0 nin0
    have T14b_53 := S44.keep K53 nin0 nin0
    have kk53 : 0 ≤ h53.size := Nat.le_trans kk44 K53.1
    have sg60 : own_V p e below T53 (mkF m 210 #[iv xp, iv xq, own_lv xs, .second, own_lv xu, .second, iv ra, iv rg, iv ri, iv rf, iv (0 : Int32), rv a6, rv a8, rv a10, rv a12, rv a14, rv a16, rv a18, rv s220, rv s228, rv s236, rv s244, rv s253, .unset, .unset, .unset, .unset, .unset, .unset, .unset, .unset, .unset] [(.int (xp &&& (16 : Int32)))]) (mkF m 204 #[iv xp, iv xq, own_lv xs, .second, own_lv xu, .second, iv ra, iv rg, iv ri, iv rf, iv (0 : Int32), rv a6, rv a8, rv a10, rv a12, rv a14, rv a16, rv a18, rv s220, rv s228, rv s236, rv s244, .unset, .unset, .unset, .unset, .unset, .unset, .unset, .unset, .unset, .unset] [(.ref s253)]) := by
      intro t kt
      refine XS.astore X53.here hx rfl (hb hby at_204) rfl rfl (l' := #[iv xp, iv xq, own_lv xs, .second, own_lv xu, .second, iv ra, iv rg, iv ri, iv rf, iv (0 : Int32), rv a6, rv a8, rv a10, rv a12, rv a14, rv a16, rv a18, rv s220, rv s228, rv s236, rv s244, rv s253, .unset, .unset, .unset, .unset, .unset, .unset, .unset, .unset, .unset]) rfl ?_
      show own_S p e below T53 m 206 #[iv xp, iv xq, own_lv xs, .second, own_lv xu, .second, iv ra, iv rg, iv ri, iv rf, iv (0 : Int32), rv a6, rv a8, rv a10, rv a12, rv a14, rv a16, rv a18, rv s220, rv s228, rv s236, rv s244, rv s253, .unset, .unset, .unset, .unset, .unset, .unset, .unset, .unset, .unset] [] _
      refine XS.iloadN X53.here hx rfl (hb hby at_206) rfl ?_
      show own_S p e below T53 m 207 #[iv xp, iv xq, own_lv xs, .second, own_lv xu, .second, iv ra, iv rg, iv ri, iv rf, iv (0 : Int32), rv a6, rv a8, rv a10, rv a12, rv a14, rv a16, rv a18, rv s220, rv s228, rv s236, rv s244, rv s253, .unset, .unset, .unset, .unset, .unset, .unset, .unset, .unset, .unset] [(.int xp)] _
      refine XS.bipush X53.here hx rfl (hb hby at_207) ?_
      show own_S p e below T53 m 209 #[iv xp, iv xq, own_lv xs, .second, own_lv xu, .second, iv ra, iv rg, iv ri, iv rf, iv (0 : Int32), rv a6, rv a8, rv a10, rv a12, rv a14, rv a16, rv a18, rv s220, rv s228, rv s236, rv s244, rv s253, .unset, .unset, .unset, .unset, .unset, .unset, .unset, .unset, .unset] [(.int (16 : Int32)), (.int xp)] _
      refine XS.iand X53.here hx rfl (hb hby at_209) rfl ?_
      show own_S p e below T53 m 210 #[iv xp, iv xq, own_lv xs, .second, own_lv xu, .second, iv ra, iv rg, iv ri, iv rf, iv (0 : Int32), rv a6, rv a8, rv a10, rv a12, rv a14, rv a16, rv a18, rv s220, rv s228, rv s236, rv s244, rv s253, .unset, .unset, .unset, .unset, .unset, .unset, .unset, .unset, .unset] [(.int (xp &&& (16 : Int32)))] _
      exact kt
    refine own_st sg60 ?_
    obtain ⟨T61, _, ⟨h61, L61, s261, b261, rfl, X61, e61, N61, Z61, K61, S61, Q61⟩, st61⟩ : own_Pk p e below (fun T' f' => ∃ (h' : Heap) (locs' : List Loc) (s2 : Nat) (b2 : Nat), f' = (mkF m 223 #[iv xp, iv xq, own_lv xs, .second, own_lv xu, .second, iv ra, iv rg, iv ri, iv rf, iv (0 : Int32), rv a6, rv a8, rv a10, rv a12, rv a14, rv a16, rv a18, rv s220, rv s228, rv s236, rv s244, rv s253, .unset, .unset, .unset, .unset, .unset, .unset, .unset, .unset, .unset] [(.ref s2)]) ∧ Stand p l e room_1 s m #[(.int xp), (.int xq), (.long xs), (.long xu)] below meth c T' locs' 39 78 ∧ T'.heap = h' ∧ Fr n0 locs' ∧ n0 ≤ h'.size ∧ (Keep h53 h' [] ∧ own_Str Z h' s2 b2 1 (fun _ => own_txc rf) ∧ ((xp &&& (16 : Int32)) = (0 : Int32) ↔ ¬ a16 = s2))) T53 (mkF m 210 #[iv xp, iv xq, own_lv xs, .second, own_lv xu, .second, iv ra, iv rg, iv ri, iv rf, iv (0 : Int32), rv a6, rv a8, rv a10, rv a12, rv a14, rv a16, rv a18, rv s220, rv s228, rv s236, rv s244, rv s253, .unset, .unset, .unset, .unset, .unset, .unset, .unset, .unset, .unset] [(.int (xp &&& (16 : Int32)))]) := by
      by_cases hc62 : (xp &&& (16 : Int32)) = (0 : Int32)
      · skip
        have sg63 : own_V p e below T53 (mkF m 218 #[iv xp, iv xq, own_lv xs, .second, own_lv xu, .second, iv ra, iv rg, iv ri, iv rf, iv (0 : Int32), rv a6, rv a8, rv a10, rv a12, rv a14, rv a16, rv a18, rv s220, rv s228, rv s236, rv s244, rv s253, .unset, .unset, .unset, .unset, .unset, .unset, .unset, .unset, .unset] []) (mkF m 210 #[iv xp, iv xq, own_lv xs, .second, own_lv xu, .second, iv ra, iv rg, iv ri, iv rf, iv (0 : Int32), rv a6, rv a8, rv a10, rv a12, rv a14, rv a16, rv a18, rv s220, rv s228, rv s236, rv s244, rv s253, .unset, .unset, .unset, .unset, .unset, .unset, .unset, .unset, .unset] [(.int (xp &&& (16 : Int32)))]) := by
          intro t kt
          refine XS.ifYes X53.here hx rfl (pc0 := 210) (pc' := 218) rfl (hb hby at_210) rfl ((if0 _ _).trans (teq hc62).1) (by decide) (by decide) ?_
          exact kt
        refine own_sp sg63 ?_
        have sg64 : own_V p e below T53 (mkF m 220 #[iv xp, iv xq, own_lv xs, .second, own_lv xu, .second, iv ra, iv rg, iv ri, iv rf, iv (0 : Int32), rv a6, rv a8, rv a10, rv a12, rv a14, rv a16, rv a18, rv s220, rv s228, rv s236, rv s244, rv s253, .unset, .unset, .unset, .unset, .unset, .unset, .unset, .unset, .unset] [(.int rf)]) (mkF m 218 #[iv xp, iv xq, own_lv xs, .second, own_lv xu, .second, iv ra, iv rg, iv ri, iv rf, iv (0 : Int32), rv a6, rv a8, rv a10, rv a12, rv a14, rv a16, rv a18, rv s220, rv s228, rv s236, rv s244, rv s253, .unset, .unset, .unset, .unset, .unset, .unset, .unset, .unset, .unset] []) := by
          intro t kt
          refine XS.iload X53.here hx rfl (hb hby at_218) rfl ?_
          show own_S p e below T53 m 220 #[iv xp, iv xq, own_lv xs, .second, own_lv xu, .second, iv ra, iv rg, iv ri, iv rf, iv (0 : Int32), rv a6, rv a8, rv a10, rv a12, rv a14, rv a16, rv a18, rv s220, rv s228, rv s236, rv s244, rv s253, .unset, .unset, .unset, .unset, .unset, .unset, .unset, .unset, .unset] [(.int rf)] _
          exact kt
        refine own_sp sg64 ?_
        obtain ⟨_, T65, L65, X65, hQ65, st65⟩ := own_callS (y := (⟨"com/example/coverfold/coverfold/UsageSharesTextsOfKindPinLaw", "text", "(I)Ljava/lang/String;"⟩ : MethodName)) X53 hx hZ hown (hw _ (List.mem_of_getElem? (i := 0) rfl)) (hw _ (List.mem_of_getElem? (i := 1) rfl)) (hw _ (List.mem_of_getElem? (i := 2) rfl)) (hw _ (List.mem_of_getElem? (i := 3) rfl)) (by decide) (own_rmtx l Z a0 hw rf cc h53 n0 Z53 SC_53 hcc) e53 (g := (mkF m 220 #[iv xp, iv xq, own_lv xs, .second, own_lv xu, .second, iv ra, iv rg, iv ri, iv rf, iv (0 : Int32), rv a6, rv a8, rv a10, rv a12, rv a14, rv a16, rv a18, rv s220, rv s228, rv s236, rv s244, rv s253, .unset, .unset, .unset, .unset, .unset, .unset, .unset, .unset, .unset] [(.int rf)])) rfl (by rw [hml]; rfl) (argsL := [(.int rf)]) (rest := []) (lenOf own_pd14 rfl) rfl (W := 0) (by show 2 * 0 + _ ≤ _; exact Nat.le_of_eq rfl) (hb hby at_220) (by decide) (by decide) (by decide) (by decide)
        obtain ⟨a65, b65, rfl, Nq65, K65, sa65, sb65, S65⟩ := hQ65
        refine own_sp st65 ?_
        have Z65 : n0 ≤ T65.heap.size := Nat.le_trans Z53 K65.1
        have kk65 : 0 ≤ T65.heap.size := Nat.le_trans kk53 K65.1
        have N65 := Fr.app N53 Nq65
        show own_Pk p e below _ T65 (mkF m 223 #[iv xp, iv xq, own_lv xs, .second, own_lv xu, .second, iv ra, iv rg, iv ri, iv rf, iv (0 : Int32), rv a6, rv a8, rv a10, rv a12, rv a14, rv a16, rv a18, rv s220, rv s228, rv s236, rv s244, rv s253, .unset, .unset, .unset, .unset, .unset, .unset, .unset, .unset, .unset] [(.ref a65)])
        have SC_65 := own_Sta.keep SC_53 K65
        have T16_65 := T16_53.keep K65 nin0 nin0
        exact ⟨T65, _, ⟨_, _, a65, b65, rfl, X65, rfl, N65, Z65, ⟨K65, S65, ⟨fun _ => Nat.ne_of_lt (Nat.lt_of_lt_of_le T16_53.lt sa65), fun _ => hc62⟩⟩⟩, fun t k => k⟩
      have sg66 : own_V p e below T53 (mkF m 213 #[iv xp, iv xq, own_lv xs, .second, own_lv xu, .second, iv ra, iv rg, iv ri, iv rf, iv (0 : Int32), rv a6, rv a8, rv a10, rv a12, rv a14, rv a16, rv a18, rv s220, rv s228, rv s236, rv s244, rv s253, .unset, .unset, .unset, .unset, .unset, .unset, .unset, .unset, .unset] []) (mkF m 210 #[iv xp, iv xq, own_lv xs, .second, own_lv xu, .second, iv ra, iv rg, iv ri, iv rf, iv (0 : Int32), rv a6, rv a8, rv a10, rv a12, rv a14, rv a16, rv a18, rv s220, rv s228, rv s236, rv s244, rv s253, .unset, .unset, .unset, .unset, .unset, .unset, .unset, .unset, .unset] [(.int (xp &&& (16 : Int32)))]) := by
        intro t kt
        refine XS.ifNo X53.here hx rfl (hb hby at_210) rfl ((if0 _ _).trans (feq hc62).1) ?_
        exact kt
      refine own_sp sg66 ?_
      have sg67 : own_V p e below T53 (mkF m 223 #[iv xp, iv xq, own_lv xs, .second, own_lv xu, .second, iv ra, iv rg, iv ri, iv rf, iv (0 : Int32), rv a6, rv a8, rv a10, rv a12, rv a14, rv a16, rv a18, rv s220, rv s228, rv s236, rv s244, rv s253, .unset, .unset, .unset, .unset, .unset, .unset, .unset, .unset, .unset] [(.ref a16)]) (mkF m 213 #[iv xp, iv xq, own_lv xs, .second, own_lv xu, .second, iv ra, iv rg, iv ri, iv rf, iv (0 : Int32), rv a6, rv a8, rv a10, rv a12, rv a14, rv a16, rv a18, rv s220, rv s228, rv s236, rv s244, rv s253, .unset, .unset, .unset, .unset, .unset, .unset, .unset, .unset, .unset] []) := by
        intro t kt
        refine XS.aload X53.here hx rfl (hb hby at_213) rfl rfl ?_
        show own_S p e below T53 m 215 #[iv xp, iv xq, own_lv xs, .second, own_lv xu, .second, iv ra, iv rg, iv ri, iv rf, iv (0 : Int32), rv a6, rv a8, rv a10, rv a12, rv a14, rv a16, rv a18, rv s220, rv s228, rv s236, rv s244, rv s253, .unset, .unset, .unset, .unset, .unset, .unset, .unset, .unset, .unset] [(.ref a16)] _
        refine XS.goto X53.here hx rfl (pc0 := 215) (pc' := 223) rfl (hb hby at_215) (by decide) (by decide) ?_
        show own_S p e below T53 m 223 #[iv xp, iv xq, own_lv xs, .second, own_lv xu, .second, iv ra, iv rg, iv ri, iv rf, iv (0 : Int32), rv a6, rv a8, rv a10, rv a12, rv a14, rv a16, rv a18, rv s220, rv s228, rv s236, rv s244, rv s253, .unset, .unset, .unset, .unset, .unset, .unset, .unset, .unset, .unset] [(.ref a16)] _
        exact kt
      refine own_sp sg67 ?_
      have XM := X53.mono (cells' := 39) (slots' := 78) (by decide) (by decide)
      exact ⟨T53, _, ⟨_, _, a16, b16, rfl, XM, e53, N53, Z53, ⟨Keep.refl _ [], T16_53, ⟨fun z => absurd z hc62, fun z => absurd rfl z⟩⟩⟩, fun t k => k⟩
    refine own_st st61 ?_
    show own_Go p e below _ T61 (mkF m 223 #[iv xp, iv xq, own_lv xs, .second, own_lv xu, .second, iv ra, iv rg, iv ri, iv rf, iv (0 : Int32), rv a6, rv a8, rv a10, rv a12, rv a14, rv a16, rv a18, rv s220, rv s228, rv s236, rv s244, rv s253, .unset, .unset, .unset, .unset, .unset, .unset, .unset, .unset, .unset] [(.ref s261)])
    have SC_61 := own_Sta.keep SC_53 K61
    have T11_61 := T11_53.keep K61 nin0 nin0
    have T12_61 := T12_53.keep K61 nin0 nin0
    have T13_61 := T13_53.keep K61 nin0 nin0
    have T14_61 := T14_53.keep K61 nin0 nin0
    have T15_61 := T15_53.keep K61 nin0 nin0
    have T16_61 := T16_53.keep K61 nin0 nin0
    have T17_61 := T17_53.keep K61 nin0 nin0
    have T11b_61 := T11b_53.keep K61 nin0 nin0
    have T12b_61 := T12b_53.keep K61 nin0 nin0
    have T13b_61 := T13b_53.keep K61 nin0 nin0
    have T14b_61 := T14b_53.keep K61 nin0 nin0
    have T15b_61 := S53.keep K61 nin0 nin0
    have kk61 : 0 ≤ h61.size := Nat.le_trans kk53 K61.1
    have sg68 : own_V p e below T61 (mkF m 229 #[iv xp, iv xq, own_lv xs, .second, own_lv xu, .second, iv ra, iv rg, iv ri, iv rf, iv (0 : Int32), rv a6, rv a8, rv a10, rv a12, rv a14, rv a16, rv a18, rv s220, rv s228, rv s236, rv s244, rv s253, rv s261, .unset, .unset, .unset, .unset, .unset, .unset, .unset, .unset] [(.int (xp &&& (32 : Int32)))]) (mkF m 223 #[iv xp, iv xq, own_lv xs, .second, own_lv xu, .second, iv ra, iv rg, iv ri, iv rf, iv (0 : Int32), rv a6, rv a8, rv a10, rv a12, rv a14, rv a16, rv a18, rv s220, rv s228, rv s236, rv s244, rv s253, .unset, .unset, .unset, .unset, .unset, .unset, .unset, .unset, .unset] [(.ref s261)]) := by
      intro t kt
      refine XS.astore X61.here hx rfl (hb hby at_223) rfl rfl (l' := #[iv xp, iv xq, own_lv xs, .second, own_lv xu, .second, iv ra, iv rg, iv ri, iv rf, iv (0 : Int32), rv a6, rv a8, rv a10, rv a12, rv a14, rv a16, rv a18, rv s220, rv s228, rv s236, rv s244, rv s253, rv s261, .unset, .unset, .unset, .unset, .unset, .unset, .unset, .unset]) rfl ?_
      show own_S p e below T61 m 225 #[iv xp, iv xq, own_lv xs, .second, own_lv xu, .second, iv ra, iv rg, iv ri, iv rf, iv (0 : Int32), rv a6, rv a8, rv a10, rv a12, rv a14, rv a16, rv a18, rv s220, rv s228, rv s236, rv s244, rv s253, rv s261, .unset, .unset, .unset, .unset, .unset, .unset, .unset, .unset] [] _
      refine XS.iloadN X61.here hx rfl (hb hby at_225) rfl ?_
      show own_S p e below T61 m 226 #[iv xp, iv xq, own_lv xs, .second, own_lv xu, .second, iv ra, iv rg, iv ri, iv rf, iv (0 : Int32), rv a6, rv a8, rv a10, rv a12, rv a14, rv a16, rv a18, rv s220, rv s228, rv s236, rv s244, rv s253, rv s261, .unset, .unset, .unset, .unset, .unset, .unset, .unset, .unset] [(.int xp)] _
      refine XS.bipush X61.here hx rfl (hb hby at_226) ?_
      show own_S p e below T61 m 228 #[iv xp, iv xq, own_lv xs, .second, own_lv xu, .second, iv ra, iv rg, iv ri, iv rf, iv (0 : Int32), rv a6, rv a8, rv a10, rv a12, rv a14, rv a16, rv a18, rv s220, rv s228, rv s236, rv s244, rv s253, rv s261, .unset, .unset, .unset, .unset, .unset, .unset, .unset, .unset] [(.int (32 : Int32)), (.int xp)] _
      refine XS.iand X61.here hx rfl (hb hby at_228) rfl ?_
      show own_S p e below T61 m 229 #[iv xp, iv xq, own_lv xs, .second, own_lv xu, .second, iv ra, iv rg, iv ri, iv rf, iv (0 : Int32), rv a6, rv a8, rv a10, rv a12, rv a14, rv a16, rv a18, rv s220, rv s228, rv s236, rv s244, rv s253, rv s261, .unset, .unset, .unset, .unset, .unset, .unset, .unset, .unset] [(.int (xp &&& (32 : Int32)))] _
      exact kt
    refine own_st sg68 ?_
    obtain ⟨T69, _, ⟨h69, L69, s269, b269, rfl, X69, e69, N69, Z69, K69, S69, Q69⟩, st69⟩ : own_Pk p e below (fun T' f' => ∃ (h' : Heap) (locs' : List Loc) (s2 : Nat) (b2 : Nat), f' = (mkF m 245 #[iv xp, iv xq, own_lv xs, .second, own_lv xu, .second, iv ra, iv rg, iv ri, iv rf, iv (0 : Int32), rv a6, rv a8, rv a10, rv a12, rv a14, rv a16, rv a18, rv s220, rv s228, rv s236, rv s244, rv s253, rv s261, .unset, .unset, .unset, .unset, .unset, .unset, .unset, .unset] [(.ref s2)]) ∧ Stand p l e room_1 s m #[(.int xp), (.int xq), (.long xs), (.long xu)] below meth c T' locs' 42 84 ∧ T'.heap = h' ∧ Fr n0 locs' ∧ n0 ≤ h'.size ∧ (Keep h61 h' [] ∧ own_Str Z h' s2 b2 1 (fun _ => own_txc (ra ^^^ rf)) ∧ ((xp &&& (32 : Int32)) = (0 : Int32) ↔ ¬ a18 = s2))) T61 (mkF m 229 #[iv xp, iv xq, own_lv xs, .second, own_lv xu, .second, iv ra, iv rg, iv ri, iv rf, iv (0 : Int32), rv a6, rv a8, rv a10, rv a12, rv a14, rv a16, rv a18, rv s220, rv s228, rv s236, rv s244, rv s253, rv s261, .unset, .unset, .unset, .unset, .unset, .unset, .unset, .unset] [(.int (xp &&& (32 : Int32)))]) := by
      by_cases hc70 : (xp &&& (32 : Int32)) = (0 : Int32)
      · skip
        have sg71 : own_V p e below T61 (mkF m 237 #[iv xp, iv xq, own_lv xs, .second, own_lv xu, .second, iv ra, iv rg, iv ri, iv rf, iv (0 : Int32), rv a6, rv a8, rv a10, rv a12, rv a14, rv a16, rv a18, rv s220, rv s228, rv s236, rv s244, rv s253, rv s261, .unset, .unset, .unset, .unset, .unset, .unset, .unset, .unset] []) (mkF m 229 #[iv xp, iv xq, own_lv xs, .second, own_lv xu, .second, iv ra, iv rg, iv ri, iv rf, iv (0 : Int32), rv a6, rv a8, rv a10, rv a12, rv a14, rv a16, rv a18, rv s220, rv s228, rv s236, rv s244, rv s253, rv s261, .unset, .unset, .unset, .unset, .unset, .unset, .unset, .unset] [(.int (xp &&& (32 : Int32)))]) := by
          intro t kt
          refine XS.ifYes X61.here hx rfl (pc0 := 229) (pc' := 237) rfl (hb hby at_229) rfl ((if0 _ _).trans (teq hc70).1) (by decide) (by decide) ?_
          exact kt
        refine own_sp sg71 ?_
        have sg72 : own_V p e below T61 (mkF m 242 #[iv xp, iv xq, own_lv xs, .second, own_lv xu, .second, iv ra, iv rg, iv ri, iv rf, iv (0 : Int32), rv a6, rv a8, rv a10, rv a12, rv a14, rv a16, rv a18, rv s220, rv s228, rv s236, rv s244, rv s253, rv s261, .unset, .unset, .unset, .unset, .unset, .unset, .unset, .unset] [(.int (ra ^^^ rf))]) (mkF m 237 #[iv xp, iv xq, own_lv xs, .second, own_lv xu, .second, iv ra, iv rg, iv ri, iv rf, iv (0 : Int32), rv a6, rv a8, rv a10, rv a12, rv a14, rv a16, rv a18, rv s220, rv s228, rv s236, rv s244, rv s253, rv s261, .unset, .unset, .unset, .unset, .unset, .unset, .unset, .unset] []) := by
          intro t kt
          refine XS.iload X61.here hx rfl (hb hby at_237) rfl ?_
          show own_S p e below T61 m 239 #[iv xp, iv xq, own_lv xs, .second, own_lv xu, .second, iv ra, iv rg, iv ri, iv rf, iv (0 : Int32), rv a6, rv a8, rv a10, rv a12, rv a14, rv a16, rv a18, rv s220, rv s228, rv s236, rv s244, rv s253, rv s261, .unset, .unset, .unset, .unset, .unset, .unset, .unset, .unset] [(.int ra)] _
          refine XS.iload X61.here hx rfl (hb hby at_239) rfl ?_
          show own_S p e below T61 m 241 #[iv xp, iv xq, own_lv xs, .second, own_lv xu, .second, iv ra, iv rg, iv ri, iv rf, iv (0 : Int32), rv a6, rv a8, rv a10, rv a12, rv a14, rv a16, rv a18, rv s220, rv s228, rv s236, rv s244, rv s253, rv s261, .unset, .unset, .unset, .unset, .unset, .unset, .unset, .unset] [(.int rf), (.int ra)] _
          refine XS.ixor X61.here hx rfl (hb hby at_241) rfl ?_
          show own_S p e below T61 m 242 #[iv xp, iv xq, own_lv xs, .second, own_lv xu, .second, iv ra, iv rg, iv ri, iv rf, iv (0 : Int32), rv a6, rv a8, rv a10, rv a12, rv a14, rv a16, rv a18, rv s220, rv s228, rv s236, rv s244, rv s253, rv s261, .unset, .unset, .unset, .unset, .unset, .unset, .unset, .unset] [(.int (ra ^^^ rf))] _
          exact kt
        refine own_sp sg72 ?_
        obtain ⟨_, T73, L73, X73, hQ73, st73⟩ := own_callS (y := (⟨"com/example/coverfold/coverfold/UsageSharesTextsOfKindPinLaw", "text", "(I)Ljava/lang/String;"⟩ : MethodName)) X61 hx hZ hown (hw _ (List.mem_of_getElem? (i := 0) rfl)) (hw _ (List.mem_of_getElem? (i := 1) rfl)) (hw _ (List.mem_of_getElem? (i := 2) rfl)) (hw _ (List.mem_of_getElem? (i := 3) rfl)) (by decide) (own_rmtx l Z a0 hw (ra ^^^ rf) cc h61 n0 Z61 SC_61 hcc) e61 (g := (mkF m 242 #[iv xp, iv xq, own_lv xs, .second, own_lv xu, .second, iv ra, iv rg, iv ri, iv rf, iv (0 : Int32), rv a6, rv a8, rv a10, rv a12, rv a14, rv a16, rv a18, rv s220, rv s228, rv s236, rv s244, rv s253, rv s261, .unset, .unset, .unset, .unset, .unset, .unset, .unset, .unset] [(.int (ra ^^^ rf))])) rfl (by rw [hml]; rfl) (argsL := [(.int (ra ^^^ rf))]) (rest := []) (lenOf own_pd14 rfl) rfl (W := 0) (by show 2 * 0 + _ ≤ _; exact Nat.le_of_eq rfl) (hb hby at_242) (by decide) (by decide) (by decide) (by decide)
        obtain ⟨a73, b73, rfl, Nq73, K73, sa73, sb73, S73⟩ := hQ73
        refine own_sp st73 ?_
        have Z73 : n0 ≤ T73.heap.size := Nat.le_trans Z61 K73.1
        have kk73 : 0 ≤ T73.heap.size := Nat.le_trans kk61 K73.1
        have N73 := Fr.app N61 Nq73
        show own_Pk p e below _ T73 (mkF m 245 #[iv xp, iv xq, own_lv xs, .second, own_lv xu, .second, iv ra, iv rg, iv ri, iv rf, iv (0 : Int32), rv a6, rv a8, rv a10, rv a12, rv a14, rv a16, rv a18, rv s220, rv s228, rv s236, rv s244, rv s253, rv s261, .unset, .unset, .unset, .unset, .unset, .unset, .unset, .unset] [(.ref a73)])
        have SC_73 := own_Sta.keep SC_61 K73
        have T17_73 := T17_61.keep K73 nin0 nin0
        exact ⟨T73, _, ⟨_, _, a73, b73, rfl, X73, rfl, N73, Z73, ⟨K73, S73, ⟨fun _ => Nat.ne_of_lt (Nat.lt_of_lt_of_le T17_61.lt sa73), fun _ => hc70⟩⟩⟩, fun t k => k⟩
      have sg74 : own_V p e below T61 (mkF m 232 #[iv xp, iv xq, own_lv xs, .second, own_lv xu, .second, iv ra, iv rg, iv ri, iv rf, iv (0 : Int32), rv a6, rv a8, rv a10, rv a12, rv a14, rv a16, rv a18, rv s220, rv s228, rv s236, rv s244, rv s253, rv s261, .unset, .unset, .unset, .unset, .unset, .unset, .unset, .unset] []) (mkF m 229 #[iv xp, iv xq, own_lv xs, .second, own_lv xu, .second, iv ra, iv rg, iv ri, iv rf, iv (0 : Int32), rv a6, rv a8, rv a10, rv a12, rv a14, rv a16, rv a18, rv s220, rv s228, rv s236, rv s244, rv s253, rv s261, .unset, .unset, .unset, .unset, .unset, .unset, .unset, .unset] [(.int (xp &&& (32 : Int32)))]) := by
        intro t kt
        refine XS.ifNo X61.here hx rfl (hb hby at_229) rfl ((if0 _ _).trans (feq hc70).1) ?_
        exact kt
      refine own_sp sg74 ?_
      have sg75 : own_V p e below T61 (mkF m 245 #[iv xp, iv xq, own_lv xs, .second, own_lv xu, .second, iv ra, iv rg, iv ri, iv rf, iv (0 : Int32), rv a6, rv a8, rv a10, rv a12, rv a14, rv a16, rv a18, rv s220, rv s228, rv s236, rv s244, rv s253, rv s261, .unset, .unset, .unset, .unset, .unset, .unset, .unset, .unset] [(.ref a18)]) (mkF m 232 #[iv xp, iv xq, own_lv xs, .second, own_lv xu, .second, iv ra, iv rg, iv ri, iv rf, iv (0 : Int32), rv a6, rv a8, rv a10, rv a12, rv a14, rv a16, rv a18, rv s220, rv s228, rv s236, rv s244, rv s253, rv s261, .unset, .unset, .unset, .unset, .unset, .unset, .unset, .unset] []) := by
        intro t kt
        refine XS.aload X61.here hx rfl (hb hby at_232) rfl rfl ?_
        show own_S p e below T61 m 234 #[iv xp, iv xq, own_lv xs, .second, own_lv xu, .second, iv ra, iv rg, iv ri, iv rf, iv (0 : Int32), rv a6, rv a8, rv a10, rv a12, rv a14, rv a16, rv a18, rv s220, rv s228, rv s236, rv s244, rv s253, rv s261, .unset, .unset, .unset, .unset, .unset, .unset, .unset, .unset] [(.ref a18)] _
        refine XS.goto X61.here hx rfl (pc0 := 234) (pc' := 245) rfl (hb hby at_234) (by decide) (by decide) ?_
        show own_S p e below T61 m 245 #[iv xp, iv xq, own_lv xs, .second, own_lv xu, .second, iv ra, iv rg, iv ri, iv rf, iv (0 : Int32), rv a6, rv a8, rv a10, rv a12, rv a14, rv a16, rv a18, rv s220, rv s228, rv s236, rv s244, rv s253, rv s261, .unset, .unset, .unset, .unset, .unset, .unset, .unset, .unset] [(.ref a18)] _
        exact kt
      refine own_sp sg75 ?_
      have XM := X61.mono (cells' := 42) (slots' := 84) (by decide) (by decide)
      exact ⟨T61, _, ⟨_, _, a18, b18, rfl, XM, e61, N61, Z61, ⟨Keep.refl _ [], T17_61, ⟨fun z => absurd z hc70, fun z => absurd rfl z⟩⟩⟩, fun t k => k⟩
    refine own_st st69 ?_
    show own_Go p e below _ T69 (mkF m 245 #[iv xp, iv xq, own_lv xs, .second, own_lv xu, .second, iv ra, iv rg, iv ri, iv rf, iv (0 : Int32), rv a6, rv a8, rv a10, rv a12, rv a14, rv a16, rv a18, rv s220, rv s228, rv s236, rv s244, rv s253, rv s261, .unset, .unset, .unset, .unset, .unset, .unset, .unset, .unset] [(.ref s269)])
    have SC_69 := own_Sta.keep SC_61 K69
    have T11_69 := T11_61.keep K69 nin0 nin0
    have T12_69 := T12_61.keep K69 nin0 nin0
    have T13_69 := T13_61.keep K69 nin0 nin0
    have T14_69 := T14_61.keep K69 nin0 nin0
    have T15_69 := T15_61.keep K69 nin0 nin0
    have T16_69 := T16_61.keep K69 nin0 nin0
    have T17_69 := T17_61.keep K69 nin0 nin0
    have T11b_69 := T11b_61.keep K69 nin0 nin0
    have T12b_69 := T12b_61.keep K69 nin0 nin0
    have T13b_69 := T13b_61.keep K69 nin0 nin0
    have T14b_69 := T14b_61.keep K69 nin0 nin0
    have T15b_69 := T15b_61.keep K69 nin0 nin0
    have T16b_69 := S61.keep K69 nin0 nin0
    have kk69 : 0 ≤ h69.size := Nat.le_trans kk61 K69.1
    have sg76 : own_V p e below T69 (mkF m 251 #[iv xp, iv xq, own_lv xs, .second, own_lv xu, .second, iv ra, iv rg, iv ri, iv rf, iv (0 : Int32), rv a6, rv a8, rv a10, rv a12, rv a14, rv a16, rv a18, rv s220, rv s228, rv s236, rv s244, rv s253, rv s261, rv s269, .unset, .unset, .unset, .unset, .unset, .unset, .unset] [(.long (9223372036854775806 : Int64)), (.long xs)]) (mkF m 245 #[iv xp, iv xq, own_lv xs, .second, own_lv xu, .second, iv ra, iv rg, iv ri, iv rf, iv (0 : Int32), rv a6, rv a8, rv a10, rv a12, rv a14, rv a16, rv a18, rv s220, rv s228, rv s236, rv s244, rv s253, rv s261, .unset, .unset, .unset, .unset, .unset, .unset, .unset, .unset] [(.ref s269)]) := by
      intro t kt
      refine XS.astore X69.here hx rfl (hb hby at_245) rfl rfl (l' := #[iv xp, iv xq, own_lv xs, .second, own_lv xu, .second, iv ra, iv rg, iv ri, iv rf, iv (0 : Int32), rv a6, rv a8, rv a10, rv a12, rv a14, rv a16, rv a18, rv s220, rv s228, rv s236, rv s244, rv s253, rv s261, rv s269, .unset, .unset, .unset, .unset, .unset, .unset, .unset]) rfl ?_
      show own_S p e below T69 m 247 #[iv xp, iv xq, own_lv xs, .second, own_lv xu, .second, iv ra, iv rg, iv ri, iv rf, iv (0 : Int32), rv a6, rv a8, rv a10, rv a12, rv a14, rv a16, rv a18, rv s220, rv s228, rv s236, rv s244, rv s253, rv s261, rv s269, .unset, .unset, .unset, .unset, .unset, .unset, .unset] [] _
      refine XS.lloadN X69.here hx rfl (hb hby at_247) rfl ?_
      show own_S p e below T69 m 248 #[iv xp, iv xq, own_lv xs, .second, own_lv xu, .second, iv ra, iv rg, iv ri, iv rf, iv (0 : Int32), rv a6, rv a8, rv a10, rv a12, rv a14, rv a16, rv a18, rv s220, rv s228, rv s236, rv s244, rv s253, rv s261, rv s269, .unset, .unset, .unset, .unset, .unset, .unset, .unset] [(.long xs)] _
      refine X69.ldc2Long hx hown (mvT hZ (hw _ (List.mem_of_getElem? (i := 37) rfl))) (g := (mkF m 248 #[iv xp, iv xq, own_lv xs, .second, own_lv xu, .second, iv ra, iv rg, iv ri, iv rf, iv (0 : Int32), rv a6, rv a8, rv a10, rv a12, rv a14, rv a16, rv a18, rv s220, rv s228, rv s236, rv s244, rv s253, rv s261, rv s269, .unset, .unset, .unset, .unset, .unset, .unset, .unset] [(.long xs)])) rfl (hb hby at_248) _ ?_
      show own_S p e below T69 m 251 #[iv xp, iv xq, own_lv xs, .second, own_lv xu, .second, iv ra, iv rg, iv ri, iv rf, iv (0 : Int32), rv a6, rv a8, rv a10, rv a12, rv a14, rv a16, rv a18, rv s220, rv s228, rv s236, rv s244, rv s253, rv s261, rv s269, .unset, .unset, .unset, .unset, .unset, .unset, .unset] [(.long (9223372036854775806 : Int64)), (.long xs)] _
      exact kt
    refine own_st sg76 ?_
    obtain ⟨_, T77, L77, X77, hQ77, st77⟩ := own_callS (y := (⟨"java/lang/Math", "min", "(JJ)J"⟩ : MethodName)) X69 hx hZ hown (hw _ (List.mem_of_getElem? (i := 38) rfl)) (hw _ (List.mem_of_getElem? (i := 39) rfl)) (hw _ (List.mem_of_getElem? (i := 40) rfl)) (hw _ (List.mem_of_getElem? (i := 41) rfl)) (by decide) (own_rmmin l Z a0 hw xs (9223372036854775806 : Int64) h69 n0 Z69) e69 (g := (mkF m 251 #[iv xp, iv xq, own_lv xs, .second, own_lv xu, .second, iv ra, iv rg, iv ri, iv rf, iv (0 : Int32), rv a6, rv a8, rv a10, rv a12, rv a14, rv a16, rv a18, rv s220, rv s228, rv s236, rv s244, rv s253, rv s261, rv s269, .unset, .unset, .unset, .unset, .unset, .unset, .unset] [(.long (9223372036854775806 : Int64)), (.long xs)])) rfl (by rw [hml]; rfl) (argsL := [(.long xs), (.long (9223372036854775806 : Int64))]) (rest := []) (lenOf own_pd16 rfl) rfl (W := 0) (by show 2 * 0 + _ ≤ _; exact Nat.le_of_eq rfl) (hb hby at_251) (by decide) (by decide) (by decide) (by decide)
    obtain ⟨rfl, Nq77, e77⟩ := hQ77
    refine own_st st77 ?_
    have N77 := Fr.app N69 Nq77
    show own_Go p e below _ T77 (mkF m 254 #[iv xp, iv xq, own_lv xs, .second, own_lv xu, .second, iv ra, iv rg, iv ri, iv rf, iv (0 : Int32), rv a6, rv a8, rv a10, rv a12, rv a14, rv a16, rv a18, rv s220, rv s228, rv s236, rv s244, rv s253, rv s261, rv s269, .unset, .unset, .unset, .unset, .unset, .unset, .unset] [(.long (own_min xs (9223372036854775806 : Int64)))])
    have sg78 : own_V p e below T77 (mkF m 261 #[iv xp, iv xq, own_lv xs, .second, own_lv xu, .second, iv ra, iv rg, iv ri, iv rf, iv (0 : Int32), rv a6, rv a8, rv a10, rv a12, rv a14, rv a16, rv a18, rv s220, rv s228, rv s236, rv s244, rv s253, rv s261, rv s269, own_lv (own_min xs (9223372036854775806 : Int64)), .second, .unset, .unset, .unset, .unset, .unset] [(.long (9223372036854775806 : Int64)), (.long xu)]) (mkF m 254 #[iv xp, iv xq, own_lv xs, .second, own_lv xu, .second, iv ra, iv rg, iv ri, iv rf, iv (0 : Int32), rv a6, rv a8, rv a10, rv a12, rv a14, rv a16, rv a18, rv s220, rv s228, rv s236, rv s244, rv s253, rv s261, rv s269, .unset, .unset, .unset, .unset, .unset, .unset, .unset] [(.long (own_min xs (9223372036854775806 : Int64)))]) := by
      intro t kt
      refine XS.lstore X77.here hx rfl (hb hby at_254) rfl (l' := #[iv xp, iv xq, own_lv xs, .second, own_lv xu, .second, iv ra, iv rg, iv ri, iv rf, iv (0 : Int32), rv a6, rv a8, rv a10, rv a12, rv a14, rv a16, rv a18, rv s220, rv s228, rv s236, rv s244, rv s253, rv s261, rv s269, own_lv (own_min xs (9223372036854775806 : Int64)), .second, .unset, .unset, .unset, .unset, .unset]) rfl ?_
      show own_S p e below T77 m 256 #[iv xp, iv xq, own_lv xs, .second, own_lv xu, .second, iv ra, iv rg, iv ri, iv rf, iv (0 : Int32), rv a6, rv a8, rv a10, rv a12, rv a14, rv a16, rv a18, rv s220, rv s228, rv s236, rv s244, rv s253, rv s261, rv s269, own_lv (own_min xs (9223372036854775806 : Int64)), .second, .unset, .unset, .unset, .unset, .unset] [] _
      refine XS.lload X77.here hx rfl (hb hby at_256) rfl ?_
      show own_S p e below T77 m 258 #[iv xp, iv xq, own_lv xs, .second, own_lv xu, .second, iv ra, iv rg, iv ri, iv rf, iv (0 : Int32), rv a6, rv a8, rv a10, rv a12, rv a14, rv a16, rv a18, rv s220, rv s228, rv s236, rv s244, rv s253, rv s261, rv s269, own_lv (own_min xs (9223372036854775806 : Int64)), .second, .unset, .unset, .unset, .unset, .unset] [(.long xu)] _
      refine X77.ldc2Long hx hown (mvT hZ (hw _ (List.mem_of_getElem? (i := 37) rfl))) (g := (mkF m 258 #[iv xp, iv xq, own_lv xs, .second, own_lv xu, .second, iv ra, iv rg, iv ri, iv rf, iv (0 : Int32), rv a6, rv a8, rv a10, rv a12, rv a14, rv a16, rv a18, rv s220, rv s228, rv s236, rv s244, rv s253, rv s261, rv s269, own_lv (own_min xs (9223372036854775806 : Int64)), .second, .unset, .unset, .unset, .unset, .unset] [(.long xu)])) rfl (hb hby at_258) _ ?_
      show own_S p e below T77 m 261 #[iv xp, iv xq, own_lv xs, .second, own_lv xu, .second, iv ra, iv rg, iv ri, iv rf, iv (0 : Int32), rv a6, rv a8, rv a10, rv a12, rv a14, rv a16, rv a18, rv s220, rv s228, rv s236, rv s244, rv s253, rv s261, rv s269, own_lv (own_min xs (9223372036854775806 : Int64)), .second, .unset, .unset, .unset, .unset, .unset] [(.long (9223372036854775806 : Int64)), (.long xu)] _
      exact kt
    refine own_st sg78 ?_
    obtain ⟨_, T79, L79, X79, hQ79, st79⟩ := own_callS (y := (⟨"java/lang/Math", "min", "(JJ)J"⟩ : MethodName)) X77 hx hZ hown (hw _ (List.mem_of_getElem? (i := 38) rfl)) (hw _ (List.mem_of_getElem? (i := 39) rfl)) (hw _ (List.mem_of_getElem? (i := 40) rfl)) (hw _ (List.mem_of_getElem? (i := 41) rfl)) (by decide) (own_rmmin l Z a0 hw xu (9223372036854775806 : Int64) h69 n0 Z69) e77 (g := (mkF m 261 #[iv xp, iv xq, own_lv xs, .second, own_lv xu, .second, iv ra, iv rg, iv ri, iv rf, iv (0 : Int32), rv a6, rv a8, rv a10, rv a12, rv a14, rv a16, rv a18, rv s220, rv s228, rv s236, rv s244, rv s253, rv s261, rv s269, own_lv (own_min xs (9223372036854775806 : Int64)), .second, .unset, .unset, .unset, .unset, .unset] [(.long (9223372036854775806 : Int64)), (.long xu)])) rfl (by rw [hml]; rfl) (argsL := [(.long xu), (.long (9223372036854775806 : Int64))]) (rest := []) (lenOf own_pd16 rfl) rfl (W := 0) (by show 2 * 0 + _ ≤ _; exact Nat.le_of_eq rfl) (hb hby at_261) (by decide) (by decide) (by decide) (by decide)
    obtain ⟨rfl, Nq79, e79⟩ := hQ79
    refine own_st st79 ?_
    have N79 := Fr.app N77 Nq79
    show own_Go p e below _ T79 (mkF m 264 #[iv xp, iv xq, own_lv xs, .second, own_lv xu, .second, iv ra, iv rg, iv ri, iv rf, iv (0 : Int32), rv a6, rv a8, rv a10, rv a12, rv a14, rv a16, rv a18, rv s220, rv s228, rv s236, rv s244, rv s253, rv s261, rv s269, own_lv (own_min xs (9223372036854775806 : Int64)), .second, .unset, .unset, .unset, .unset, .unset] [(.long (own_min xu (9223372036854775806 : Int64)))])
    have sg80 : own_V p e below T79 (mkF m 266 #[iv xp, iv xq, own_lv xs, .second, own_lv xu, .second, iv ra, iv rg, iv ri, iv rf, iv (0 : Int32), rv a6, rv a8, rv a10, rv a12, rv a14, rv a16, rv a18, rv s220, rv s228, rv s236, rv s244, rv s253, rv s261, rv s269, own_lv (own_min xs (9223372036854775806 : Int64)), .second, own_lv (own_min xu (9223372036854775806 : Int64)), .second, .unset, .unset, .unset] []) (mkF m 264 #[iv xp, iv xq, own_lv xs, .second, own_lv xu, .second, iv ra, iv rg, iv ri, iv rf, iv (0 : Int32), rv a6, rv a8, rv a10, rv a12, rv a14, rv a16, rv a18, rv s220, rv s228, rv s236, rv s244, rv s253, rv s261, rv s269, own_lv (own_min xs (9223372036854775806 : Int64)), .second, .unset, .unset, .unset, .unset, .unset] [(.long (own_min xu (9223372036854775806 : Int64)))]) := by
      intro t kt
      refine XS.lstore X79.here hx rfl (hb hby at_264) rfl (l' := #[iv xp, iv xq, own_lv xs, .second, own_lv xu, .second, iv ra, iv rg, iv ri, iv rf, iv (0 : Int32), rv a6, rv a8, rv a10, rv a12, rv a14, rv a16, rv a18, rv s220, rv s228, rv s236, rv s244, rv s253, rv s261, rv s269, own_lv (own_min xs (9223372036854775806 : Int64)), .second, own_lv (own_min xu (9223372036854775806 : Int64)), .second, .unset, .unset, .unset]) rfl ?_
      show own_S p e below T79 m 266 #[iv xp, iv xq, own_lv xs, .second, own_lv xu, .second, iv ra, iv rg, iv ri, iv rf, iv (0 : Int32), rv a6, rv a8, rv a10, rv a12, rv a14, rv a16, rv a18, rv s220, rv s228, rv s236, rv s244, rv s253, rv s261, rv s269, own_lv (own_min xs (9223372036854775806 : Int64)), .second, own_lv (own_min xu (9223372036854775806 : Int64)), .second, .unset, .unset, .unset] [] _
      exact kt
    refine own_st sg80 ?_
    obtain ⟨T81, h81, X81, e81, E81, A81, D81, -, st81⟩ := newO X79 hx hZ hown (hw _ (List.mem_of_getElem? (i := 42) rfl)) (hw _ (List.mem_of_getElem? (i := 43) rfl)) (hw _ (List.mem_of_getElem? (i := 44) rfl)) e79 (g := (mkF m 266 #[iv xp, iv xq, own_lv xs, .second, own_lv xu, .second, iv ra, iv rg, iv ri, iv rf, iv (0 : Int32), rv a6, rv a8, rv a10, rv a12, rv a14, rv a16, rv a18, rv s220, rv s228, rv s236, rv s244, rv s253, rv s261, rv s269, own_lv (own_min xs (9223372036854775806 : Int64)), .second, own_lv (own_min xu (9223372036854775806 : Int64)), .second, .unset, .unset, .unset] [])) rfl (hb hby at_266) (by decide) (by decide)
    obtain ⟨a81, g81⟩ : ∃ z, z = h69.size := ⟨_, rfl⟩
    rw [← g81] at A81 D81 st81
    refine own_st st81 ?_
    have g_a81 : n0 ≤ a81 := by rw [g81]; exact Z69
    have Z81 : n0 ≤ h81.size := Nat.le_trans Z69 E81.1
    have kk81 : 0 ≤ h81.size := Nat.le_trans kk69 E81.1
    show own_Go p e below _ T81 (mkF m 269 #[iv xp, iv xq, own_lv xs, .second, own_lv xu, .second, iv ra, iv rg, iv ri, iv rf, iv (0 : Int32), rv a6, rv a8, rv a10, rv a12, rv a14, rv a16, rv a18, rv s220, rv s228, rv s236, rv s244, rv s253, rv s261, rv s269, own_lv (own_min xs (9223372036854775806 : Int64)), .second, own_lv (own_min xu (9223372036854775806 : Int64)), .second, .unset, .unset, .unset] [(.ref a81)])
    have szu81 : h69.size ≤ a81 := Nat.le_of_eq g81.symm
    have KE81 : Keep h69 h81 [] := (Keep.refl h69 []).ext E81
    have SC_81 := own_Sta.keep SC_69 KE81
    have T11_81 := T11_69.keep KE81 nin0 nin0
    have T12_81 := T12_69.keep KE81 nin0 nin0
    have T13_81 := T13_69.keep KE81 nin0 nin0
    have T14_81 := T14_69.keep KE81 nin0 nin0
    have T15_81 := T15_69.keep KE81 nin0 nin0
    have T16_81 := T16_69.keep KE81 nin0 nin0
    have T17_81 := T17_69.keep KE81 nin0 nin0
    have T11b_81 := T11b_69.keep KE81 nin0 nin0
    have T12b_81 := T12b_69.keep KE81 nin0 nin0
    have T13b_81 := T13b_69.keep KE81 nin0 nin0
    have T14b_81 := T14b_69.keep KE81 nin0 nin0
    have T15b_81 := T15b_69.keep KE81 nin0 nin0
    have T16b_81 := T16b_69.keep KE81 nin0 nin0
    have T17b_81 := S69.keep KE81 nin0 nin0
    have FinstanceId81 : Fld Z h81 a81 "com/example/coverfold/coverfold/Usage" "instanceId" "Ljava/lang/String;" .null := D81 (Or.inr (hw _ (List.mem_of_getElem? (i := 90) rfl))) (ty := (.object "java/lang/String")) (by decide)
    have Faccount81 : Fld Z h81 a81 "com/example/coverfold/coverfold/Usage" "account" "Ljava/lang/String;" .null := D81 (Or.inr (hw _ (List.mem_of_getElem? (i := 92) rfl))) (ty := (.object "java/lang/String")) (by decide)
    have Fregion81 : Fld Z h81 a81 "com/example/coverfold/coverfold/Usage" "region" "Ljava/lang/String;" .null := D81 (Or.inr (hw _ (List.mem_of_getElem? (i := 94) rfl))) (ty := (.object "java/lang/String")) (by decide)
    have Fzone81 : Fld Z h81 a81 "com/example/coverfold/coverfold/Usage" "zone" "Ljava/lang/String;" .null := D81 (Or.inr (hw _ (List.mem_of_getElem? (i := 96) rfl))) (ty := (.object "java/lang/String")) (by decide)
    have FinstanceType81 : Fld Z h81 a81 "com/example/coverfold/coverfold/Usage" "instanceType" "Ljava/lang/String;" .null := D81 (Or.inr (hw _ (List.mem_of_getElem? (i := 98) rfl))) (ty := (.object "java/lang/String")) (by decide)
    have Fplatform81 : Fld Z h81 a81 "com/example/coverfold/coverfold/Usage" "platform" "Ljava/lang/String;" .null := D81 (Or.inr (hw _ (List.mem_of_getElem? (i := 100) rfl))) (ty := (.object "java/lang/String")) (by decide)
    have Ftenancy81 : Fld Z h81 a81 "com/example/coverfold/coverfold/Usage" "tenancy" "Ljava/lang/String;" .null := D81 (Or.inr (hw _ (List.mem_of_getElem? (i := 102) rfl))) (ty := (.object "java/lang/String")) (by decide)
    have Fstart81 : Fld Z h81 a81 "com/example/coverfold/coverfold/Usage" "start" "J" (.long (0 : Int64)) := D81 (Or.inr (hw _ (List.mem_of_getElem? (i := 104) rfl))) (ty := .long) (by decide)
    have Fend81 : Fld Z h81 a81 "com/example/coverfold/coverfold/Usage" "end" "J" (.long (0 : Int64)) := D81 (Or.inr (hw _ (List.mem_of_getElem? (i := 106) rfl))) (ty := .long) (by decide)
    have FpartSeconds81 : Fld Z h81 a81 "com/example/coverfold/coverfold/Usage" "partSeconds" "Lcom/example/coverfold/coverfold/Rational;" .null := D81 (Or.inr (hw _ (List.mem_of_getElem? (i := 108) rfl))) (ty := (.object "com/example/coverfold/coverfold/Rational")) (by decide)
    have sg82 : own_V p e below T81 (mkF m 290 #[iv xp, iv xq, own_lv xs, .second, own_lv xu, .second, iv ra, iv rg, iv ri, iv rf, iv (0 : Int32), rv a6, rv a8, rv a10, rv a12, rv a14, rv a16, rv a18, rv s220, rv s228, rv s236, rv s244, rv s253, rv s261, rv s269, own_lv (own_min xs (9223372036854775806 : Int64)), .second, own_lv (own_min xu (9223372036854775806 : Int64)), .second, .unset, .unset, .unset] [(.long ((own_min xs (9223372036854775806 : Int64)) + (1 : Int64))), (.long (own_min xs (9223372036854775806 : Int64))), (.ref a18), (.ref a16), (.ref a14), (.ref a12), (.ref a10), (.ref a8), (.ref a6), (.ref a81), (.ref a81)]) (mkF m 269 #[iv xp, iv xq, own_lv xs, .second, own_lv xu, .second, iv ra, iv rg, iv ri, iv rf, iv (0 : Int32), rv a6, rv a8, rv a10, rv a12, rv a14, rv a16, rv a18, rv s220, rv s228, rv s236, rv s244, rv s253, rv s261, rv s269, own_lv (own_min xs (9223372036854775806 : Int64)), .second, own_lv (own_min xu (9223372036854775806 : Int64)), .second, .unset, .unset, .unset] [(.ref a81)]) := by
      intro t kt
      refine XS.dup X81.here hx rfl (hb hby at_269) rfl rfl ?_
      show own_S p e below T81 m 270 #[iv xp, iv xq, own_lv xs, .second, own_lv xu, .second, iv ra, iv rg, iv ri, iv rf, iv (0 : Int32), rv a6, rv a8, rv a10, rv a12, rv a14, rv a16, rv a18, rv s220, rv s228, rv s236, rv s244, rv s253, rv s261, rv s269, own_lv (own_min xs (9223372036854775806 : Int64)), .second, own_lv (own_min xu (9223372036854775806 : Int64)), .second, .unset, .unset, .unset] [(.ref a81), (.ref a81)] _
      refine XS.aload X81.here hx rfl (hb hby at_270) rfl rfl ?_
      show own_S p e below T81 m 272 #[iv xp, iv xq, own_lv xs, .second, own_lv xu, .second, iv ra, iv rg, iv ri, iv rf, iv (0 : Int32), rv a6, rv a8, rv a10, rv a12, rv a14, rv a16, rv a18, rv s220, rv s228, rv s236, rv s244, rv s253, rv s261, rv s269, own_lv (own_min xs (9223372036854775806 : Int64)), .second, own_lv (own_min xu (9223372036854775806 : Int64)), .second, .unset, .unset, .unset] [(.ref a6), (.ref a81), (.ref a81)] _
      refine XS.aload X81.here hx rfl (hb hby at_272) rfl rfl ?_
      show own_S p e below T81 m 274 #[iv xp, iv xq, own_lv xs, .second, own_lv xu, .second, iv ra, iv rg, iv ri, iv rf, iv (0 : Int32), rv a6, rv a8, rv a10, rv a12, rv a14, rv a16, rv a18, rv s220, rv s228, rv s236, rv s244, rv s253, rv s261, rv s269, own_lv (own_min xs (9223372036854775806 : Int64)), .second, own_lv (own_min xu (9223372036854775806 : Int64)), .second, .unset, .unset, .unset] [(.ref a8), (.ref a6), (.ref a81), (.ref a81)] _
      refine XS.aload X81.here hx rfl (hb hby at_274) rfl rfl ?_
      show own_S p e below T81 m 276 #[iv xp, iv xq, own_lv xs, .second, own_lv xu, .second, iv ra, iv rg, iv ri, iv rf, iv (0 : Int32), rv a6, rv a8, rv a10, rv a12, rv a14, rv a16, rv a18, rv s220, rv s228, rv s236, rv s244, rv s253, rv s261, rv s269, own_lv (own_min xs (9223372036854775806 : Int64)), .second, own_lv (own_min xu (9223372036854775806 : Int64)), .second, .unset, .unset, .unset] [(.ref a10), (.ref a8), (.ref a6), (.ref a81), (.ref a81)] _
      refine XS.aload X81.here hx rfl (hb hby at_276) rfl rfl ?_
      show own_S p e below T81 m 278 #[iv xp, iv xq, own_lv xs, .second, own_lv xu, .second, iv ra, iv rg, iv ri, iv rf, iv (0 : Int32), rv a6, rv a8, rv a10, rv a12, rv a14, rv a16, rv a18, rv s220, rv s228, rv s236, rv s244, rv s253, rv s261, rv s269, own_lv (own_min xs (9223372036854775806 : Int64)), .second, own_lv (own_min xu (9223372036854775806 : Int64)), .second, .unset, .unset, .unset] [(.ref a12), (.ref a10), (.ref a8), (.ref a6), (.ref a81), (.ref a81)] _
      refine XS.aload X81.here hx rfl (hb hby at_278) rfl rfl ?_
      show own_S p e below T81 m 280 #[iv xp, iv xq, own_lv xs, .second, own_lv xu, .second, iv ra, iv rg, iv ri, iv rf, iv (0 : Int32), rv a6, rv a8, rv a10, rv a12, rv a14, rv a16, rv a18, rv s220, rv s228, rv s236, rv s244, rv s253, rv s261, rv s269, own_lv (own_min xs (9223372036854775806 : Int64)), .second, own_lv (own_min xu (9223372036854775806 : Int64)), .second, .unset, .unset, .unset] [(.ref a14), (.ref a12), (.ref a10), (.ref a8), (.ref a6), (.ref a81), (.ref a81)] _
      refine XS.aload X81.here hx rfl (hb hby at_280) rfl rfl ?_
      show own_S p e below T81 m 282 #[iv xp, iv xq, own_lv xs, .second, own_lv xu, .second, iv ra, iv rg, iv ri, iv rf, iv (0 : Int32), rv a6, rv a8, rv a10, rv a12, rv a14, rv a16, rv a18, rv s220, rv s228, rv s236, rv s244, rv s253, rv s261, rv s269, own_lv (own_min xs (9223372036854775806 : Int64)), .second, own_lv (own_min xu (9223372036854775806 : Int64)), .second, .unset, .unset, .unset] [(.ref a16), (.ref a14), (.ref a12), (.ref a10), (.ref a8), (.ref a6), (.ref a81), (.ref a81)] _
      refine XS.aload X81.here hx rfl (hb hby at_282) rfl rfl ?_
      show own_S p e below T81 m 284 #[iv xp, iv xq, own_lv xs, .second, own_lv xu, .second, iv ra, iv rg, iv ri, iv rf, iv (0 : Int32), rv a6, rv a8, rv a10, rv a12, rv a14, rv a16, rv a18, rv s220, rv s228, rv s236, rv s244, rv s253, rv s261, rv s269, own_lv (own_min xs (9223372036854775806 : Int64)), .second, own_lv (own_min xu (9223372036854775806 : Int64)), .second, .unset, .unset, .unset] [(.ref a18), (.ref a16), (.ref a14), (.ref a12), (.ref a10), (.ref a8), (.ref a6), (.ref a81), (.ref a81)] _
      refine XS.lload X81.here hx rfl (hb hby at_284) rfl ?_
      show own_S p e below T81 m 286 #[iv xp, iv xq, own_lv xs, .second, own_lv xu, .second, iv ra, iv rg, iv ri, iv rf, iv (0 : Int32), rv a6, rv a8, rv a10, rv a12, rv a14, rv a16, rv a18, rv s220, rv s228, rv s236, rv s244, rv s253, rv s261, rv s269, own_lv (own_min xs (9223372036854775806 : Int64)), .second, own_lv (own_min xu (9223372036854775806 : Int64)), .second, .unset, .unset, .unset] [(.long (own_min xs (9223372036854775806 : Int64))), (.ref a18), (.ref a16), (.ref a14), (.ref a12), (.ref a10), (.ref a8), (.ref a6), (.ref a81), (.ref a81)] _
      refine XS.lload X81.here hx rfl (hb hby at_286) rfl ?_
      show own_S p e below T81 m 288 #[iv xp, iv xq, own_lv xs, .second, own_lv xu, .second, iv ra, iv rg, iv ri, iv rf, iv (0 : Int32), rv a6, rv a8, rv a10, rv a12, rv a14, rv a16, rv a18, rv s220, rv s228, rv s236, rv s244, rv s253, rv s261, rv s269, own_lv (own_min xs (9223372036854775806 : Int64)), .second, own_lv (own_min xu (9223372036854775806 : Int64)), .second, .unset, .unset, .unset] [(.long (own_min xs (9223372036854775806 : Int64))), (.long (own_min xs (9223372036854775806 : Int64))), (.ref a18), (.ref a16), (.ref a14), (.ref a12), (.ref a10), (.ref a8), (.ref a6), (.ref a81), (.ref a81)] _
      refine XS.lconst X81.here hx rfl (hb hby at_288) ?_
      show own_S p e below T81 m 289 #[iv xp, iv xq, own_lv xs, .second, own_lv xu, .second, iv ra, iv rg, iv ri, iv rf, iv (0 : Int32), rv a6, rv a8, rv a10, rv a12, rv a14, rv a16, rv a18, rv s220, rv s228, rv s236, rv s244, rv s253, rv s261, rv s269, own_lv (own_min xs (9223372036854775806 : Int64)), .second, own_lv (own_min xu (9223372036854775806 : Int64)), .second, .unset, .unset, .unset] [(.long (1 : Int64)), (.long (own_min xs (9223372036854775806 : Int64))), (.long (own_min xs (9223372036854775806 : Int64))), (.ref a18), (.ref a16), (.ref a14), (.ref a12), (.ref a10), (.ref a8), (.ref a6), (.ref a81), (.ref a81)] _
      refine XS.ladd X81.here hx rfl (hb hby at_289) rfl ?_
      show own_S p e below T81 m 290 #[iv xp, iv xq, own_lv xs, .second, own_lv xu, .second, iv ra, iv rg, iv ri, iv rf, iv (0 : Int32), rv a6, rv a8, rv a10, rv a12, rv a14, rv a16, rv a18, rv s220, rv s228, rv s236, rv s244, rv s253, rv s261, rv s269, own_lv (own_min xs (9223372036854775806 : Int64)), .second, own_lv (own_min xu (9223372036854775806 : Int64)), .second, .unset, .unset, .unset] [(.long ((own_min xs (9223372036854775806 : Int64)) + (1 : Int64))), (.long (own_min xs (9223372036854775806 : Int64))), (.ref a18), (.ref a16), (.ref a14), (.ref a12), (.ref a10), (.ref a8), (.ref a6), (.ref a81), (.ref a81)] _
      exact kt
    refine own_st sg82 ?_
    obtain ⟨_, T83, L83, X83, hQ83, st83⟩ := own_callI (y := (⟨"com/example/coverfold/coverfold/Usage", "<init>", "(Ljava/lang/String;Ljava/lang/String;Ljava/lang/String;Ljava/lang/String;Ljava/lang/String;Ljava/lang/String;Ljava/lang/String;JJ)V"⟩ : MethodName)) (a := a81) X81 hx hZ hown rfl (hw _ (List.mem_of_getElem? (i := 45) rfl)) (hw _ (List.mem_of_getElem? (i := 46) rfl)) (hw _ (List.mem_of_getElem? (i := 44) rfl)) (hw _ (List.mem_of_getElem? (i := 47) rfl)) (by decide) (own_rmus9_1 l Z a0 hw a81 a6 a8 a10 a12 a14 a16 a18 (own_min xs (9223372036854775806 : Int64)) ((own_min xs (9223372036854775806 : Int64)) + (1 : Int64)) b12 b10 cc (fun _ => own_txc rg) (fun _ => own_txc rg) h81 n0 Z81 T14_81 T13_81 rfl SC_81 hcc A81 FinstanceId81 Faccount81 Fregion81 Fzone81 FinstanceType81 Fplatform81 Ftenancy81 Fstart81 Fend81 FpartSeconds81 g_a81 (own_min_lt xs)) e81 (g := (mkF m 290 #[iv xp, iv xq, own_lv xs, .second, own_lv xu, .second, iv ra, iv rg, iv ri, iv rf, iv (0 : Int32), rv a6, rv a8, rv a10, rv a12, rv a14, rv a16, rv a18, rv s220, rv s228, rv s236, rv s244, rv s253, rv s261, rv s269, own_lv (own_min xs (9223372036854775806 : Int64)), .second, own_lv (own_min xu (9223372036854775806 : Int64)), .second, .unset, .unset, .unset] [(.long ((own_min xs (9223372036854775806 : Int64)) + (1 : Int64))), (.long (own_min xs (9223372036854775806 : Int64))), (.ref a18), (.ref a16), (.ref a14), (.ref a12), (.ref a10), (.ref a8), (.ref a6), (.ref a81), (.ref a81)])) rfl (by rw [hml]; rfl) (argsL := [(.ref a6), (.ref a8), (.ref a10), (.ref a12), (.ref a14), (.ref a16), (.ref a18), (.long (own_min xs (9223372036854775806 : Int64))), (.long ((own_min xs (9223372036854775806 : Int64)) + (1 : Int64)))]) (rest := [(.ref a81)]) (lenOf own_pd17 rfl) rfl (W := 1) (by show 2 * 0 + _ ≤ _; exact Nat.le_of_eq rfl) (hb hby at_290) (by decide) (by decide) (by decide) (by decide)
    obtain ⟨rfl, Nq83, R83⟩ := hQ83
    refine own_st st83 ?_
    have Z83 : n0 ≤ T83.heap.size := Nat.le_trans Z81 R83.1.1
    have kk83 : 0 ≤ T83.heap.size := Nat.le_trans kk81 R83.1.1
    have N83 := Fr.app N79 Nq83
    show own_Go p e below _ T83 (mkF m 293 #[iv xp, iv xq, own_lv xs, .second, own_lv xu, .second, iv ra, iv rg, iv ri, iv rf, iv (0 : Int32), rv a6, rv a8, rv a10, rv a12, rv a14, rv a16, rv a18, rv s220, rv s228, rv s236, rv s244, rv s253, rv s261, rv s269, own_lv (own_min xs (9223372036854775806 : Int64)), .second, own_lv (own_min xu (9223372036854775806 : Int64)), .second, .unset, .unset, .unset] [(.ref a81)])
    have KU83 : Keep h69 T83.heap [] := KE81.trans R83.1 (allS (Or.inr szu81) all0)
    have SC_83 := own_Sta.keep SC_69 KU83
    have T11_83 := T11_69.keep KU83 nin0 nin0
    have T12_83 := T12_69.keep KU83 nin0 nin0
    have T13_83 := T13_69.keep KU83 nin0 nin0
    have T14_83 := T14_69.keep KU83 nin0 nin0
    have T15_83 := T15_69.keep KU83 nin0 nin0
    have T16_83 := T16_69.keep KU83 nin0 nin0
    have T17_83 := T17_69.keep KU83 nin0 nin0
    have T11b_83 := T11b_69.keep KU83 nin0 nin0
    have T12b_83 := T12b_69.keep KU83 nin0 nin0
    have T13b_83 := T13b_69.keep KU83 nin0 nin0
    have T14b_83 := T14b_69.keep KU83 nin0 nin0
    have T15b_83 := T15b_69.keep KU83 nin0 nin0
    have T16b_83 := T16b_69.keep KU83 nin0 nin0
    have T17b_83 := S69.keep KU83 nin0 nin0
    have sg84 : own_V p e below T83 (mkF m 295 #[iv xp, iv xq, own_lv xs, .second, own_lv xu, .second, iv ra, iv rg, iv ri, iv rf, iv (0 : Int32), rv a6, rv a8, rv a10, rv a12, rv a14, rv a16, rv a18, rv s220, rv s228, rv s236, rv s244, rv s253, rv s261, rv s269, own_lv (own_min xs (9223372036854775806 : Int64)), .second, own_lv (own_min xu (9223372036854775806 : Int64)), .second, rv a81, .unset, .unset] []) (mkF m 293 #[iv xp, iv xq, own_lv xs, .second, own_lv xu, .second, iv ra, iv rg, iv ri, iv rf, iv (0 : Int32), rv a6, rv a8, rv a10, rv a12, rv a14, rv a16, rv a18, rv s220, rv s228, rv s236, rv s244, rv s253, rv s261, rv s269, own_lv (own_min xs (9223372036854775806 : Int64)), .second, own_lv (own_min xu (9223372036854775806 : Int64)), .second, .unset, .unset, .unset] [(.ref a81)]) := by
      intro t kt
      refine XS.astore X83.here hx rfl (hb hby at_293) rfl rfl (l' := #[iv xp, iv xq, own_lv xs, .second, own_lv xu, .second, iv ra, iv rg, iv ri, iv rf, iv (0 : Int32), rv a6, rv a8, rv a10, rv a12, rv a14, rv a16, rv a18, rv s220, rv s228, rv s236, rv s244, rv s253, rv s261, rv s269, own_lv (own_min xs (9223372036854775806 : Int64)), .second, own_lv (own_min xu (9223372036854775806 : Int64)), .second, rv a81, .unset, .unset]) rfl ?_
      show own_S p e below T83 m 295 #[iv xp, iv xq, own_lv xs, .second, own_lv xu, .second, iv ra, iv rg, iv ri, iv rf, iv (0 : Int32), rv a6, rv a8, rv a10, rv a12, rv a14, rv a16, rv a18, rv s220, rv s228, rv s236, rv s244, rv s253, rv s261, rv s269, own_lv (own_min xs (9223372036854775806 : Int64)), .second, own_lv (own_min xu (9223372036854775806 : Int64)), .second, rv a81, .unset, .unset] [] _
      exact kt
    refine own_st sg84 ?_
    obtain ⟨T85, h85, X85, e85, E85, A85, D85, -, st85⟩ := newO X83 hx hZ hown (hw _ (List.mem_of_getElem? (i := 42) rfl)) (hw _ (List.mem_of_getElem? (i := 43) rfl)) (hw _ (List.mem_of_getElem? (i := 44) rfl)) rfl (g := (mkF m 295 #[iv xp, iv xq, own_lv xs, .second, own_lv xu, .second, iv ra, iv rg, iv ri, iv rf, iv (0 : Int32), rv a6, rv a8, rv a10, rv a12, rv a14, rv a16, rv a18, rv s220, rv s228, rv s236, rv s244, rv s253, rv s261, rv s269, own_lv (own_min xs (9223372036854775806 : Int64)), .second, own_lv (own_min xu (9223372036854775806 : Int64)), .second, rv a81, .unset, .unset] [])) rfl (hb hby at_295) (by decide) (by decide)
    obtain ⟨a85, g85⟩ : ∃ z, z = T83.heap.size := ⟨_, rfl⟩
    rw [← g85] at A85 D85 st85
    refine own_st st85 ?_
    have g_a85 : n0 ≤ a85 := by rw [g85]; exact Z83
    have Z85 : n0 ≤ h85.size := Nat.le_trans Z83 E85.1
    have kk85 : 0 ≤ h85.size := Nat.le_trans kk83 E85.1
    show own_Go p e below _ T85 (mkF m 298 #[iv xp, iv xq, own_lv xs, .second, own_lv xu, .second, iv ra, iv rg, iv ri, iv rf, iv (0 : Int32), rv a6, rv a8, rv a10, rv a12, rv a14, rv a16, rv a18, rv s220, rv s228, rv s236, rv s244, rv s253, rv s261, rv s269, own_lv (own_min xs (9223372036854775806 : Int64)), .second, own_lv (own_min xu (9223372036854775806 : Int64)), .second, rv a81, .unset, .unset] [(.ref a85)])
    have szu85 : T83.heap.size ≤ a85 := Nat.le_of_eq g85.symm
    have KE85 : Keep T83.heap h85 [] := (Keep.refl T83.heap []).ext E85
    have SC_85 := own_Sta.keep SC_83 KE85
    have T11_85 := T11_83.keep KE85 nin0 nin0
    have T12_85 := T12_83.keep KE85 nin0 nin0
    have T13_85 := T13_83.keep KE85 nin0 nin0
    have T14_85 := T14_83.keep KE85 nin0 nin0
    have T15_85 := T15_83.keep KE85 nin0 nin0
    have T16_85 := T16_83.keep KE85 nin0 nin0
    have T17_85 := T17_83.keep KE85 nin0 nin0
    have T11b_85 := T11b_83.keep KE85 nin0 nin0
    have T12b_85 := T12b_83.keep KE85 nin0 nin0
    have T13b_85 := T13b_83.keep KE85 nin0 nin0
    have T14b_85 := T14b_83.keep KE85 nin0 nin0
    have T15b_85 := T15b_83.keep KE85 nin0 nin0
    have T16b_85 := T16b_83.keep KE85 nin0 nin0
    have T17b_85 := T17b_83.keep KE85 nin0 nin0
    have U1_85 := R83.2.keep KE85 nin0
    have FinstanceId85 : Fld Z h85 a85 "com/example/coverfold/coverfold/Usage" "instanceId" "Ljava/lang/String;" .null := D85 (Or.inr (hw _ (List.mem_of_getElem? (i := 90) rfl))) (ty := (.object "java/lang/String")) (by decide)
    have Faccount85 : Fld Z h85 a85 "com/example/coverfold/coverfold/Usage" "account" "Ljava/lang/String;" .null := D85 (Or.inr (hw _ (List.mem_of_getElem? (i := 92) rfl))) (ty := (.object "java/lang/String")) (by decide)
    have Fregion85 : Fld Z h85 a85 "com/example/coverfold/coverfold/Usage" "region" "Ljava/lang/String;" .null := D85 (Or.inr (hw _ (List.mem_of_getElem? (i := 94) rfl))) (ty := (.object "java/lang/String")) (by decide)
    have Fzone85 : Fld Z h85 a85 "com/example/coverfold/coverfold/Usage" "zone" "Ljava/lang/String;" .null := D85 (Or.inr (hw _ (List.mem_of_getElem? (i := 96) rfl))) (ty := (.object "java/lang/String")) (by decide)
    have FinstanceType85 : Fld Z h85 a85 "com/example/coverfold/coverfold/Usage" "instanceType" "Ljava/lang/String;" .null := D85 (Or.inr (hw _ (List.mem_of_getElem? (i := 98) rfl))) (ty := (.object "java/lang/String")) (by decide)
    have Fplatform85 : Fld Z h85 a85 "com/example/coverfold/coverfold/Usage" "platform" "Ljava/lang/String;" .null := D85 (Or.inr (hw _ (List.mem_of_getElem? (i := 100) rfl))) (ty := (.object "java/lang/String")) (by decide)
    have Ftenancy85 : Fld Z h85 a85 "com/example/coverfold/coverfold/Usage" "tenancy" "Ljava/lang/String;" .null := D85 (Or.inr (hw _ (List.mem_of_getElem? (i := 102) rfl))) (ty := (.object "java/lang/String")) (by decide)
    have Fstart85 : Fld Z h85 a85 "com/example/coverfold/coverfold/Usage" "start" "J" (.long (0 : Int64)) := D85 (Or.inr (hw _ (List.mem_of_getElem? (i := 104) rfl))) (ty := .long) (by decide)
    have Fend85 : Fld Z h85 a85 "com/example/coverfold/coverfold/Usage" "end" "J" (.long (0 : Int64)) := D85 (Or.inr (hw _ (List.mem_of_getElem? (i := 106) rfl))) (ty := .long) (by decide)
    have FpartSeconds85 : Fld Z h85 a85 "com/example/coverfold/coverfold/Usage" "partSeconds" "Lcom/example/coverfold/coverfold/Rational;" .null := D85 (Or.inr (hw _ (List.mem_of_getElem? (i := 108) rfl))) (ty := (.object "com/example/coverfold/coverfold/Rational")) (by decide)
    have sg86 : own_V p e below T85 (mkF m 319 #[iv xp, iv xq, own_lv xs, .second, own_lv xu, .second, iv ra, iv rg, iv ri, iv rf, iv (0 : Int32), rv a6, rv a8, rv a10, rv a12, rv a14, rv a16, rv a18, rv s220, rv s228, rv s236, rv s244, rv s253, rv s261, rv s269, own_lv (own_min xs (9223372036854775806 : Int64)), .second, own_lv (own_min xu (9223372036854775806 : Int64)), .second, rv a81, .unset, .unset] [(.long ((own_min xu (9223372036854775806 : Int64)) + (1 : Int64))), (.long (own_min xu (9223372036854775806 : Int64))), (.ref s269), (.ref s261), (.ref s253), (.ref s244), (.ref s236), (.ref s228), (.ref s220), (.ref a85), (.ref a85)]) (mkF m 298 #[iv xp, iv xq, own_lv xs, .second, own_lv xu, .second, iv ra, iv rg, iv ri, iv rf, iv (0 : Int32), rv a6, rv a8, rv a10, rv a12, rv a14, rv a16, rv a18, rv s220, rv s228, rv s236, rv s244, rv s253, rv s261, rv s269, own_lv (own_min xs (9223372036854775806 : Int64)), .second, own_lv (own_min xu (9223372036854775806 : Int64)), .second, rv a81, .unset, .unset] [(.ref a85)]) := by
      intro t kt
      refine XS.dup X85.here hx rfl (hb hby at_298) rfl rfl ?_
      show own_S p e below T85 m 299 #[iv xp, iv xq, own_lv xs, .second, own_lv xu, .second, iv ra, iv rg, iv ri, iv rf, iv (0 : Int32), rv a6, rv a8, rv a10, rv a12, rv a14, rv a16, rv a18, rv s220, rv s228, rv s236, rv s244, rv s253, rv s261, rv s269, own_lv (own_min xs (9223372036854775806 : Int64)), .second, own_lv (own_min xu (9223372036854775806 : Int64)), .second, rv a81, .unset, .unset] [(.ref a85), (.ref a85)] _
      refine XS.aload X85.here hx rfl (hb hby at_299) rfl rfl ?_
      show own_S p e below T85 m 301 #[iv xp, iv xq, own_lv xs, .second, own_lv xu, .second, iv ra, iv rg, iv ri, iv rf, iv (0 : Int32), rv a6, rv a8, rv a10, rv a12, rv a14, rv a16, rv a18, rv s220, rv s228, rv s236, rv s244, rv s253, rv s261, rv s269, own_lv (own_min xs (9223372036854775806 : Int64)), .second, own_lv (own_min xu (9223372036854775806 : Int64)), .second, rv a81, .unset, .unset] [(.ref s220), (.ref a85), (.ref a85)] _
      refine XS.aload X85.here hx rfl (hb hby at_301) rfl rfl ?_
      show own_S p e below T85 m 303 #[iv xp, iv xq, own_lv xs, .second, own_lv xu, .second, iv ra, iv rg, iv ri, iv rf, iv (0 : Int32), rv a6, rv a8, rv a10, rv a12, rv a14, rv a16, rv a18, rv s220, rv s228, rv s236, rv s244, rv s253, rv s261, rv s269, own_lv (own_min xs (9223372036854775806 : Int64)), .second, own_lv (own_min xu (9223372036854775806 : Int64)), .second, rv a81, .unset, .unset] [(.ref s228), (.ref s220), (.ref a85), (.ref a85)] _
      refine XS.aload X85.here hx rfl (hb hby at_303) rfl rfl ?_
      show own_S p e below T85 m 305 #[iv xp, iv xq, own_lv xs, .second, own_lv xu, .second, iv ra, iv rg, iv ri, iv rf, iv (0 : Int32), rv a6, rv a8, rv a10, rv a12, rv a14, rv a16, rv a18, rv s220, rv s228, rv s236, rv s244, rv s253, rv s261, rv s269, own_lv (own_min xs (9223372036854775806 : Int64)), .second, own_lv (own_min xu (9223372036854775806 : Int64)), .second, rv a81, .unset, .unset] [(.ref s236), (.ref s228), (.ref s220), (.ref a85), (.ref a85)] _
      refine XS.aload X85.here hx rfl (hb hby at_305) rfl rfl ?_
      show own_S p e below T85 m 307 #[iv xp, iv xq, own_lv xs, .second, own_lv xu, .second, iv ra, iv rg, iv ri, iv rf, iv (0 : Int32), rv a6, rv a8, rv a10, rv a12, rv a14, rv a16, rv a18, rv s220, rv s228, rv s236, rv s244, rv s253, rv s261, rv s269, own_lv (own_min xs (9223372036854775806 : Int64)), .second, own_lv (own_min xu (9223372036854775806 : Int64)), .second, rv a81, .unset, .unset] [(.ref s244), (.ref s236), (.ref s228), (.ref s220), (.ref a85), (.ref a85)] _
      refine XS.aload X85.here hx rfl (hb hby at_307) rfl rfl ?_
      show own_S p e below T85 m 309 #[iv xp, iv xq, own_lv xs, .second, own_lv xu, .second, iv ra, iv rg, iv ri, iv rf, iv (0 : Int32), rv a6, rv a8, rv a10, rv a12, rv a14, rv a16, rv a18, rv s220, rv s228, rv s236, rv s244, rv s253, rv s261, rv s269, own_lv (own_min xs (9223372036854775806 : Int64)), .second, own_lv (own_min xu (9223372036854775806 : Int64)), .second, rv a81, .unset, .unset] [(.ref s253), (.ref s244), (.ref s236), (.ref s228), (.ref s220), (.ref a85), (.ref a85)] _
      refine XS.aload X85.here hx rfl (hb hby at_309) rfl rfl ?_
      show own_S p e below T85 m 311 #[iv xp, iv xq, own_lv xs, .second, own_lv xu, .second, iv ra, iv rg, iv ri, iv rf, iv (0 : Int32), rv a6, rv a8, rv a10, rv a12, rv a14, rv a16, rv a18, rv s220, rv s228, rv s236, rv s244, rv s253, rv s261, rv s269, own_lv (own_min xs (9223372036854775806 : Int64)), .second, own_lv (own_min xu (9223372036854775806 : Int64)), .second, rv a81, .unset, .unset] [(.ref s261), (.ref s253), (.ref s244), (.ref s236), (.ref s228), (.ref s220), (.ref a85), (.ref a85)] _
      refine XS.aload X85.here hx rfl (hb hby at_311) rfl rfl ?_
      show own_S p e below T85 m 313 #[iv xp, iv xq, own_lv xs, .second, own_lv xu, .second, iv ra, iv rg, iv ri, iv rf, iv (0 : Int32), rv a6, rv a8, rv a10, rv a12, rv a14, rv a16, rv a18, rv s220, rv s228, rv s236, rv s244, rv s253, rv s261, rv s269, own_lv (own_min xs (9223372036854775806 : Int64)), .second, own_lv (own_min xu (9223372036854775806 : Int64)), .second, rv a81, .unset, .unset] [(.ref s269), (.ref s261), (.ref s253), (.ref s244), (.ref s236), (.ref s228), (.ref s220), (.ref a85), (.ref a85)] _
      refine XS.lload X85.here hx rfl (hb hby at_313) rfl ?_
      show own_S p e below T85 m 315 #[iv xp, iv xq, own_lv xs, .second, own_lv xu, .second, iv ra, iv rg, iv ri, iv rf, iv (0 : Int32), rv a6, rv a8, rv a10, rv a12, rv a14, rv a16, rv a18, rv s220, rv s228, rv s236, rv s244, rv s253, rv s261, rv s269, own_lv (own_min xs (9223372036854775806 : Int64)), .second, own_lv (own_min xu (9223372036854775806 : Int64)), .second, rv a81, .unset, .unset] [(.long (own_min xu (9223372036854775806 : Int64))), (.ref s269), (.ref s261), (.ref s253), (.ref s244), (.ref s236), (.ref s228), (.ref s220), (.ref a85), (.ref a85)] _
      refine XS.lload X85.here hx rfl (hb hby at_315) rfl ?_
      show own_S p e below T85 m 317 #[iv xp, iv xq, own_lv xs, .second, own_lv xu, .second, iv ra, iv rg, iv ri, iv rf, iv (0 : Int32), rv a6, rv a8, rv a10, rv a12, rv a14, rv a16, rv a18, rv s220, rv s228, rv s236, rv s244, rv s253, rv s261, rv s269, own_lv (own_min xs (9223372036854775806 : Int64)), .second, own_lv (own_min xu (9223372036854775806 : Int64)), .second, rv a81, .unset, .unset] [(.long (own_min xu (9223372036854775806 : Int64))), (.long (own_min xu (9223372036854775806 : Int64))), (.ref s269), (.ref s261), (.ref s253), (.ref s244), (.ref s236), (.ref s228), (.ref s220), (.ref a85), (.ref a85)] _
      refine XS.lconst X85.here hx rfl (hb hby at_317) ?_
      show own_S p e below T85 m 318 #[iv xp, iv xq, own_lv xs, .second, own_lv xu, .second, iv ra, iv rg, iv ri, iv rf, iv (0 : Int32), rv a6, rv a8, rv a10, rv a12, rv a14, rv a16, rv a18, rv s220, rv s228, rv s236, rv s244, rv s253, rv s261, rv s269, own_lv (own_min xs (9223372036854775806 : Int64)), .second, own_lv (own_min xu (9223372036854775806 : Int64)), .second, rv a81, .unset, .unset] [(.long (1 : Int64)), (.long (own_min xu (9223372036854775806 : Int64))), (.long (own_min xu (9223372036854775806 : Int64))), (.ref s269), (.ref s261), (.ref s253), (.ref s244), (.ref s236), (.ref s228), (.ref s220), (.ref a85), (.ref a85)] _
      refine XS.ladd X85.here hx rfl (hb hby at_318) rfl ?_
      show own_S p e below T85 m 319 #[iv xp, iv xq, own_lv xs, .second, own_lv xu, .second, iv ra, iv rg, iv ri, iv rf, iv (0 : Int32), rv a6, rv a8, rv a10, rv a12, rv a14, rv a16, rv a18, rv s220, rv s228, rv s236, rv s244, rv s253, rv s261, rv s269, own_lv (own_min xs (9223372036854775806 : Int64)), .second, own_lv (own_min xu (9223372036854775806 : Int64)), .second, rv a81, .unset, .unset] [(.long ((own_min xu (9223372036854775806 : Int64)) + (1 : Int64))), (.long (own_min xu (9223372036854775806 : Int64))), (.ref s269), (.ref s261), (.ref s253), (.ref s244), (.ref s236), (.ref s228), (.ref s220), (.ref a85), (.ref a85)] _
      exact kt
    refine own_st sg86 ?_
    obtain ⟨_, T87, L87, X87, hQ87, st87⟩ := own_callI (y := (⟨"com/example/coverfold/coverfold/Usage", "<init>", "(Ljava/lang/String;Ljava/lang/String;Ljava/lang/String;Ljava/lang/String;Ljava/lang/String;Ljava/lang/String;Ljava/lang/String;JJ)V"⟩ : MethodName)) (a := a85) X85 hx hZ hown rfl (hw _ (List.mem_of_getElem? (i := 45) rfl)) (hw _ (List.mem_of_getElem? (i := 46) rfl)) (hw _ (List.mem_of_getElem? (i := 44) rfl)) (hw _ (List.mem_of_getElem? (i := 47) rfl)) (by decide) (own_rmus9_1 l Z a0 hw a85 s220 s228 s236 s244 s253 s261 s269 (own_min xu (9223372036854775806 : Int64)) ((own_min xu (9223372036854775806 : Int64)) + (1 : Int64)) b244 b236 cc (fun _ => own_txc rg) (fun _ => own_txc rg) h85 n0 Z85 T14b_85 T13b_85 rfl SC_85 hcc A85 FinstanceId85 Faccount85 Fregion85 Fzone85 FinstanceType85 Fplatform85 Ftenancy85 Fstart85 Fend85 FpartSeconds85 g_a85 (own_min_lt xu)) e85 (g := (mkF m 319 #[iv xp, iv xq, own_lv xs, .second, own_lv xu, .second, iv ra, iv rg, iv ri, iv rf, iv (0 : Int32), rv a6, rv a8, rv a10, rv a12, rv a14, rv a16, rv a18, rv s220, rv s228, rv s236, rv s244, rv s253, rv s261, rv s269, own_lv (own_min xs (9223372036854775806 : Int64)), .second, own_lv (own_min xu (9223372036854775806 : Int64)), .second, rv a81, .unset, .unset] [(.long ((own_min xu (9223372036854775806 : Int64)) + (1 : Int64))), (.long (own_min xu (9223372036854775806 : Int64))), (.ref s269), (.ref s261), (.ref s253), (.ref s244), (.ref s236), (.ref s228), (.ref s220), (.ref a85), (.ref a85)])) rfl (by rw [hml]; rfl) (argsL := [(.ref s220), (.ref s228), (.ref s236), (.ref s244), (.ref s253), (.ref s261), (.ref s269), (.long (own_min xu (9223372036854775806 : Int64))), (.long ((own_min xu (9223372036854775806 : Int64)) + (1 : Int64)))]) (rest := [(.ref a85)]) (lenOf own_pd17 rfl) rfl (W := 1) (by show 2 * 0 + _ ≤ _; exact Nat.le_of_eq rfl) (hb hby at_319) (by decide) (by decide) (by decide) (by decide)
    obtain ⟨rfl, Nq87, R87⟩ := hQ87
    refine own_st st87 ?_
    have Z87 : n0 ≤ T87.heap.size := Nat.le_trans Z85 R87.1.1
    have kk87 : 0 ≤ T87.heap.size := Nat.le_trans kk85 R87.1.1
    have N87 := Fr.app N83 Nq87
    show own_Go p e below _ T87 (mkF m 322 #[iv xp, iv xq, own_lv xs, .second, own_lv xu, .second, iv ra, iv rg, iv ri, iv rf, iv (0 : Int32), rv a6, rv a8, rv a10, rv a12, rv a14, rv a16, rv a18, rv s220, rv s228, rv s236, rv s244, rv s253, rv s261, rv s269, own_lv (own_min xs (9223372036854775806 : Int64)), .second, own_lv (own_min xu (9223372036854775806 : Int64)), .second, rv a81, .unset, .unset] [(.ref a85)])
    have KU87 : Keep T83.heap T87.heap [] := KE85.trans R87.1 (allS (Or.inr szu85) all0)
    have SC_87 := own_Sta.keep SC_83 KU87
    have T11_87 := T11_83.keep KU87 nin0 nin0
    have T12_87 := T12_83.keep KU87 nin0 nin0
    have T13_87 := T13_83.keep KU87 nin0 nin0
    have T14_87 := T14_83.keep KU87 nin0 nin0
    have T15_87 := T15_83.keep KU87 nin0 nin0
    have T16_87 := T16_83.keep KU87 nin0 nin0
    have T17_87 := T17_83.keep KU87 nin0 nin0
    have T11b_87 := T11b_83.keep KU87 nin0 nin0
    have T12b_87 := T12b_83.keep KU87 nin0 nin0
    have T13b_87 := T13b_83.keep KU87 nin0 nin0
    have T14b_87 := T14b_83.keep KU87 nin0 nin0
    have T15b_87 := T15b_83.keep KU87 nin0 nin0
    have T16b_87 := T16b_83.keep KU87 nin0 nin0
    have T17b_87 := T17b_83.keep KU87 nin0 nin0
    have U1_87 := R83.2.keep KU87 nin0
    have sg88 : own_V p e below T87 (mkF m 324 #[iv xp, iv xq, own_lv xs, .second, own_lv xu, .second, iv ra, iv rg, iv ri, iv rf, iv (0 : Int32), rv a6, rv a8, rv a10, rv a12, rv a14, rv a16, rv a18, rv s220, rv s228, rv s236, rv s244, rv s253, rv s261, rv s269, own_lv (own_min xs (9223372036854775806 : Int64)), .second, own_lv (own_min xu (9223372036854775806 : Int64)), .second, rv a81, rv a85, .unset] []) (mkF m 322 #[iv xp, iv xq, own_lv xs, .second, own_lv xu, .second, iv ra, iv rg, iv ri, iv rf, iv (0 : Int32), rv a6, rv a8, rv a10, rv a12, rv a14, rv a16, rv a18, rv s220, rv s228, rv s236, rv s244, rv s253, rv s261, rv s269, own_lv (own_min xs (9223372036854775806 : Int64)), .second, own_lv (own_min xu (9223372036854775806 : Int64)), .second, rv a81, .unset, .unset] [(.ref a85)]) := by
      intro t kt
      refine XS.astore X87.here hx rfl (hb hby at_322) rfl rfl (l' := #[iv xp, iv xq, own_lv xs, .second, own_lv xu, .second, iv ra, iv rg, iv ri, iv rf, iv (0 : Int32), rv a6, rv a8, rv a10, rv a12, rv a14, rv a16, rv a18, rv s220, rv s228, rv s236, rv s244, rv s253, rv s261, rv s269, own_lv (own_min xs (9223372036854775806 : Int64)), .second, own_lv (own_min xu (9223372036854775806 : Int64)), .second, rv a81, rv a85, .unset]) rfl ?_
      show own_S p e below T87 m 324 #[iv xp, iv xq, own_lv xs, .second, own_lv xu, .second, iv ra, iv rg, iv ri, iv rf, iv (0 : Int32), rv a6, rv a8, rv a10, rv a12, rv a14, rv a16, rv a18, rv s220, rv s228, rv s236, rv s244, rv s253, rv s261, rv s269, own_lv (own_min xs (9223372036854775806 : Int64)), .second, own_lv (own_min xu (9223372036854775806 : Int64)), .second, rv a81, rv a85, .unset] [] _
      exact kt
    refine own_st sg88 ?_
    obtain ⟨al, hal⟩ : ∃ z : Int32, z = (if (xp &&& (63 : Int32)) = (63 : Int32) then (1 : Int32) else (0 : Int32)) := ⟨_, rfl⟩
    have sg90 : own_V p e below T87 (mkF m 338 #[iv xp, iv xq, own_lv xs, .second, own_lv xu, .second, iv ra, iv rg, iv ri, iv rf, iv (0 : Int32), rv a6, rv a8, rv a10, rv a12, rv a14, rv a16, rv a18, rv s220, rv s228, rv s236, rv s244, rv s253, rv s261, rv s269, own_lv (own_min xs (9223372036854775806 : Int64)), .second, own_lv (own_min xu (9223372036854775806 : Int64)), .second, rv a81, rv a85, .unset] [(.int al)]) (mkF m 324 #[iv xp, iv xq, own_lv xs, .second, own_lv xu, .second, iv ra, iv rg, iv ri, iv rf, iv (0 : Int32), rv a6, rv a8, rv a10, rv a12, rv a14, rv a16, rv a18, rv s220, rv s228, rv s236, rv s244, rv s253, rv s261, rv s269, own_lv (own_min xs (9223372036854775806 : Int64)), .second, own_lv (own_min xu (9223372036854775806 : Int64)), .second, rv a81, rv a85, .unset] []) := by
      intro t kt
      refine XS.iloadN X87.here hx rfl (hb hby at_324) rfl ?_
      show own_S p e below T87 m 325 #[iv xp, iv xq, own_lv xs, .second, own_lv xu, .second, iv ra, iv rg, iv ri, iv rf, iv (0 : Int32), rv a6, rv a8, rv a10, rv a12, rv a14, rv a16, rv a18, rv s220, rv s228, rv s236, rv s244, rv s253, rv s261, rv s269, own_lv (own_min xs (9223372036854775806 : Int64)), .second, own_lv (own_min xu (9223372036854775806 : Int64)), .second, rv a81, rv a85, .unset] [(.int xp)] _
      refine XS.bipush X87.here hx rfl (hb hby at_325) ?_
      show own_S p e below T87 m 327 #[iv xp, iv xq, own_lv xs, .second, own_lv xu, .second, iv ra, iv rg, iv ri, iv rf, iv (0 : Int32), rv a6, rv a8, rv a10, rv a12, rv a14, rv a16, rv a18, rv s220, rv s228, rv s236, rv s244, rv s253, rv s261, rv s269, own_lv (own_min xs (9223372036854775806 : Int64)), .second, own_lv (own_min xu (9223372036854775806 : Int64)), .second, rv a81, rv a85, .unset] [(.int (63 : Int32)), (.int xp)] _
      refine XS.iand X87.here hx rfl (hb hby at_327) rfl ?_
      show own_S p e below T87 m 328 #[iv xp, iv xq, own_lv xs, .second, own_lv xu, .second, iv ra, iv rg, iv ri, iv rf, iv (0 : Int32), rv a6, rv a8, rv a10, rv a12, rv a14, rv a16, rv a18, rv s220, rv s228, rv s236, rv s244, rv s253, rv s261, rv s269, own_lv (own_min xs (9223372036854775806 : Int64)), .second, own_lv (own_min xu (9223372036854775806 : Int64)), .second, rv a81, rv a85, .unset] [(.int (xp &&& (63 : Int32)))] _
      refine XS.bipush X87.here hx rfl (hb hby at_328) ?_
      show own_S p e below T87 m 330 #[iv xp, iv xq, own_lv xs, .second, own_lv xu, .second, iv ra, iv rg, iv ri, iv rf, iv (0 : Int32), rv a6, rv a8, rv a10, rv a12, rv a14, rv a16, rv a18, rv s220, rv s228, rv s236, rv s244, rv s253, rv s261, rv s269, own_lv (own_min xs (9223372036854775806 : Int64)), .second, own_lv (own_min xu (9223372036854775806 : Int64)), .second, rv a81, rv a85, .unset] [(.int (63 : Int32)), (.int (xp &&& (63 : Int32)))] _
      by_cases hc89 : (xp &&& (63 : Int32)) = (63 : Int32)
      · refine XS.icmpNo X87.here hx rfl (hb hby at_330) rfl (teq hc89).2 ?_
        show own_S p e below T87 m 333 #[iv xp, iv xq, own_lv xs, .second, own_lv xu, .second, iv ra, iv rg, iv ri, iv rf, iv (0 : Int32), rv a6, rv a8, rv a10, rv a12, rv a14, rv a16, rv a18, rv s220, rv s228, rv s236, rv s244, rv s253, rv s261, rv s269, own_lv (own_min xs (9223372036854775806 : Int64)), .second, own_lv (own_min xu (9223372036854775806 : Int64)), .second, rv a81, rv a85, .unset] [] _
        refine XS.iconst X87.here hx rfl (hb hby at_333) ?_
        show own_S p e below T87 m 334 #[iv xp, iv xq, own_lv xs, .second, own_lv xu, .second, iv ra, iv rg, iv ri, iv rf, iv (0 : Int32), rv a6, rv a8, rv a10, rv a12, rv a14, rv a16, rv a18, rv s220, rv s228, rv s236, rv s244, rv s253, rv s261, rv s269, own_lv (own_min xs (9223372036854775806 : Int64)), .second, own_lv (own_min xu (9223372036854775806 : Int64)), .second, rv a81, rv a85, .unset] [(.int (1 : Int32))] _
        refine XS.goto X87.here hx rfl (pc0 := 334) (pc' := 338) rfl (hb hby at_334) (by decide) (by decide) ?_
        show own_S p e below T87 m 338 #[iv xp, iv xq, own_lv xs, .second, own_lv xu, .second, iv ra, iv rg, iv ri, iv rf, iv (0 : Int32), rv a6, rv a8, rv a10, rv a12, rv a14, rv a16, rv a18, rv s220, rv s228, rv s236, rv s244, rv s253, rv s261, rv s269, own_lv (own_min xs (9223372036854775806 : Int64)), .second, own_lv (own_min xu (9223372036854775806 : Int64)), .second, rv a81, rv a85, .unset] [(.int (1 : Int32))] _
        rw [show al = (1 : Int32) from by rw [hal, if_pos hc89]] at kt
        exact kt
      · refine XS.icmpYes X87.here hx rfl (pc0 := 330) (pc' := 337) rfl (hb hby at_330) rfl (feq hc89).2 (by decide) (by decide) ?_
        show own_S p e below T87 m 337 #[iv xp, iv xq, own_lv xs, .second, own_lv xu, .second, iv ra, iv rg, iv ri, iv rf, iv (0 : Int32), rv a6, rv a8, rv a10, rv a12, rv a14, rv a16, rv a18, rv s220, rv s228, rv s236, rv s244, rv s253, rv s261, rv s269, own_lv (own_min xs (9223372036854775806 : Int64)), .second, own_lv (own_min xu (9223372036854775806 : Int64)), .second, rv a81, rv a85, .unset] [] _
        refine XS.iconst X87.here hx rfl (hb hby at_337) ?_
        show own_S p e below T87 m 338 #[iv xp, iv xq, own_lv xs, .second, own_lv xu, .second, iv ra, iv rg, iv ri, iv rf, iv (0 : Int32), rv a6, rv a8, rv a10, rv a12, rv a14, rv a16, rv a18, rv s220, rv s228, rv s236, rv s244, rv s253, rv s261, rv s269, own_lv (own_min xs (9223372036854775806 : Int64)), .second, own_lv (own_min xu (9223372036854775806 : Int64)), .second, rv a81, rv a85, .unset] [(.int (0 : Int32))] _
        rw [show al = (0 : Int32) from by rw [hal, if_neg hc89]] at kt
        exact kt
    refine own_st sg90 ?_
    have sg91 : own_V p e below T87 (mkF m 344 #[iv xp, iv xq, own_lv xs, .second, own_lv xu, .second, iv ra, iv rg, iv ri, iv rf, iv (0 : Int32), rv a6, rv a8, rv a10, rv a12, rv a14, rv a16, rv a18, rv s220, rv s228, rv s236, rv s244, rv s253, rv s261, rv s269, own_lv (own_min xs (9223372036854775806 : Int64)), .second, own_lv (own_min xu (9223372036854775806 : Int64)), .second, rv a81, rv a85, iv al] [(.ref a85), (.ref a81)]) (mkF m 338 #[iv xp, iv xq, own_lv xs, .second, own_lv xu, .second, iv ra, iv rg, iv ri, iv rf, iv (0 : Int32), rv a6, rv a8, rv a10, rv a12, rv a14, rv a16, rv a18, rv s220, rv s228, rv s236, rv s244, rv s253, rv s261, rv s269, own_lv (own_min xs (9223372036854775806 : Int64)), .second, own_lv (own_min xu (9223372036854775806 : Int64)), .second, rv a81, rv a85, .unset] [(.int al)]) := by
      intro t kt
      refine XS.istore X87.here hx rfl (hb hby at_338) rfl (l' := #[iv xp, iv xq, own_lv xs, .second, own_lv xu, .second, iv ra, iv rg, iv ri, iv rf, iv (0 : Int32), rv a6, rv a8, rv a10, rv a12, rv a14, rv a16, rv a18, rv s220, rv s228, rv s236, rv s244, rv s253, rv s261, rv s269, own_lv (own_min xs (9223372036854775806 : Int64)), .second, own_lv (own_min xu (9223372036854775806 : Int64)), .second, rv a81, rv a85, iv al]) rfl ?_
      show own_S p e below T87 m 340 #[iv xp, iv xq, own_lv xs, .second, own_lv xu, .second, iv ra, iv rg, iv ri, iv rf, iv (0 : Int32), rv a6, rv a8, rv a10, rv a12, rv a14, rv a16, rv a18, rv s220, rv s228, rv s236, rv s244, rv s253, rv s261, rv s269, own_lv (own_min xs (9223372036854775806 : Int64)), .second, own_lv (own_min xu (9223372036854775806 : Int64)), .second, rv a81, rv a85, iv al] [] _
      refine XS.aload X87.here hx rfl (hb hby at_340) rfl rfl ?_
      show own_S p e below T87 m 342 #[iv xp, iv xq, own_lv xs, .second, own_lv xu, .second, iv ra, iv rg, iv ri, iv rf, iv (0 : Int32), rv a6, rv a8, rv a10, rv a12, rv a14, rv a16, rv a18, rv s220, rv s228, rv s236, rv s244, rv s253, rv s261, rv s269, own_lv (own_min xs (9223372036854775806 : Int64)), .second, own_lv (own_min xu (9223372036854775806 : Int64)), .second, rv a81, rv a85, iv al] [(.ref a81)] _
      refine XS.aload X87.here hx rfl (hb hby at_342) rfl rfl ?_
      show own_S p e below T87 m 344 #[iv xp, iv xq, own_lv xs, .second, own_lv xu, .second, iv ra, iv rg, iv ri, iv rf, iv (0 : Int32), rv a6, rv a8, rv a10, rv a12, rv a14, rv a16, rv a18, rv s220, rv s228, rv s236, rv s244, rv s253, rv s261, rv s269, own_lv (own_min xs (9223372036854775806 : Int64)), .second, own_lv (own_min xu (9223372036854775806 : Int64)), .second, rv a81, rv a85, iv al] [(.ref a85), (.ref a81)] _
      exact kt
    refine own_st sg91 ?_
    obtain ⟨_, T92, L92, X92, hQ92, st92⟩ := own_callV (y := (⟨"com/example/coverfold/coverfold/Usage", "sharesTextsOfKind", "(Lcom/example/coverfold/coverfold/Usage;)Z"⟩ : MethodName)) (y0 := (⟨"com/example/coverfold/coverfold/Usage", "sharesTextsOfKind", "(Lcom/example/coverfold/coverfold/Usage;)Z"⟩ : MethodName)) (a := a81) (C := "com/example/coverfold/coverfold/Usage") X87 hx hZ hown U1_87.1 (hw _ (List.mem_of_getElem? (i := 109) rfl)) (hw _ (List.mem_of_getElem? (i := 110) rfl)) (hw _ (List.mem_of_getElem? (i := 112) rfl)) (notFace_of_selects (args := #[]) (mvT hZ (hw _ (List.mem_of_getElem? (i := 112) rfl)))) (hw _ (List.mem_of_getElem? (i := 111) rfl)) (hw _ (List.mem_of_getElem? (i := 44) rfl)) (hw _ (List.mem_of_getElem? (i := 113) rfl)) (by decide) (own_rmshr l Z a0 hw a81 a85 a8 a10 a12 a14 a16 a18 s228 s236 s244 s253 s261 s269 T87.heap n0 Z87 U1_87 R87.2) rfl (g := (mkF m 344 #[iv xp, iv xq, own_lv xs, .second, own_lv xu, .second, iv ra, iv rg, iv ri, iv rf, iv (0 : Int32), rv a6, rv a8, rv a10, rv a12, rv a14, rv a16, rv a18, rv s220, rv s228, rv s236, rv s244, rv s253, rv s261, rv s269, own_lv (own_min xs (9223372036854775806 : Int64)), .second, own_lv (own_min xu (9223372036854775806 : Int64)), .second, rv a81, rv a85, iv al] [(.ref a85), (.ref a81)])) rfl (by rw [hml]; rfl) (argsL := [(.ref a85)]) (rest := []) (lenOf own_pd18 rfl) rfl (W := 0) (by show 2 * 0 + _ ≤ _; exact Nat.le_of_eq rfl) (hb hby at_344) (by decide) (by decide) (by decide) (by decide)
    obtain ⟨rfl, Nq92, e92⟩ := hQ92
    refine own_st st92 ?_
    have N92 := Fr.app N87 Nq92
    show own_Go p e below _ T92 (mkF m 347 #[iv xp, iv xq, own_lv xs, .second, own_lv xu, .second, iv ra, iv rg, iv ri, iv rf, iv (0 : Int32), rv a6, rv a8, rv a10, rv a12, rv a14, rv a16, rv a18, rv s220, rv s228, rv s236, rv s244, rv s253, rv s261, rv s269, own_lv (own_min xs (9223372036854775806 : Int64)), .second, own_lv (own_min xu (9223372036854775806 : Int64)), .second, rv a81, rv a85, iv al] [(.int (if a8 = s228 ∧ a10 = s236 ∧ a12 = s244 ∧ a14 = s253 ∧ a16 = s261 ∧ a18 = s269 then (1 : Int32) else (0 : Int32)))])
    have sg93 : own_V p e below T92 (mkF m 349 #[iv xp, iv xq, own_lv xs, .second, own_lv xu, .second, iv ra, iv rg, iv ri, iv rf, iv (0 : Int32), rv a6, rv a8, rv a10, rv a12, rv a14, rv a16, rv a18, rv s220, rv s228, rv s236, rv s244, rv s253, rv s261, rv s269, own_lv (own_min xs (9223372036854775806 : Int64)), .second, own_lv (own_min xu (9223372036854775806 : Int64)), .second, rv a81, rv a85, iv al] [(.int al), (.int (if a8 = s228 ∧ a10 = s236 ∧ a12 = s244 ∧ a14 = s253 ∧ a16 = s261 ∧ a18 = s269 then (1 : Int32) else (0 : Int32)))]) (mkF m 347 #[iv xp, iv xq, own_lv xs, .second, own_lv xu, .second, iv ra, iv rg, iv ri, iv rf, iv (0 : Int32), rv a6, rv a8, rv a10, rv a12, rv a14, rv a16, rv a18, rv s220, rv s228, rv s236, rv s244, rv s253, rv s261, rv s269, own_lv (own_min xs (9223372036854775806 : Int64)), .second, own_lv (own_min xu (9223372036854775806 : Int64)), .second, rv a81, rv a85, iv al] [(.int (if a8 = s228 ∧ a10 = s236 ∧ a12 = s244 ∧ a14 = s253 ∧ a16 = s261 ∧ a18 = s269 then (1 : Int32) else (0 : Int32)))]) := by
      intro t kt
      refine XS.iload X92.here hx rfl (hb hby at_347) rfl ?_
      show own_S p e below T92 m 349 #[iv xp, iv xq, own_lv xs, .second, own_lv xu, .second, iv ra, iv rg, iv ri, iv rf, iv (0 : Int32), rv a6, rv a8, rv a10, rv a12, rv a14, rv a16, rv a18, rv s220, rv s228, rv s236, rv s244, rv s253, rv s261, rv s269, own_lv (own_min xs (9223372036854775806 : Int64)), .second, own_lv (own_min xu (9223372036854775806 : Int64)), .second, rv a81, rv a85, iv al] [(.int al), (.int (if a8 = s228 ∧ a10 = s236 ∧ a12 = s244 ∧ a14 = s253 ∧ a16 = s261 ∧ a18 = s269 then (1 : Int32) else (0 : Int32)))] _
      exact kt
    refine own_st sg93 ?_
    have hc94 : (if a8 = s228 ∧ a10 = s236 ∧ a12 = s244 ∧ a14 = s253 ∧ a16 = s261 ∧ a18 = s269 then (1 : Int32) else (0 : Int32)) = al := own_l6 hal Q28 Q36 Q44 Q53 Q61 Q69
    have sg95 : own_V p e below T92 (mkF m 352 #[iv xp, iv xq, own_lv xs, .second, own_lv xu, .second, iv ra, iv rg, iv ri, iv rf, iv (0 : Int32), rv a6, rv a8, rv a10, rv a12, rv a14, rv a16, rv a18, rv s220, rv s228, rv s236, rv s244, rv s253, rv s261, rv s269, own_lv (own_min xs (9223372036854775806 : Int64)), .second, own_lv (own_min xu (9223372036854775806 : Int64)), .second, rv a81, rv a85, iv al] []) (mkF m 349 #[iv xp, iv xq, own_lv xs, .second, own_lv xu, .second, iv ra, iv rg, iv ri, iv rf, iv (0 : Int32), rv a6, rv a8, rv a10, rv a12, rv a14, rv a16, rv a18, rv s220, rv s228, rv s236, rv s244, rv s253, rv s261, rv s269, own_lv (own_min xs (9223372036854775806 : Int64)), .second, own_lv (own_min xu (9223372036854775806 : Int64)), .second, rv a81, rv a85, iv al] [(.int al), (.int (if a8 = s228 ∧ a10 = s236 ∧ a12 = s244 ∧ a14 = s253 ∧ a16 = s261 ∧ a18 = s269 then (1 : Int32) else (0 : Int32)))]) := by
      intro t kt
      refine XS.icmpNo X92.here hx rfl (hb hby at_349) rfl (teq hc94).2 ?_
      exact kt
    refine own_st sg95 ?_
    have sg96 : own_V p e below T92 (mkF m 356 #[iv xp, iv xq, own_lv xs, .second, own_lv xu, .second, iv ra, iv rg, iv ri, iv rf, iv (0 : Int32), rv a6, rv a8, rv a10, rv a12, rv a14, rv a16, rv a18, rv s220, rv s228, rv s236, rv s244, rv s253, rv s261, rv s269, own_lv (own_min xs (9223372036854775806 : Int64)), .second, own_lv (own_min xu (9223372036854775806 : Int64)), .second, rv a81, rv a85, iv al] [(.ref a81), (.ref a85)]) (mkF m 352 #[iv xp, iv xq, own_lv xs, .second, own_lv xu, .second, iv ra, iv rg, iv ri, iv rf, iv (0 : Int32), rv a6, rv a8, rv a10, rv a12, rv a14, rv a16, rv a18, rv s220, rv s228, rv s236, rv s244, rv s253, rv s261, rv s269, own_lv (own_min xs (9223372036854775806 : Int64)), .second, own_lv (own_min xu (9223372036854775806 : Int64)), .second, rv a81, rv a85, iv al] []) := by
      intro t kt
      refine XS.aload X92.here hx rfl (hb hby at_352) rfl rfl ?_
      show own_S p e below T92 m 354 #[iv xp, iv xq, own_lv xs, .second, own_lv xu, .second, iv ra, iv rg, iv ri, iv rf, iv (0 : Int32), rv a6, rv a8, rv a10, rv a12, rv a14, rv a16, rv a18, rv s220, rv s228, rv s236, rv s244, rv s253, rv s261, rv s269, own_lv (own_min xs (9223372036854775806 : Int64)), .second, own_lv (own_min xu (9223372036854775806 : Int64)), .second, rv a81, rv a85, iv al] [(.ref a85)] _
      refine XS.aload X92.here hx rfl (hb hby at_354) rfl rfl ?_
      show own_S p e below T92 m 356 #[iv xp, iv xq, own_lv xs, .second, own_lv xu, .second, iv ra, iv rg, iv ri, iv rf, iv (0 : Int32), rv a6, rv a8, rv a10, rv a12, rv a14, rv a16, rv a18, rv s220, rv s228, rv s236, rv s244, rv s253, rv s261, rv s269, own_lv (own_min xs (9223372036854775806 : Int64)), .second, own_lv (own_min xu (9223372036854775806 : Int64)), .second, rv a81, rv a85, iv al] [(.ref a81), (.ref a85)] _
      exact kt
    refine own_st sg96 ?_
    obtain ⟨_, T97, L97, X97, hQ97, st97⟩ := own_callV (y := (⟨"com/example/coverfold/coverfold/Usage", "sharesTextsOfKind", "(Lcom/example/coverfold/coverfold/Usage;)Z"⟩ : MethodName)) (y0 := (⟨"com/example/coverfold/coverfold/Usage", "sharesTextsOfKind", "(Lcom/example/coverfold/coverfold/Usage;)Z"⟩ : MethodName)) (a := a85) (C := "com/example/coverfold/coverfold/Usage") X92 hx hZ hown R87.2.1 (hw _ (List.mem_of_getElem? (i := 109) rfl)) (hw _ (List.mem_of_getElem? (i := 110) rfl)) (hw _ (List.mem_of_getElem? (i := 112) rfl)) (notFace_of_selects (args := #[]) (mvT hZ (hw _ (List.mem_of_getElem? (i := 112) rfl)))) (hw _ (List.mem_of_getElem? (i := 111) rfl)) (hw _ (List.mem_of_getElem? (i := 44) rfl)) (hw _ (List.mem_of_getElem? (i := 113) rfl)) (by decide) (own_rmshr l Z a0 hw a85 a81 s228 s236 s244 s253 s261 s269 a8 a10 a12 a14 a16 a18 T87.heap n0 Z87 R87.2 U1_87) e92 (g := (mkF m 356 #[iv xp, iv xq, own_lv xs, .second, own_lv xu, .second, iv ra, iv rg, iv ri, iv rf, iv (0 : Int32), rv a6, rv a8, rv a10, rv a12, rv a14, rv a16, rv a18, rv s220, rv s228, rv s236, rv s244, rv s253, rv s261, rv s269, own_lv (own_min xs (9223372036854775806 : Int64)), .second, own_lv (own_min xu (9223372036854775806 : Int64)), .second, rv a81, rv a85, iv al] [(.ref a81), (.ref a85)])) rfl (by rw [hml]; rfl) (argsL := [(.ref a81)]) (rest := []) (lenOf own_pd18 rfl) rfl (W := 0) (by show 2 * 0 + _ ≤ _; exact Nat.le_of_eq rfl) (hb hby at_356) (by decide) (by decide) (by decide) (by decide)
    obtain ⟨rfl, Nq97, e97⟩ := hQ97
    refine own_st st97 ?_
    have N97 := Fr.app N92 Nq97
    show own_Go p e below _ T97 (mkF m 359 #[iv xp, iv xq, own_lv xs, .second, own_lv xu, .second, iv ra, iv rg, iv ri, iv rf, iv (0 : Int32), rv a6, rv a8, rv a10, rv a12, rv a14, rv a16, rv a18, rv s220, rv s228, rv s236, rv s244, rv s253, rv s261, rv s269, own_lv (own_min xs (9223372036854775806 : Int64)), .second, own_lv (own_min xu (9223372036854775806 : Int64)), .second, rv a81, rv a85, iv al] [(.int (if s228 = a8 ∧ s236 = a10 ∧ s244 = a12 ∧ s253 = a14 ∧ s261 = a16 ∧ s269 = a18 then (1 : Int32) else (0 : Int32)))])
    have sg98 : own_V p e below T97 (mkF m 361 #[iv xp, iv xq, own_lv xs, .second, own_lv xu, .second, iv ra, iv rg, iv ri, iv rf, iv (0 : Int32), rv a6, rv a8, rv a10, rv a12, rv a14, rv a16, rv a18, rv s220, rv s228, rv s236, rv s244, rv s253, rv s261, rv s269, own_lv (own_min xs (9223372036854775806 : Int64)), .second, own_lv (own_min xu (9223372036854775806 : Int64)), .second, rv a81, rv a85, iv al] [(.int al), (.int (if s228 = a8 ∧ s236 = a10 ∧ s244 = a12 ∧ s253 = a14 ∧ s261 = a16 ∧ s269 = a18 then (1 : Int32) else (0 : Int32)))]) (mkF m 359 #[iv xp, iv xq, own_lv xs, .second, own_lv xu, .second, iv ra, iv rg, iv ri, iv rf, iv (0 : Int32), rv a6, rv a8, rv a10, rv a12, rv a14, rv a16, rv a18, rv s220, rv s228, rv s236, rv s244, rv s253, rv s261, rv s269, own_lv (own_min xs (9223372036854775806 : Int64)), .second, own_lv (own_min xu (9223372036854775806 : Int64)), .second, rv a81, rv a85, iv al] [(.int (if s228 = a8 ∧ s236 = a10 ∧ s244 = a12 ∧ s253 = a14 ∧ s261 = a16 ∧ s269 = a18 then (1 : Int32) else (0 : Int32)))]) := by
      intro t kt
      refine XS.iload X97.here hx rfl (hb hby at_359) rfl ?_
      show own_S p e below T97 m 361 #[iv xp, iv xq, own_lv xs, .second, own_lv xu, .second, iv ra, iv rg, iv ri, iv rf, iv (0 : Int32), rv a6, rv a8, rv a10, rv a12, rv a14, rv a16, rv a18, rv s220, rv s228, rv s236, rv s244, rv s253, rv s261, rv s269, own_lv (own_min xs (9223372036854775806 : Int64)), .second, own_lv (own_min xu (9223372036854775806 : Int64)), .second, rv a81, rv a85, iv al] [(.int al), (.int (if s228 = a8 ∧ s236 = a10 ∧ s244 = a12 ∧ s253 = a14 ∧ s261 = a16 ∧ s269 = a18 then (1 : Int32) else (0 : Int32)))] _
      exact kt
    refine own_st sg98 ?_
    have hc99 : (if s228 = a8 ∧ s236 = a10 ∧ s244 = a12 ∧ s253 = a14 ∧ s261 = a16 ∧ s269 = a18 then (1 : Int32) else (0 : Int32)) = al := own_l6' hal Q28 Q36 Q44 Q53 Q61 Q69
    have sg100 : own_V p e below T97 (mkF m 364 #[iv xp, iv xq, own_lv xs, .second, own_lv xu, .second, iv ra, iv rg, iv ri, iv rf, iv (0 : Int32), rv a6, rv a8, rv a10, rv a12, rv a14, rv a16, rv a18, rv s220, rv s228, rv s236, rv s244, rv s253, rv s261, rv s269, own_lv (own_min xs (9223372036854775806 : Int64)), .second, own_lv (own_min xu (9223372036854775806 : Int64)), .second, rv a81, rv a85, iv al] []) (mkF m 361 #[iv xp, iv xq, own_lv xs, .second, own_lv xu, .second, iv ra, iv rg, iv ri, iv rf, iv (0 : Int32), rv a6, rv a8, rv a10, rv a12, rv a14, rv a16, rv a18, rv s220, rv s228, rv s236, rv s244, rv s253, rv s261, rv s269, own_lv (own_min xs (9223372036854775806 : Int64)), .second, own_lv (own_min xu (9223372036854775806 : Int64)), .second, rv a81, rv a85, iv al] [(.int al), (.int (if s228 = a8 ∧ s236 = a10 ∧ s244 = a12 ∧ s253 = a14 ∧ s261 = a16 ∧ s269 = a18 then (1 : Int32) else (0 : Int32)))]) := by
      intro t kt
      refine XS.icmpNo X97.here hx rfl (hb hby at_361) rfl (teq hc99).2 ?_
      exact kt
    refine own_st sg100 ?_
    have sg101 : own_V p e below T97 (mkF m 368 #[iv xp, iv xq, own_lv xs, .second, own_lv xu, .second, iv ra, iv rg, iv ri, iv rf, iv (0 : Int32), rv a6, rv a8, rv a10, rv a12, rv a14, rv a16, rv a18, rv s220, rv s228, rv s236, rv s244, rv s253, rv s261, rv s269, own_lv (own_min xs (9223372036854775806 : Int64)), .second, own_lv (own_min xu (9223372036854775806 : Int64)), .second, rv a81, rv a85, iv al] [(.ref a81), (.ref a81)]) (mkF m 364 #[iv xp, iv xq, own_lv xs, .second, own_lv xu, .second, iv ra, iv rg, iv ri, iv rf, iv (0 : Int32), rv a6, rv a8, rv a10, rv a12, rv a14, rv a16, rv a18, rv s220, rv s228, rv s236, rv s244, rv s253, rv s261, rv s269, own_lv (own_min xs (9223372036854775806 : Int64)), .second, own_lv (own_min xu (9223372036854775806 : Int64)), .second, rv a81, rv a85, iv al] []) := by
      intro t kt
      refine XS.aload X97.here hx rfl (hb hby at_364) rfl rfl ?_
      show own_S p e below T97 m 366 #[iv xp, iv xq, own_lv xs, .second, own_lv xu, .second, iv ra, iv rg, iv ri, iv rf, iv (0 : Int32), rv a6, rv a8, rv a10, rv a12, rv a14, rv a16, rv a18, rv s220, rv s228, rv s236, rv s244, rv s253, rv s261, rv s269, own_lv (own_min xs (9223372036854775806 : Int64)), .second, own_lv (own_min xu (9223372036854775806 : Int64)), .second, rv a81, rv a85, iv al] [(.ref a81)] _
      refine XS.aload X97.here hx rfl (hb hby at_366) rfl rfl ?_
      show own_S p e below T97 m 368 #[iv xp, iv xq, own_lv xs, .second, own_lv xu, .second, iv ra, iv rg, iv ri, iv rf, iv (0 : Int32), rv a6, rv a8, rv a10, rv a12, rv a14, rv a16, rv a18, rv s220, rv s228, rv s236, rv s244, rv s253, rv s261, rv s269, own_lv (own_min xs (9223372036854775806 : Int64)), .second, own_lv (own_min xu (9223372036854775806 : Int64)), .second, rv a81, rv a85, iv al] [(.ref a81), (.ref a81)] _
      exact kt
    refine own_st sg101 ?_
    obtain ⟨_, T102, L102, X102, hQ102, st102⟩ := own_callV (y := (⟨"com/example/coverfold/coverfold/Usage", "sharesTextsOfKind", "(Lcom/example/coverfold/coverfold/Usage;)Z"⟩ : MethodName)) (y0 := (⟨"com/example/coverfold/coverfold/Usage", "sharesTextsOfKind", "(Lcom/example/coverfold/coverfold/Usage;)Z"⟩ : MethodName)) (a := a81) (C := "com/example/coverfold/coverfold/Usage") X97 hx hZ hown U1_87.1 (hw _ (List.mem_of_getElem? (i := 109) rfl)) (hw _ (List.mem_of_getElem? (i := 110) rfl)) (hw _ (List.mem_of_getElem? (i := 112) rfl)) (notFace_of_selects (args := #[]) (mvT hZ (hw _ (List.mem_of_getElem? (i := 112) rfl)))) (hw _ (List.mem_of_getElem? (i := 111) rfl)) (hw _ (List.mem_of_getElem? (i := 44) rfl)) (hw _ (List.mem_of_getElem? (i := 113) rfl)) (by decide) (own_rmshr l Z a0 hw a81 a81 a8 a10 a12 a14 a16 a18 a8 a10 a12 a14 a16 a18 T87.heap n0 Z87 U1_87 U1_87) e97 (g := (mkF m 368 #[iv xp, iv xq, own_lv xs, .second, own_lv xu, .second, iv ra, iv rg, iv ri, iv rf, iv (0 : Int32), rv a6, rv a8, rv a10, rv a12, rv a14, rv a16, rv a18, rv s220, rv s228, rv s236, rv s244, rv s253, rv s261, rv s269, own_lv (own_min xs (9223372036854775806 : Int64)), .second, own_lv (own_min xu (9223372036854775806 : Int64)), .second, rv a81, rv a85, iv al] [(.ref a81), (.ref a81)])) rfl (by rw [hml]; rfl) (argsL := [(.ref a81)]) (rest := []) (lenOf own_pd18 rfl) rfl (W := 0) (by show 2 * 0 + _ ≤ _; exact Nat.le_of_eq rfl) (hb hby at_368) (by decide) (by decide) (by decide) (by decide)
    obtain ⟨rfl, Nq102, e102⟩ := hQ102
    refine own_st st102 ?_
    have N102 := Fr.app N97 Nq102
    show own_Go p e below _ T102 (mkF m 371 #[iv xp, iv xq, own_lv xs, .second, own_lv xu, .second, iv ra, iv rg, iv ri, iv rf, iv (0 : Int32), rv a6, rv a8, rv a10, rv a12, rv a14, rv a16, rv a18, rv s220, rv s228, rv s236, rv s244, rv s253, rv s261, rv s269, own_lv (own_min xs (9223372036854775806 : Int64)), .second, own_lv (own_min xu (9223372036854775806 : Int64)), .second, rv a81, rv a85, iv al] [(.int (if a8 = a8 ∧ a10 = a10 ∧ a12 = a12 ∧ a14 = a14 ∧ a16 = a16 ∧ a18 = a18 then (1 : Int32) else (0 : Int32)))])
    have hc103 : ¬ (if a8 = a8 ∧ a10 = a10 ∧ a12 = a12 ∧ a14 = a14 ∧ a16 = a16 ∧ a18 = a18 then (1 : Int32) else (0 : Int32)) = (0 : Int32) := by rw [if_pos ⟨rfl, rfl, rfl, rfl, rfl, rfl⟩]; decide
    have sg104 : own_V p e below T102 (mkF m 374 #[iv xp, iv xq, own_lv xs, .second, own_lv xu, .second, iv ra, iv rg, iv ri, iv rf, iv (0 : Int32), rv a6, rv a8, rv a10, rv a12, rv a14, rv a16, rv a18, rv s220, rv s228, rv s236, rv s244, rv s253, rv s261, rv s269, own_lv (own_min xs (9223372036854775806 : Int64)), .second, own_lv (own_min xu (9223372036854775806 : Int64)), .second, rv a81, rv a85, iv al] []) (mkF m 371 #[iv xp, iv xq, own_lv xs, .second, own_lv xu, .second, iv ra, iv rg, iv ri, iv rf, iv (0 : Int32), rv a6, rv a8, rv a10, rv a12, rv a14, rv a16, rv a18, rv s220, rv s228, rv s236, rv s244, rv s253, rv s261, rv s269, own_lv (own_min xs (9223372036854775806 : Int64)), .second, own_lv (own_min xu (9223372036854775806 : Int64)), .second, rv a81, rv a85, iv al] [(.int (if a8 = a8 ∧ a10 = a10 ∧ a12 = a12 ∧ a14 = a14 ∧ a16 = a16 ∧ a18 = a18 then (1 : Int32) else (0 : Int32)))]) := by
      intro t kt
      refine XS.ifNo X102.here hx rfl (hb hby at_371) rfl ((if0 _ _).trans (feq hc103).1) ?_
      exact kt
    refine own_st sg104 ?_
    have sg105 : own_V p e below T102 (mkF m 379 #[iv xp, iv xq, own_lv xs, .second, own_lv xu, .second, iv ra, iv rg, iv ri, iv rf, iv (0 : Int32), rv a6, rv a8, rv a10, rv a12, rv a14, rv a16, rv a18, rv s220, rv s228, rv s236, rv s244, rv s253, rv s261, rv s269, own_lv (own_min xs (9223372036854775806 : Int64)), .second, own_lv (own_min xu (9223372036854775806 : Int64)), .second, rv a81, rv a85, iv al] [(.int (1 : Int32))]) (mkF m 374 #[iv xp, iv xq, own_lv xs, .second, own_lv xu, .second, iv ra, iv rg, iv ri, iv rf, iv (0 : Int32), rv a6, rv a8, rv a10, rv a12, rv a14, rv a16, rv a18, rv s220, rv s228, rv s236, rv s244, rv s253, rv s261, rv s269, own_lv (own_min xs (9223372036854775806 : Int64)), .second, own_lv (own_min xu (9223372036854775806 : Int64)), .second, rv a81, rv a85, iv al] []) := by
      intro t kt
      refine XS.iconst X102.here hx rfl (hb hby at_374) ?_
      show own_S p e below T102 m 375 #[iv xp, iv xq, own_lv xs, .second, own_lv xu, .second, iv ra, iv rg, iv ri, iv rf, iv (0 : Int32), rv a6, rv a8, rv a10, rv a12, rv a14, rv a16, rv a18, rv s220, rv s228, rv s236, rv s244, rv s253, rv s261, rv s269, own_lv (own_min xs (9223372036854775806 : Int64)), .second, own_lv (own_min xu (9223372036854775806 : Int64)), .second, rv a81, rv a85, iv al] [(.int (1 : Int32))] _
      refine XS.goto X102.here hx rfl (pc0 := 375) (pc' := 379) rfl (hb hby at_375) (by decide) (by decide) ?_
      show own_S p e below T102 m 379 #[iv xp, iv xq, own_lv xs, .second, own_lv xu, .second, iv ra, iv rg, iv ri, iv rf, iv (0 : Int32), rv a6, rv a8, rv a10, rv a12, rv a14, rv a16, rv a18, rv s220, rv s228, rv s236, rv s244, rv s253, rv s261, rv s269, own_lv (own_min xs (9223372036854775806 : Int64)), .second, own_lv (own_min xu (9223372036854775806 : Int64)), .second, rv a81, rv a85, iv al] [(.int (1 : Int32))] _
      exact kt
    refine own_st sg105 ?_
    exact own_retZJ (s := s) (vm1 := s.vm) X102 hx ((State.WarmedH.refl s).since 0) kk87 Bd.notSynchronized Bd.returns (hb hby at_379) (by decide) (by decide) (by decide) e102 ⟨rfl, N102⟩
  have sg106 : own_V p e below s₁ (mkF m 44 #[iv xp, iv xq, own_lv xs, .second, own_lv xu, .second, iv ra, iv rg, iv ri, iv rf, .unset, .unset, .unset, .unset, .unset, .unset, .unset, .unset, .unset, .unset, .unset, .unset, .unset, .unset, .unset, .unset, .unset, .unset, .unset, .unset, .unset, .unset] []) (mkF m 41 #[iv xp, iv xq, own_lv xs, .second, own_lv xu, .second, iv ra, iv rg, iv ri, iv rf, .unset, .unset, .unset, .unset, .unset, .unset, .unset, .unset, .unset, .unset, .unset, .unset, .unset, .unset, .unset, .unset, .unset, .unset, .unset, .unset, .unset, .unset] [(.int (xp &&& (64 : Int32)))]) := by
    intro t kt
    refine XS.ifNo X0.here hx rfl (hb hby at_41) rfl ((if0 _ _).trans (feq hc3).1) ?_
    exact kt
  refine own_st sg106 ?_
  have HK0 : ∀ (b : Nat) (cl : Cell), Z.heap[b]? = some cl → h0[b]? = some cl := fun b cl z => by rw [← HZ]; exact z
  have sg107 : own_V p e below s₁ (mkF m 56 #[iv xp, iv xq, own_lv xs, .second, own_lv xu, .second, iv ra, iv rg, iv ri, iv rf, iv (1 : Int32), .unset, .unset, .unset, .unset, .unset, .unset, .unset, .unset, .unset, .unset, .unset, .unset, .unset, .unset, .unset, .unset, .unset, .unset, .unset, .unset, .unset] [(.int (ri ^^^ rg))]) (mkF m 44 #[iv xp, iv xq, own_lv xs, .second, own_lv xu, .second, iv ra, iv rg, iv ri, iv rf, .unset, .unset, .unset, .unset, .unset, .unset, .unset, .unset, .unset, .unset, .unset, .unset, .unset, .unset, .unset, .unset, .unset, .unset, .unset, .unset, .unset, .unset] []) := by
    intro t kt
    refine XS.iconst X0.here hx rfl (hb hby at_44) ?_
    show own_S p e below s₁ m 45 #[iv xp, iv xq, own_lv xs, .second, own_lv xu, .second, iv ra, iv rg, iv ri, iv rf, .unset, .unset, .unset, .unset, .unset, .unset, .unset, .unset, .unset, .unset, .unset, .unset, .unset, .unset, .unset, .unset, .unset, .unset, .unset, .unset, .unset, .unset] [(.int (1 : Int32))] _
    refine XS.goto X0.here hx rfl (pc0 := 45) (pc' := 49) rfl (hb hby at_45) (by decide) (by decide) ?_
    show own_S p e below s₁ m 49 #[iv xp, iv xq, own_lv xs, .second, own_lv xu, .second, iv ra, iv rg, iv ri, iv rf, .unset, .unset, .unset, .unset, .unset, .unset, .unset, .unset, .unset, .unset, .unset, .unset, .unset, .unset, .unset, .unset, .unset, .unset, .unset, .unset, .unset, .unset] [(.int (1 : Int32))] _
    refine XS.istore X0.here hx rfl (hb hby at_49) rfl (l' := #[iv xp, iv xq, own_lv xs, .second, own_lv xu, .second, iv ra, iv rg, iv ri, iv rf, iv (1 : Int32), .unset, .unset, .unset, .unset, .unset, .unset, .unset, .unset, .unset, .unset, .unset, .unset, .unset, .unset, .unset, .unset, .unset, .unset, .unset, .unset, .unset]) rfl ?_
    show own_S p e below s₁ m 51 #[iv xp, iv xq, own_lv xs, .second, own_lv xu, .second, iv ra, iv rg, iv ri, iv rf, iv (1 : Int32), .unset, .unset, .unset, .unset, .unset, .unset, .unset, .unset, .unset, .unset, .unset, .unset, .unset, .unset, .unset, .unset, .unset, .unset, .unset, .unset, .unset] [] _
    refine XS.iload X0.here hx rfl (hb hby at_51) rfl ?_
    show own_S p e below s₁ m 53 #[iv xp, iv xq, own_lv xs, .second, own_lv xu, .second, iv ra, iv rg, iv ri, iv rf, iv (1 : Int32), .unset, .unset, .unset, .unset, .unset, .unset, .unset, .unset, .unset, .unset, .unset, .unset, .unset, .unset, .unset, .unset, .unset, .unset, .unset, .unset, .unset] [(.int ri)] _
    refine XS.iload X0.here hx rfl (hb hby at_53) rfl ?_
    show own_S p e below s₁ m 55 #[iv xp, iv xq, own_lv xs, .second, own_lv xu, .second, iv ra, iv rg, iv ri, iv rf, iv (1 : Int32), .unset, .unset, .unset, .unset, .unset, .unset, .unset, .unset, .unset, .unset, .unset, .unset, .unset, .unset, .unset, .unset, .unset, .unset, .unset, .unset, .unset] [(.int rg), (.int ri)] _
    refine XS.ixor X0.here hx rfl (hb hby at_55) rfl ?_
    show own_S p e below s₁ m 56 #[iv xp, iv xq, own_lv xs, .second, own_lv xu, .second, iv ra, iv rg, iv ri, iv rf, iv (1 : Int32), .unset, .unset, .unset, .unset, .unset, .unset, .unset, .unset, .unset, .unset, .unset, .unset, .unset, .unset, .unset, .unset, .unset, .unset, .unset, .unset, .unset] [(.int (ri ^^^ rg))] _
    exact kt
  refine own_st sg107 ?_
  obtain ⟨_, T108, L108, X108, hQ108, st108⟩ := own_callS (y := (⟨"com/example/coverfold/coverfold/UsageSharesTextsOfKindPinLaw", "text", "(I)Ljava/lang/String;"⟩ : MethodName)) X0 hx hZ hown (hw _ (List.mem_of_getElem? (i := 0) rfl)) (hw _ (List.mem_of_getElem? (i := 1) rfl)) (hw _ (List.mem_of_getElem? (i := 2) rfl)) (hw _ (List.mem_of_getElem? (i := 3) rfl)) (by decide) (own_rmtx l Z a0 hw (ri ^^^ rg) cc h0 n0 Z0 SC hcc) e0 (g := (mkF m 56 #[iv xp, iv xq, own_lv xs, .second, own_lv xu, .second, iv ra, iv rg, iv ri, iv rf, iv (1 : Int32), .unset, .unset, .unset, .unset, .unset, .unset, .unset, .unset, .unset, .unset, .unset, .unset, .unset, .unset, .unset, .unset, .unset, .unset, .unset, .unset, .unset] [(.int (ri ^^^ rg))])) rfl (by rw [hml]; rfl) (argsL := [(.int (ri ^^^ rg))]) (rest := []) (lenOf own_pd14 rfl) rfl (W := 0) (by show 2 * 0 + _ ≤ _; exact Nat.le_of_eq rfl) (hb hby at_56) (by decide) (by decide) (by decide) (by decide)
  obtain ⟨a108, b108, rfl, Nq108, K108, sa108, sb108, S108⟩ := hQ108
  refine own_st st108 ?_
  have Z108 : n0 ≤ T108.heap.size := Nat.le_trans Z0 K108.1
  have kk108 : 0 ≤ T108.heap.size := Nat.le_trans (Nat.zero_le _) K108.1
  have N108 := Fr.app N0 Nq108
  show own_Go p e below _ T108 (mkF m 59 #[iv xp, iv xq, own_lv xs, .second, own_lv xu, .second, iv ra, iv rg, iv ri, iv rf, iv (1 : Int32), .unset, .unset, .unset, .unset, .unset, .unset, .unset, .unset, .unset, .unset, .unset, .unset, .unset, .unset, .unset, .unset, .unset, .unset, .unset, .unset, .unset] [(.ref a108)])
  have SC_108 := own_Sta.keep SC K108
  have HK_108 : ∀ (b : Nat) (cl : Cell), Z.heap[b]? = some cl → T108.heap[b]? = some cl := fun b cl z => K108.2.1 b cl (HK0 b cl z) nin0
  have sg109 : own_V p e below T108 (mkF m 63 #[iv xp, iv xq, own_lv xs, .second, own_lv xu, .second, iv ra, iv rg, iv ri, iv rf, iv (1 : Int32), rv a108, .unset, .unset, .unset, .unset, .unset, .unset, .unset, .unset, .unset, .unset, .unset, .unset, .unset, .unset, .unset, .unset, .unset, .unset, .unset, .unset] [(.int ra)]) (mkF m 59 #[iv xp, iv xq, own_lv xs, .second, own_lv xu, .second, iv ra, iv rg, iv ri, iv rf, iv (1 : Int32), .unset, .unset, .unset, .unset, .unset, .unset, .unset, .unset, .unset, .unset, .unset, .unset, .unset, .unset, .unset, .unset, .unset, .unset, .unset, .unset, .unset] [(.ref a108)]) := by
    intro t kt
    refine XS.astore X108.here hx rfl (hb hby at_59) rfl rfl (l' := #[iv xp, iv xq, own_lv xs, .second, own_lv xu, .second, iv ra, iv rg, iv ri, iv rf, iv (1 : Int32), rv a108, .unset, .unset, .unset, .unset, .unset, .unset, .unset, .unset, .unset, .unset, .unset, .unset, .unset, .unset, .unset, .unset, .unset, .unset, .unset, .unset]) rfl ?_
    show own_S p e below T108 m 61 #[iv xp, iv xq, own_lv xs, .second, own_lv xu, .second, iv ra, iv rg, iv ri, iv rf, iv (1 : Int32), rv a108, .unset, .unset, .unset, .unset, .unset, .unset, .unset, .unset, .unset, .unset, .unset, .unset, .unset, .unset, .unset, .unset, .unset, .unset, .unset, .unset] [] _
    refine XS.iload X108.here hx rfl (hb hby at_61) rfl ?_
    show own_S p e below T108 m 63 #[iv xp, iv xq, own_lv xs, .second, own_lv xu, .second, iv ra, iv rg, iv ri, iv rf, iv (1 : Int32), rv a108, .unset, .unset, .unset, .unset, .unset, .unset, .unset, .unset, .unset, .unset, .unset, .unset, .unset, .unset, .unset, .unset, .unset, .unset, .unset, .unset] [(.int ra)] _
    exact kt
  refine own_st sg109 ?_
  obtain ⟨_, T110, L110, X110, hQ110, st110⟩ := own_callS (y := (⟨"com/example/coverfold/coverfold/UsageSharesTextsOfKindPinLaw", "text", "(I)Ljava/lang/String;"⟩ : MethodName)) X108 hx hZ hown (hw _ (List.mem_of_getElem? (i := 0) rfl)) (hw _ (List.mem_of_getElem? (i := 1) rfl)) (hw _ (List.mem_of_getElem? (i := 2) rfl)) (hw _ (List.mem_of_getElem? (i := 3) rfl)) (by decide) (own_rmtx l Z a0 hw ra cc T108.heap n0 Z108 SC_108 hcc) rfl (g := (mkF m 63 #[iv xp, iv xq, own_lv xs, .second, own_lv xu, .second, iv ra, iv rg, iv ri, iv rf, iv (1 : Int32), rv a108, .unset, .unset, .unset, .unset, .unset, .unset, .unset, .unset, .unset, .unset, .unset, .unset, .unset, .unset, .unset, .unset, .unset, .unset, .unset, .unset] [(.int ra)])) rfl (by rw [hml]; rfl) (argsL := [(.int ra)]) (rest := []) (lenOf own_pd14 rfl) rfl (W := 0) (by show 2 * 0 + _ ≤ _; exact Nat.le_of_eq rfl) (hb hby at_63) (by decide) (by decide) (by decide) (by decide)
  obtain ⟨a110, b110, rfl, Nq110, K110, sa110, sb110, S110⟩ := hQ110
  refine own_st st110 ?_
  have Z110 : n0 ≤ T110.heap.size := Nat.le_trans Z108 K110.1
  have kk110 : 0 ≤ T110.heap.size := Nat.le_trans kk108 K110.1
  have N110 := Fr.app N108 Nq110
  show own_Go p e below _ T110 (mkF m 66 #[iv xp, iv xq, own_lv xs, .second, own_lv xu, .second, iv ra, iv rg, iv ri, iv rf, iv (1 : Int32), rv a108, .unset, .unset, .unset, .unset, .unset, .unset, .unset, .unset, .unset, .unset, .unset, .unset, .unset, .unset, .unset, .unset, .unset, .unset, .unset, .unset] [(.ref a110)])
  have SC_110 := own_Sta.keep SC_108 K110
  have HK_110 : ∀ (b : Nat) (cl : Cell), Z.heap[b]? = some cl → T110.heap[b]? = some cl := fun b cl z => K110.2.1 b cl (HK_108 b cl z) nin0
  have T11_110 := S108.keep K110 nin0 nin0
  have sg111 : own_V p e below T110 (mkF m 70 #[iv xp, iv xq, own_lv xs, .second, own_lv xu, .second, iv ra, iv rg, iv ri, iv rf, iv (1 : Int32), rv a108, rv a110, .unset, .unset, .unset, .unset, .unset, .unset, .unset, .unset, .unset, .unset, .unset, .unset, .unset, .unset, .unset, .unset, .unset, .unset, .unset] [(.int rg)]) (mkF m 66 #[iv xp, iv xq, own_lv xs, .second, own_lv xu, .second, iv ra, iv rg, iv ri, iv rf, iv (1 : Int32), rv a108, .unset, .unset, .unset, .unset, .unset, .unset, .unset, .unset, .unset, .unset, .unset, .unset, .unset, .unset, .unset, .unset, .unset, .unset, .unset, .unset] [(.ref a110)]) := by
    intro t kt
    refine XS.astore X110.here hx rfl (hb hby at_66) rfl rfl (l' := #[iv xp, iv xq, own_lv xs, .second, own_lv xu, .second, iv ra, iv rg, iv ri, iv rf, iv (1 : Int32), rv a108, rv a110, .unset, .unset, .unset, .unset, .unset, .unset, .unset, .unset, .unset, .unset, .unset, .unset, .unset, .unset, .unset, .unset, .unset, .unset, .unset]) rfl ?_
    show own_S p e below T110 m 68 #[iv xp, iv xq, own_lv xs, .second, own_lv xu, .second, iv ra, iv rg, iv ri, iv rf, iv (1 : Int32), rv a108, rv a110, .unset, .unset, .unset, .unset, .unset, .unset, .unset, .unset, .unset, .unset, .unset, .unset, .unset, .unset, .unset, .unset, .unset, .unset, .unset] [] _
    refine XS.iload X110.here hx rfl (hb hby at_68) rfl ?_
    show own_S p e below T110 m 70 #[iv xp, iv xq, own_lv xs, .second, own_lv xu, .second, iv ra, iv rg, iv ri, iv rf, iv (1 : Int32), rv a108, rv a110, .unset, .unset, .unset, .unset, .unset, .unset, .unset, .unset, .unset, .unset, .unset, .unset, .unset, .unset, .unset, .unset, .unset, .unset, .unset] [(.int rg)] _
    exact kt
  refine own_st sg111 ?_
  obtain ⟨_, T112, L112, X112, hQ112, st112⟩ := own_callS (y := (⟨"com/example/coverfold/coverfold/UsageSharesTextsOfKindPinLaw", "text", "(I)Ljava/lang/String;"⟩ : MethodName)) X110 hx hZ hown (hw _ (List.mem_of_getElem? (i := 0) rfl)) (hw _ (List.mem_of_getElem? (i := 1) rfl)) (hw _ (List.mem_of_getElem? (i := 2) rfl)) (hw _ (List.mem_of_getElem? (i := 3) rfl)) (by decide) (own_rmtx l Z a0 hw rg cc T110.heap n0 Z110 SC_110 hcc) rfl (g := (mkF m 70 #[iv xp, iv xq, own_lv xs, .second, own_lv xu, .second, iv ra, iv rg, iv ri, iv rf, iv (1 : Int32), rv a108, rv a110, .unset, .unset, .unset, .unset, .unset, .unset, .unset, .unset, .unset, .unset, .unset, .unset, .unset, .unset, .unset, .unset, .unset, .unset, .unset] [(.int rg)])) rfl (by rw [hml]; rfl) (argsL := [(.int rg)]) (rest := []) (lenOf own_pd14 rfl) rfl (W := 0) (by show 2 * 0 + _ ≤ _; exact Nat.le_of_eq rfl) (hb hby at_70) (by decide) (by decide) (by decide) (by decide)
  obtain ⟨a112, b112, rfl, Nq112, K112, sa112, sb112, S112⟩ := hQ112
  refine own_st st112 ?_
  have Z112 : n0 ≤ T112.heap.size := Nat.le_trans Z110 K112.1
  have kk112 : 0 ≤ T112.heap.size := Nat.le_trans kk110 K112.1
  have N112 := Fr.app N110 Nq112
  show own_Go p e below _ T112 (mkF m 73 #[iv xp, iv xq, own_lv xs, .second, own_lv xu, .second, iv ra, iv rg, iv ri, iv rf, iv (1 : Int32), rv a108, rv a110, .unset, .unset, .unset, .unset, .unset, .unset, .unset, .unset, .unset, .unset, .unset, .unset, .unset, .unset, .unset, .unset, .unset, .unset, .unset] [(.ref a112)])
  have SC_112 := own_Sta.keep SC_110 K112
  have HK_112 : ∀ (b : Nat) (cl : Cell), Z.heap[b]? = some cl → T112.heap[b]? = some cl := fun b cl z => K112.2.1 b cl (HK_110 b cl z) nin0
  have T11_112 := T11_110.keep K112 nin0 nin0
  have T12_112 := S110.keep K112 nin0 nin0
  have sg113 : own_V p e below T112 (mkF m 79 #[iv xp, iv xq, own_lv xs, .second, own_lv xu, .second, iv ra, iv rg, iv ri, iv rf, iv (1 : Int32), rv a108, rv a110, rv a112, .unset, .unset, .unset, .unset, .unset, .unset, .unset, .unset, .unset, .unset, .unset, .unset, .unset, .unset, .unset, .unset, .unset, .unset] [(.int rg), (.int (1 : Int32))]) (mkF m 73 #[iv xp, iv xq, own_lv xs, .second, own_lv xu, .second, iv ra, iv rg, iv ri, iv rf, iv (1 : Int32), rv a108, rv a110, .unset, .unset, .unset, .unset, .unset, .unset, .unset, .unset, .unset, .unset, .unset, .unset, .unset, .unset, .unset, .unset, .unset, .unset, .unset] [(.ref a112)]) := by
    intro t kt
    refine XS.astore X112.here hx rfl (hb hby at_73) rfl rfl (l' := #[iv xp, iv xq, own_lv xs, .second, own_lv xu, .second, iv ra, iv rg, iv ri, iv rf, iv (1 : Int32), rv a108, rv a110, rv a112, .unset, .unset, .unset, .unset, .unset, .unset, .unset, .unset, .unset, .unset, .unset, .unset, .unset, .unset, .unset, .unset, .unset, .unset]) rfl ?_
    show own_S p e below T112 m 75 #[iv xp, iv xq, own_lv xs, .second, own_lv xu, .second, iv ra, iv rg, iv ri, iv rf, iv (1 : Int32), rv a108, rv a110, rv a112, .unset, .unset, .unset, .unset, .unset, .unset, .unset, .unset, .unset, .unset, .unset, .unset, .unset, .unset, .unset, .unset, .unset, .unset] [] _
    refine XS.iload X112.here hx rfl (hb hby at_75) rfl ?_
    show own_S p e below T112 m 77 #[iv xp, iv xq, own_lv xs, .second, own_lv xu, .second, iv ra, iv rg, iv ri, iv rf, iv (1 : Int32), rv a108, rv a110, rv a112, .unset, .unset, .unset, .unset, .unset, .unset, .unset, .unset, .unset, .unset, .unset, .unset, .unset, .unset, .unset, .unset, .unset, .unset] [(.int (1 : Int32))] _
    refine XS.iload X112.here hx rfl (hb hby at_77) rfl ?_
    show own_S p e below T112 m 79 #[iv xp, iv xq, own_lv xs, .second, own_lv xu, .second, iv ra, iv rg, iv ri, iv rf, iv (1 : Int32), rv a108, rv a110, rv a112, .unset, .unset, .unset, .unset, .unset, .unset, .unset, .unset, .unset, .unset, .unset, .unset, .unset, .unset, .unset, .unset, .unset, .unset] [(.int rg), (.int (1 : Int32))] _
    exact kt
  refine own_st sg113 ?_
  obtain ⟨_, T114, L114, X114, I114, hZ, hown, hQ114, st114⟩ := own_callSJ (y := (⟨"com/example/coverfold/coverfold/UsageSharesTextsOfKindPinLaw", "zoneText", "(ZI)Ljava/lang/String;"⟩ : MethodName)) (s := s) (vm0 := s.vm) X112 ((State.WarmedH.refl s).since 0) kk112 hx hZ hown (hw _ (List.mem_of_getElem? (i := 34) rfl)) (hw _ (List.mem_of_getElem? (i := 35) rfl)) (hw _ (List.mem_of_getElem? (i := 2) rfl)) (hw _ (List.mem_of_getElem? (i := 36) rfl)) (by decide) (own_rmzt_e l Z a0 hw rg T112.heap n0 Z112 HK_112 hh hcw) rfl (g := (mkF m 79 #[iv xp, iv xq, own_lv xs, .second, own_lv xu, .second, iv ra, iv rg, iv ri, iv rf, iv (1 : Int32), rv a108, rv a110, rv a112, .unset, .unset, .unset, .unset, .unset, .unset, .unset, .unset, .unset, .unset, .unset, .unset, .unset, .unset, .unset, .unset, .unset, .unset] [(.int rg), (.int (1 : Int32))])) rfl (by rw [hml]; rfl) (argsL := [(.int (1 : Int32)), (.int rg)]) (rest := []) (lenOf own_pd15 rfl) rfl (W := 0) (by show 2 * 0 + _ ≤ _; exact Nat.le_of_eq rfl) (hb hby at_79) (by decide) (by decide) (by decide) (by decide) (fun vm1 hv => hv.interned_eq.trans hJ)
  obtain ⟨a114, b114, lt114, rfl, Nq114, K114, sa114, S114, LT114, SL114⟩ := hQ114
  refine own_st st114 ?_
  have Z114 : n0 ≤ T114.heap.size := Nat.le_trans Z112 K114.1
  have kk114 : 0 ≤ T114.heap.size := Nat.le_trans kk112 K114.1
  have N114 := Fr.app N112 Nq114
  show own_Go p e below _ T114 (mkF m 82 #[iv xp, iv xq, own_lv xs, .second, own_lv xu, .second, iv ra, iv rg, iv ri, iv rf, iv (1 : Int32), rv a108, rv a110, rv a112, .unset, .unset, .unset, .unset, .unset, .unset, .unset, .unset, .unset, .unset, .unset, .unset, .unset, .unset, .unset, .unset, .unset, .unset] [(.ref a114)])
  have SC_114 := own_Sta.keep SC_112 K114
  have T11_114 := T11_112.keep K114 nin0 nin0
  have T12_114 := T12_112.keep K114 nin0 nin0
  have T13_114 := S112.keep K114 nin0 nin0
  have sg115 : own_V p e below T114 (mkF m 86 #[iv xp, iv xq, own_lv xs, .second, own_lv xu, .second, iv ra, iv rg, iv ri, iv rf, iv (1 : Int32), rv a108, rv a110, rv a112, rv a114, .unset, .unset, .unset, .unset, .unset, .unset, .unset, .unset, .unset, .unset, .unset, .unset, .unset, .unset, .unset, .unset, .unset] [(.int ri)]) (mkF m 82 #[iv xp, iv xq, own_lv xs, .second, own_lv xu, .second, iv ra, iv rg, iv ri, iv rf, iv (1 : Int32), rv a108, rv a110, rv a112, .unset, .unset, .unset, .unset, .unset, .unset, .unset, .unset, .unset, .unset, .unset, .unset, .unset, .unset, .unset, .unset, .unset, .unset] [(.ref a114)]) := by
    intro t kt
    refine XS.astore X114.here hx rfl (hb hby at_82) rfl rfl (l' := #[iv xp, iv xq, own_lv xs, .second, own_lv xu, .second, iv ra, iv rg, iv ri, iv rf, iv (1 : Int32), rv a108, rv a110, rv a112, rv a114, .unset, .unset, .unset, .unset, .unset, .unset, .unset, .unset, .unset, .unset, .unset, .unset, .unset, .unset, .unset, .unset, .unset]) rfl ?_
    show own_S p e below T114 m 84 #[iv xp, iv xq, own_lv xs, .second, own_lv xu, .second, iv ra, iv rg, iv ri, iv rf, iv (1 : Int32), rv a108, rv a110, rv a112, rv a114, .unset, .unset, .unset, .unset, .unset, .unset, .unset, .unset, .unset, .unset, .unset, .unset, .unset, .unset, .unset, .unset, .unset] [] _
    refine XS.iload X114.here hx rfl (hb hby at_84) rfl ?_
    show own_S p e below T114 m 86 #[iv xp, iv xq, own_lv xs, .second, own_lv xu, .second, iv ra, iv rg, iv ri, iv rf, iv (1 : Int32), rv a108, rv a110, rv a112, rv a114, .unset, .unset, .unset, .unset, .unset, .unset, .unset, .unset, .unset, .unset, .unset, .unset, .unset, .unset, .unset, .unset, .unset] [(.int ri)] _
    exact kt
  refine own_st sg115 ?_
  obtain ⟨_, T116, L116, X116, hQ116, st116⟩ := own_callS (y := (⟨"com/example/coverfold/coverfold/UsageSharesTextsOfKindPinLaw", "text", "(I)Ljava/lang/String;"⟩ : MethodName)) X114 hx hZ hown (hw _ (List.mem_of_getElem? (i := 0) rfl)) (hw _ (List.mem_of_getElem? (i := 1) rfl)) (hw _ (List.mem_of_getElem? (i := 2) rfl)) (hw _ (List.mem_of_getElem? (i := 3) rfl)) (by decide) (own_rmtx l Z a0 hw ri cc T114.heap n0 Z114 SC_114 hcc) rfl (g := (mkF m 86 #[iv xp, iv xq, own_lv xs, .second, own_lv xu, .second, iv ra, iv rg, iv ri, iv rf, iv (1 : Int32), rv a108, rv a110, rv a112, rv a114, .unset, .unset, .unset, .unset, .unset, .unset, .unset, .unset, .unset, .unset, .unset, .unset, .unset, .unset, .unset, .unset, .unset] [(.int ri)])) rfl (by rw [hml]; rfl) (argsL := [(.int ri)]) (rest := []) (lenOf own_pd14 rfl) rfl (W := 0) (by show 2 * 0 + _ ≤ _; exact Nat.le_of_eq rfl) (hb hby at_86) (by decide) (by decide) (by decide) (by decide)
  obtain ⟨a116, b116, rfl, Nq116, K116, sa116, sb116, S116⟩ := hQ116
  refine own_st st116 ?_
  have Z116 : n0 ≤ T116.heap.size := Nat.le_trans Z114 K116.1
  have kk116 : T114.heap.size ≤ T116.heap.size := Nat.le_trans (Nat.le_refl _) K116.1
  have N116 := Fr.app N114 Nq116
  show own_Go p e below _ T116 (mkF m 89 #[iv xp, iv xq, own_lv xs, .second, own_lv xu, .second, iv ra, iv rg, iv ri, iv rf, iv (1 : Int32), rv a108, rv a110, rv a112, rv a114, .unset, .unset, .unset, .unset, .unset, .unset, .unset, .unset, .unset, .unset, .unset, .unset, .unset, .unset, .unset, .unset, .unset] [(.ref a116)])
  have SC_116 := own_Sta.keep SC_114 K116
  have T11_116 := T11_114.keep K116 nin0 nin0
  have T12_116 := T12_114.keep K116 nin0 nin0
  have T13_116 := T13_114.keep K116 nin0 nin0
  have T14_116 := S114.keep K116 nin0 nin0
  have SL_116 := SL114.keep K116 nin0 nin0
  have sg117 : own_V p e below T116 (mkF m 93 #[iv xp, iv xq, own_lv xs, .second, own_lv xu, .second, iv ra, iv rg, iv ri, iv rf, iv (1 : Int32), rv a108, rv a110, rv a112, rv a114, rv a116, .unset, .unset, .unset, .unset, .unset, .unset, .unset, .unset, .unset, .unset, .unset, .unset, .unset, .unset, .unset, .unset] [(.int rf)]) (mkF m 89 #[iv xp, iv xq, own_lv xs, .second, own_lv xu, .second, iv ra, iv rg, iv ri, iv rf, iv (1 : Int32), rv a108, rv a110, rv a112, rv a114, .unset, .unset, .unset, .unset, .unset, .unset, .unset, .unset, .unset, .unset, .unset, .unset, .unset, .unset, .unset, .unset, .unset] [(.ref a116)]) := by
    intro t kt
    refine XS.astore X116.here hx rfl (hb hby at_89) rfl rfl (l' := #[iv xp, iv xq, own_lv xs, .second, own_lv xu, .second, iv ra, iv rg, iv ri, iv rf, iv (1 : Int32), rv a108, rv a110, rv a112, rv a114, rv a116, .unset, .unset, .unset, .unset, .unset, .unset, .unset, .unset, .unset, .unset, .unset, .unset, .unset, .unset, .unset, .unset]) rfl ?_
    show own_S p e below T116 m 91 #[iv xp, iv xq, own_lv xs, .second, own_lv xu, .second, iv ra, iv rg, iv ri, iv rf, iv (1 : Int32), rv a108, rv a110, rv a112, rv a114, rv a116, .unset, .unset, .unset, .unset, .unset, .unset, .unset, .unset, .unset, .unset, .unset, .unset, .unset, .unset, .unset, .unset] [] _
    refine XS.iload X116.here hx rfl (hb hby at_91) rfl ?_
    show own_S p e below T116 m 93 #[iv xp, iv xq, own_lv xs, .second, own_lv xu, .second, iv ra, iv rg, iv ri, iv rf, iv (1 : Int32), rv a108, rv a110, rv a112, rv a114, rv a116, .unset, .unset, .unset, .unset, .unset, .unset, .unset, .unset, .unset, .unset, .unset, .unset, .unset, .unset, .unset, .unset] [(.int rf)] _
    exact kt
  refine own_st sg117 ?_
  obtain ⟨_, T118, L118, X118, hQ118, st118⟩ := own_callS (y := (⟨"com/example/coverfold/coverfold/UsageSharesTextsOfKindPinLaw", "text", "(I)Ljava/lang/String;"⟩ : MethodName)) X116 hx hZ hown (hw _ (List.mem_of_getElem? (i := 0) rfl)) (hw _ (List.mem_of_getElem? (i := 1) rfl)) (hw _ (List.mem_of_getElem? (i := 2) rfl)) (hw _ (List.mem_of_getElem? (i := 3) rfl)) (by decide) (own_rmtx l Z a0 hw rf cc T116.heap n0 Z116 SC_116 hcc) rfl (g := (mkF m 93 #[iv xp, iv xq, own_lv xs, .second, own_lv xu, .second, iv ra, iv rg, iv ri, iv rf, iv (1 : Int32), rv a108, rv a110, rv a112, rv a114, rv a116, .unset, .unset, .unset, .unset, .unset, .unset, .unset, .unset, .unset, .unset, .unset, .unset, .unset, .unset, .unset, .unset] [(.int rf)])) rfl (by rw [hml]; rfl) (argsL := [(.int rf)]) (rest := []) (lenOf own_pd14 rfl) rfl (W := 0) (by show 2 * 0 + _ ≤ _; exact Nat.le_of_eq rfl) (hb hby at_93) (by decide) (by decide) (by decide) (by decide)
  obtain ⟨a118, b118, rfl, Nq118, K118, sa118, sb118, S118⟩ := hQ118
  refine own_st st118 ?_
  have Z118 : n0 ≤ T118.heap.size := Nat.le_trans Z116 K118.1
  have kk118 : T114.heap.size ≤ T118.heap.size := Nat.le_trans kk116 K118.1
  have N118 := Fr.app N116 Nq118
  show own_Go p e below _ T118 (mkF m 96 #[iv xp, iv xq, own_lv xs, .second, own_lv xu, .second, iv ra, iv rg, iv ri, iv rf, iv (1 : Int32), rv a108, rv a110, rv a112, rv a114, rv a116, .unset, .unset, .unset, .unset, .unset, .unset, .unset, .unset, .unset, .unset, .unset, .unset, .unset, .unset, .unset, .unset] [(.ref a118)])
  have SC_118 := own_Sta.keep SC_116 K118
  have T11_118 := T11_116.keep K118 nin0 nin0
  have T12_118 := T12_116.keep K118 nin0 nin0
  have T13_118 := T13_116.keep K118 nin0 nin0
  have T14_118 := T14_116.keep K118 nin0 nin0
  have SL_118 := SL_116.keep K118 nin0 nin0
  have T15_118 := S116.keep K118 nin0 nin0
  have sg119 : own_V p e below T118 (mkF m 103 #[iv xp, iv xq, own_lv xs, .second, own_lv xu, .second, iv ra, iv rg, iv ri, iv rf, iv (1 : Int32), rv a108, rv a110, rv a112, rv a114, rv a116, rv a118, .unset, .unset, .unset, .unset, .unset, .unset, .unset, .unset, .unset, .unset, .unset, .unset, .unset, .unset, .unset] [(.int (ra ^^^ rf))]) (mkF m 96 #[iv xp, iv xq, own_lv xs, .second, own_lv xu, .second, iv ra, iv rg, iv ri, iv rf, iv (1 : Int32), rv a108, rv a110, rv a112, rv a114, rv a116, .unset, .unset, .unset, .unset, .unset, .unset, .unset, .unset, .unset, .unset, .unset, .unset, .unset, .unset, .unset, .unset] [(.ref a118)]) := by
    intro t kt
    refine XS.astore X118.here hx rfl (hb hby at_96) rfl rfl (l' := #[iv xp, iv xq, own_lv xs, .second, own_lv xu, .second, iv ra, iv rg, iv ri, iv rf, iv (1 : Int32), rv a108, rv a110, rv a112, rv a114, rv a116, rv a118, .unset, .unset, .unset, .unset, .unset, .unset, .unset, .unset, .unset, .unset, .unset, .unset, .unset, .unset, .unset]) rfl ?_
    show own_S p e below T118 m 98 #[iv xp, iv xq, own_lv xs, .second, own_lv xu, .second, iv ra, iv rg, iv ri, iv rf, iv (1 : Int32), rv a108, rv a110, rv a112, rv a114, rv a116, rv a118, .unset, .unset, .unset, .unset, .unset, .unset, .unset, .unset, .unset, .unset, .unset, .unset, .unset, .unset, .unset] [] _
    refine XS.iload X118.here hx rfl (hb hby at_98) rfl ?_
    show own_S p e below T118 m 100 #[iv xp, iv xq, own_lv xs, .second, own_lv xu, .second, iv ra, iv rg, iv ri, iv rf, iv (1 : Int32), rv a108, rv a110, rv a112, rv a114, rv a116, rv a118, .unset, .unset, .unset, .unset, .unset, .unset, .unset, .unset, .unset, .unset, .unset, .unset, .unset, .unset, .unset] [(.int ra)] _
    refine XS.iload X118.here hx rfl (hb hby at_100) rfl ?_
    show own_S p e below T118 m 102 #[iv xp, iv xq, own_lv xs, .second, own_lv xu, .second, iv ra, iv rg, iv ri, iv rf, iv (1 : Int32), rv a108, rv a110, rv a112, rv a114, rv a116, rv a118, .unset, .unset, .unset, .unset, .unset, .unset, .unset, .unset, .unset, .unset, .unset, .unset, .unset, .unset, .unset] [(.int rf), (.int ra)] _
    refine XS.ixor X118.here hx rfl (hb hby at_102) rfl ?_
    show own_S p e below T118 m 103 #[iv xp, iv xq, own_lv xs, .second, own_lv xu, .second, iv ra, iv rg, iv ri, iv rf, iv (1 : Int32), rv a108, rv a110, rv a112, rv a114, rv a116, rv a118, .unset, .unset, .unset, .unset, .unset, .unset, .unset, .unset, .unset, .unset, .unset, .unset, .unset, .unset, .unset] [(.int (ra ^^^ rf))] _
    exact kt
  refine own_st sg119 ?_
  obtain ⟨_, T120, L120, X120, hQ120, st120⟩ := own_callS (y := (⟨"com/example/coverfold/coverfold/UsageSharesTextsOfKindPinLaw", "text", "(I)Ljava/lang/String;"⟩ : MethodName)) X118 hx hZ hown (hw _ (List.mem_of_getElem? (i := 0) rfl)) (hw _ (List.mem_of_getElem? (i := 1) rfl)) (hw _ (List.mem_of_getElem? (i := 2) rfl)) (hw _ (List.mem_of_getElem? (i := 3) rfl)) (by decide) (own_rmtx l Z a0 hw (ra ^^^ rf) cc T118.heap n0 Z118 SC_118 hcc) rfl (g := (mkF m 103 #[iv xp, iv xq, own_lv xs, .second, own_lv xu, .second, iv ra, iv rg, iv ri, iv rf, iv (1 : Int32), rv a108, rv a110, rv a112, rv a114, rv a116, rv a118, .unset, .unset, .unset, .unset, .unset, .unset, .unset, .unset, .unset, .unset, .unset, .unset, .unset, .unset, .unset] [(.int (ra ^^^ rf))])) rfl (by rw [hml]; rfl) (argsL := [(.int (ra ^^^ rf))]) (rest := []) (lenOf own_pd14 rfl) rfl (W := 0) (by show 2 * 0 + _ ≤ _; exact Nat.le_of_eq rfl) (hb hby at_103) (by decide) (by decide) (by decide) (by decide)
  obtain ⟨a120, b120, rfl, Nq120, K120, sa120, sb120, S120⟩ := hQ120
  refine own_st st120 ?_
  have Z120 : n0 ≤ T120.heap.size := Nat.le_trans Z118 K120.1
  have kk120 : T114.heap.size ≤ T120.heap.size := Nat.le_trans kk118 K120.1
  have N120 := Fr.app N118 Nq120
  show own_Go p e below _ T120 (mkF m 106 #[iv xp, iv xq, own_lv xs, .second, own_lv xu, .second, iv ra, iv rg, iv ri, iv rf, iv (1 : Int32), rv a108, rv a110, rv a112, rv a114, rv a116, rv a118, .unset, .unset, .unset, .unset, .unset, .unset, .unset, .unset, .unset, .unset, .unset, .unset, .unset, .unset, .unset] [(.ref a120)])
  have SC_120 := own_Sta.keep SC_118 K120
  have T11_120 := T11_118.keep K120 nin0 nin0
  have T12_120 := T12_118.keep K120 nin0 nin0
  have T13_120 := T13_118.keep K120 nin0 nin0
  have T14_120 := T14_118.keep K120 nin0 nin0
  have SL_120 := SL_118.keep K120 nin0 nin0
  have T15_120 := T15_118.keep K120 nin0 nin0
  have T16_120 := S118.keep K120 nin0 nin0
  have sg121 : own_V p e below T120 (mkF m 113 #[iv xp, iv xq, own_lv xs, .second, own_lv xu, .second, iv ra, iv rg, iv ri, iv rf, iv (1 : Int32), rv a108, rv a110, rv a112, rv a114, rv a116, rv a118, rv a120, .unset, .unset, .unset, .unset, .unset, .unset, .unset, .unset, .unset, .unset, .unset, .unset, .unset, .unset] [(.int (xp &&& (128 : Int32)))]) (mkF m 106 #[iv xp, iv xq, own_lv xs, .second, own_lv xu, .second, iv ra, iv rg, iv ri, iv rf, iv (1 : Int32), rv a108, rv a110, rv a112, rv a114, rv a116, rv a118, .unset, .unset, .unset, .unset, .unset, .unset, .unset, .unset, .unset, .unset, .unset, .unset, .unset, .unset, .unset] [(.ref a120)]) := by
    intro t kt
    refine XS.astore X120.here hx rfl (hb hby at_106) rfl rfl (l' := #[iv xp, iv xq, own_lv xs, .second, own_lv xu, .second, iv ra, iv rg, iv ri, iv rf, iv (1 : Int32), rv a108, rv a110, rv a112, rv a114, rv a116, rv a118, rv a120, .unset, .unset, .unset, .unset, .unset, .unset, .unset, .unset, .unset, .unset, .unset, .unset, .unset, .unset]) rfl ?_
    show own_S p e below T120 m 108 #[iv xp, iv xq, own_lv xs, .second, own_lv xu, .second, iv ra, iv rg, iv ri, iv rf, iv (1 : Int32), rv a108, rv a110, rv a112, rv a114, rv a116, rv a118, rv a120, .unset, .unset, .unset, .unset, .unset, .unset, .unset, .unset, .unset, .unset, .unset, .unset, .unset, .unset] [] _
    refine XS.iloadN X120.here hx rfl (hb hby at_108) rfl ?_
    show own_S p e below T120 m 109 #[iv xp, iv xq, own_lv xs, .second, own_lv xu, .second, iv ra, iv rg, iv ri, iv rf, iv (1 : Int32), rv a108, rv a110, rv a112, rv a114, rv a116, rv a118, rv a120, .unset, .unset, .unset, .unset, .unset, .unset, .unset, .unset, .unset, .unset, .unset, .unset, .unset, .unset] [(.int xp)] _
    refine XS.sipush X120.here hx rfl (hb hby at_109) ?_
    show own_S p e below T120 m 112 #[iv xp, iv xq, own_lv xs, .second, own_lv xu, .second, iv ra, iv rg, iv ri, iv rf, iv (1 : Int32), rv a108, rv a110, rv a112, rv a114, rv a116, rv a118, rv a120, .unset, .unset, .unset, .unset, .unset, .unset, .unset, .unset, .unset, .unset, .unset, .unset, .unset, .unset] [(.int (128 : Int32)), (.int xp)] _
    refine XS.iand X120.here hx rfl (hb hby at_112) rfl ?_
    show own_S p e below T120 m 113 #[iv xp, iv xq, own_lv xs, .second, own_lv xu, .second, iv ra, iv rg, iv ri, iv rf, iv (1 : Int32), rv a108, rv a110, rv a112, rv a114, rv a116, rv a118, rv a120, .unset, .unset, .unset, .unset, .unset, .unset, .unset, .unset, .unset, .unset, .unset, .unset, .unset, .unset] [(.int (xp &&& (128 : Int32)))] _
    exact kt
  refine own_st sg121 ?_
  obtain ⟨T122, _, ⟨h122, L122, s2122, b2122, rfl, X122, e122, N122, Z122, K122, S122, Q122⟩, st122⟩ : own_Pk p e below (fun T' f' => ∃ (h' : Heap) (locs' : List Loc) (s2 : Nat) (b2 : Nat), f' = (mkF m 129 #[iv xp, iv xq, own_lv xs, .second, own_lv xu, .second, iv ra, iv rg, iv ri, iv rf, iv (1 : Int32), rv a108, rv a110, rv a112, rv a114, rv a116, rv a118, rv a120, .unset, .unset, .unset, .unset, .unset, .unset, .unset, .unset, .unset, .unset, .unset, .unset, .unset, .unset] [(.ref s2)]) ∧ Stand p l e room_1 (s.setVm T114.vm) m #[(.int xp), (.int xq), (.long xs), (.long xu)] below meth c T' locs' 25 50 ∧ T'.heap = h' ∧ Fr n0 locs' ∧ n0 ≤ h'.size ∧ (Keep T120.heap h' [] ∧ own_Str Z h' s2 b2 1 (fun _ => own_txc (ri ^^^ rg)) ∧ ((xp &&& (128 : Int32)) = (0 : Int32) ↔ ¬ a108 = s2))) T120 (mkF m 113 #[iv xp, iv xq, own_lv xs, .second, own_lv xu, .second, iv ra, iv rg, iv ri, iv rf, iv (1 : Int32), rv a108, rv a110, rv a112, rv a114, rv a116, rv a118, rv a120, .unset, .unset, .unset, .unset, .unset, .unset, .unset, .unset, .unset, .unset, .unset, .unset, .unset, .unset] [(.int (xp &&& (128 : Int32)))]) := by
    by_cases hc123 : (xp &&& (128 : Int32)) = (0 : Int32)
    · skip
      have sg124 : own_V p e below T120 (mkF m 121 #[iv xp, iv xq, own_lv xs, .second, own_lv xu, .second, iv ra, iv rg, iv ri, iv rf, iv (1 : Int32), rv a108, rv a110, rv a112, rv a114, rv a116, rv a118, rv a120, .unset, .unset, .unset, .unset, .unset, .unset, .unset, .unset, .unset, .unset, .unset, .unset, .unset, .unset] []) (mkF m 113 #[iv xp, iv xq, own_lv xs, .second, own_lv xu, .second, iv ra, iv rg, iv ri, iv rf, iv (1 : Int32), rv a108, rv a110, rv a112, rv a114, rv a116, rv a118, rv a120, .unset, .unset, .unset, .unset, .unset, .unset, .unset, .unset, .unset, .unset, .unset, .unset, .unset, .unset] [(.int (xp &&& (128 : Int32)))]) := by
        intro t kt
        refine XS.ifYes X120.here hx rfl (pc0 := 113) (pc' := 121) rfl (hb hby at_113) rfl ((if0 _ _).trans (teq hc123).1) (by decide) (by decide) ?_
        exact kt
      refine own_sp sg124 ?_
      have sg125 : own_V p e below T120 (mkF m 126 #[iv xp, iv xq, own_lv xs, .second, own_lv xu, .second, iv ra, iv rg, iv ri, iv rf, iv (1 : Int32), rv a108, rv a110, rv a112, rv a114, rv a116, rv a118, rv a120, .unset, .unset, .unset, .unset, .unset, .unset, .unset, .unset, .unset, .unset, .unset, .unset, .unset, .unset] [(.int (ri ^^^ rg))]) (mkF m 121 #[iv xp, iv xq, own_lv xs, .second, own_lv xu, .second, iv ra, iv rg, iv ri, iv rf, iv (1 : Int32), rv a108, rv a110, rv a112, rv a114, rv a116, rv a118, rv a120, .unset, .unset, .unset, .unset, .unset, .unset, .unset, .unset, .unset, .unset, .unset, .unset, .unset, .unset] []) := by
        intro t kt
        refine XS.iload X120.here hx rfl (hb hby at_121) rfl ?_
        show own_S p e below T120 m 123 #[iv xp, iv xq, own_lv xs, .second, own_lv xu, .second, iv ra, iv rg, iv ri, iv rf, iv (1 : Int32), rv a108, rv a110, rv a112, rv a114, rv a116, rv a118, rv a120, .unset, .unset, .unset, .unset, .unset, .unset, .unset, .unset, .unset, .unset, .unset, .unset, .unset, .unset] [(.int ri)] _
        refine XS.iload X120.here hx rfl (hb hby at_123) rfl ?_
        show own_S p e below T120 m 125 #[iv xp, iv xq, own_lv xs, .second, own_lv xu, .second, iv ra, iv rg, iv ri, iv rf, iv (1 : Int32), rv a108, rv a110, rv a112, rv a114, rv a116, rv a118, rv a120, .unset, .unset, .unset, .unset, .unset, .unset, .unset, .unset, .unset, .unset, .unset, .unset, .unset, .unset] [(.int rg), (.int ri)] _
        refine XS.ixor X120.here hx rfl (hb hby at_125) rfl ?_
        show own_S p e below T120 m 126 #[iv xp, iv xq, own_lv xs, .second, own_lv xu, .second, iv ra, iv rg, iv ri, iv rf, iv (1 : Int32), rv a108, rv a110, rv a112, rv a114, rv a116, rv a118, rv a120, .unset, .unset, .unset, .unset, .unset, .unset, .unset, .unset, .unset, .unset, .unset, .unset, .unset, .unset] [(.int (ri ^^^ rg))] _
        exact kt
      refine own_sp sg125 ?_
      obtain ⟨_, T126, L126, X126, hQ126, st126⟩ := own_callS (y := (⟨"com/example/coverfold/coverfold/UsageSharesTextsOfKindPinLaw", "text", "(I)Ljava/lang/String;"⟩ : MethodName)) X120 hx hZ hown (hw _ (List.mem_of_getElem? (i := 0) rfl)) (hw _ (List.mem_of_getElem? (i := 1) rfl)) (hw _ (List.mem_of_getElem? (i := 2) rfl)) (hw _ (List.mem_of_getElem? (i := 3) rfl)) (by decide) (own_rmtx l Z a0 hw (ri ^^^ rg) cc T120.heap n0 Z120 SC_120 hcc) rfl (g := (mkF m 126 #[iv xp, iv xq, own_lv xs, .second, own_lv xu, .second, iv ra, iv rg, iv ri, iv rf, iv (1 : Int32), rv a108, rv a110, rv a112, rv a114, rv a116, rv a118, rv a120, .unset, .unset, .unset, .unset, .unset, .unset, .unset, .unset, .unset, .unset, .unset, .unset, .unset, .unset] [(.int (ri ^^^ rg))])) rfl (by rw [hml]; rfl) (argsL := [(.int (ri ^^^ rg))]) (rest := []) (lenOf own_pd14 rfl) rfl (W := 0) (by show 2 * 0 + _ ≤ _; exact Nat.le_of_eq rfl) (hb hby at_126) (by decide) (by decide) (by decide) (by decide)
      obtain ⟨a126, b126, rfl, Nq126, K126, sa126, sb126, S126⟩ := hQ126
      refine own_sp st126 ?_
      have Z126 : n0 ≤ T126.heap.size := Nat.le_trans Z120 K126.1
      have kk126 : T114.heap.size ≤ T126.heap.size := Nat.le_trans kk120 K126.1
      have N126 := Fr.app N120 Nq126
      show own_Pk p e below _ T126 (mkF m 129 #[iv xp, iv xq, own_lv xs, .second, own_lv xu, .second, iv ra, iv rg, iv ri, iv rf, iv (1 : Int32), rv a108, rv a110, rv a112, rv a114, rv a116, rv a118, rv a120, .unset, .unset, .unset, .unset, .unset, .unset, .unset, .unset, .unset, .unset, .unset, .unset, .unset, .unset] [(.ref a126)])
      have SC_126 := own_Sta.keep SC_120 K126
      have T11_126 := T11_120.keep K126 nin0 nin0
      exact ⟨T126, _, ⟨_, _, a126, b126, rfl, X126, rfl, N126, Z126, ⟨K126, S126, ⟨fun _ => Nat.ne_of_lt (Nat.lt_of_lt_of_le T11_120.lt sa126), fun _ => hc123⟩⟩⟩, fun t k => k⟩
    have sg127 : own_V p e below T120 (mkF m 116 #[iv xp, iv xq, own_lv xs, .second, own_lv xu, .second, iv ra, iv rg, iv ri, iv rf, iv (1 : Int32), rv a108, rv a110, rv a112, rv a114, rv a116, rv a118, rv a120, .unset, .unset, .unset, .unset, .unset, .unset, .unset, .unset, .unset, .unset, .unset, .unset, .unset, .unset] []) (mkF m 113 #[iv xp, iv xq, own_lv xs, .second, own_lv xu, .second, iv ra, iv rg, iv ri, iv rf, iv (1 : Int32), rv a108, rv a110, rv a112, rv a114, rv a116, rv a118, rv a120, .unset, .unset, .unset, .unset, .unset, .unset, .unset, .unset, .unset, .unset, .unset, .unset, .unset, .unset] [(.int (xp &&& (128 : Int32)))]) := by
      intro t kt
      refine XS.ifNo X120.here hx rfl (hb hby at_113) rfl ((if0 _ _).trans (feq hc123).1) ?_
      exact kt
    refine own_sp sg127 ?_
    have sg128 : own_V p e below T120 (mkF m 129 #[iv xp, iv xq, own_lv xs, .second, own_lv xu, .second, iv ra, iv rg, iv ri, iv rf, iv (1 : Int32), rv a108, rv a110, rv a112, rv a114, rv a116, rv a118, rv a120, .unset, .unset, .unset, .unset, .unset, .unset, .unset, .unset, .unset, .unset, .unset, .unset, .unset, .unset] [(.ref a108)]) (mkF m 116 #[iv xp, iv xq, own_lv xs, .second, own_lv xu, .second, iv ra, iv rg, iv ri, iv rf, iv (1 : Int32), rv a108, rv a110, rv a112, rv a114, rv a116, rv a118, rv a120, .unset, .unset, .unset, .unset, .unset, .unset, .unset, .unset, .unset, .unset, .unset, .unset, .unset, .unset] []) := by
      intro t kt
      refine XS.aload X120.here hx rfl (hb hby at_116) rfl rfl ?_
      show own_S p e below T120 m 118 #[iv xp, iv xq, own_lv xs, .second, own_lv xu, .second, iv ra, iv rg, iv ri, iv rf, iv (1 : Int32), rv a108, rv a110, rv a112, rv a114, rv a116, rv a118, rv a120, .unset, .unset, .unset, .unset, .unset, .unset, .unset, .unset, .unset, .unset, .unset, .unset, .unset, .unset] [(.ref a108)] _
      refine XS.goto X120.here hx rfl (pc0 := 118) (pc' := 129) rfl (hb hby at_118) (by decide) (by decide) ?_
      show own_S p e below T120 m 129 #[iv xp, iv xq, own_lv xs, .second, own_lv xu, .second, iv ra, iv rg, iv ri, iv rf, iv (1 : Int32), rv a108, rv a110, rv a112, rv a114, rv a116, rv a118, rv a120, .unset, .unset, .unset, .unset, .unset, .unset, .unset, .unset, .unset, .unset, .unset, .unset, .unset, .unset] [(.ref a108)] _
      exact kt
    refine own_sp sg128 ?_
    have XM := X120.mono (cells' := 25) (slots' := 50) (by decide) (by decide)
    exact ⟨T120, _, ⟨_, _, a108, b108, rfl, XM, rfl, N120, Z120, ⟨Keep.refl _ [], T11_120, ⟨fun z => absurd z hc123, fun z => absurd rfl z⟩⟩⟩, fun t k => k⟩
  refine own_st st122 ?_
  show own_Go p e below _ T122 (mkF m 129 #[iv xp, iv xq, own_lv xs, .second, own_lv xu, .second, iv ra, iv rg, iv ri, iv rf, iv (1 : Int32), rv a108, rv a110, rv a112, rv a114, rv a116, rv a118, rv a120, .unset, .unset, .unset, .unset, .unset, .unset, .unset, .unset, .unset, .unset, .unset, .unset, .unset, .unset] [(.ref s2122)])
  have SC_122 := own_Sta.keep SC_120 K122
  have T11_122 := T11_120.keep K122 nin0 nin0
  have T12_122 := T12_120.keep K122 nin0 nin0
  have T13_122 := T13_120.keep K122 nin0 nin0
  have T14_122 := T14_120.keep K122 nin0 nin0
  have SL_122 := SL_120.keep K122 nin0 nin0
  have T15_122 := T15_120.keep K122 nin0 nin0
  have T16_122 := T16_120.keep K122 nin0 nin0
  have T17_122 := S120.keep K122 nin0 nin0
  have kk122 : T114.heap.size ≤ h122.size := Nat.le_trans kk120 K122.1
  have sg129 : own_V p e below T122 (mkF m 134 #[iv xp, iv xq, own_lv xs, .second, own_lv xu, .second, iv ra, iv rg, iv ri, iv rf, iv (1 : Int32), rv a108, rv a110, rv a112, rv a114, rv a116, rv a118, rv a120, rv s2122, .unset, .unset, .unset, .unset, .unset, .unset, .unset, .unset, .unset, .unset, .unset, .unset, .unset] [(.int (xp &&& (1 : Int32)))]) (mkF m 129 #[iv xp, iv xq, own_lv xs, .second, own_lv xu, .second, iv ra, iv rg, iv ri, iv rf, iv (1 : Int32), rv a108, rv a110, rv a112, rv a114, rv a116, rv a118, rv a120, .unset, .unset, .unset, .unset, .unset, .unset, .unset, .unset, .unset, .unset, .unset, .unset, .unset, .unset] [(.ref s2122)]) := by
    intro t kt
    refine XS.astore X122.here hx rfl (hb hby at_129) rfl rfl (l' := #[iv xp, iv xq, own_lv xs, .second, own_lv xu, .second, iv ra, iv rg, iv ri, iv rf, iv (1 : Int32), rv a108, rv a110, rv a112, rv a114, rv a116, rv a118, rv a120, rv s2122, .unset, .unset, .unset, .unset, .unset, .unset, .unset, .unset, .unset, .unset, .unset, .unset, .unset]) rfl ?_
    show own_S p e below T122 m 131 #[iv xp, iv xq, own_lv xs, .second, own_lv xu, .second, iv ra, iv rg, iv ri, iv rf, iv (1 : Int32), rv a108, rv a110, rv a112, rv a114, rv a116, rv a118, rv a120, rv s2122, .unset, .unset, .unset, .unset, .unset, .unset, .unset, .unset, .unset, .unset, .unset, .unset, .unset] [] _
    refine XS.iloadN X122.here hx rfl (hb hby at_131) rfl ?_
    show own_S p e below T122 m 132 #[iv xp, iv xq, own_lv xs, .second, own_lv xu, .second, iv ra, iv rg, iv ri, iv rf, iv (1 : Int32), rv a108, rv a110, rv a112, rv a114, rv a116, rv a118, rv a120, rv s2122, .unset, .unset, .unset, .unset, .unset, .unset, .unset, .unset, .unset, .unset, .unset, .unset, .unset] [(.int xp)] _
    refine XS.iconst X122.here hx rfl (hb hby at_132) ?_
    show own_S p e below T122 m 133 #[iv xp, iv xq, own_lv xs, .second, own_lv xu, .second, iv ra, iv rg, iv ri, iv rf, iv (1 : Int32), rv a108, rv a110, rv a112, rv a114, rv a116, rv a118, rv a120, rv s2122, .unset, .unset, .unset, .unset, .unset, .unset, .unset, .unset, .unset, .unset, .unset, .unset, .unset] [(.int (1 : Int32)), (.int xp)] _
    refine XS.iand X122.here hx rfl (hb hby at_133) rfl ?_
    show own_S p e below T122 m 134 #[iv xp, iv xq, own_lv xs, .second, own_lv xu, .second, iv ra, iv rg, iv ri, iv rf, iv (1 : Int32), rv a108, rv a110, rv a112, rv a114, rv a116, rv a118, rv a120, rv s2122, .unset, .unset, .unset, .unset, .unset, .unset, .unset, .unset, .unset, .unset, .unset, .unset, .unset] [(.int (xp &&& (1 : Int32)))] _
    exact kt
  refine own_st sg129 ?_
  obtain ⟨T130, _, ⟨h130, L130, s2130, b2130, rfl, X130, e130, N130, Z130, K130, S130, Q130⟩, st130⟩ : own_Pk p e below (fun T' f' => ∃ (h' : Heap) (locs' : List Loc) (s2 : Nat) (b2 : Nat), f' = (mkF m 147 #[iv xp, iv xq, own_lv xs, .second, own_lv xu, .second, iv ra, iv rg, iv ri, iv rf, iv (1 : Int32), rv a108, rv a110, rv a112, rv a114, rv a116, rv a118, rv a120, rv s2122, .unset, .unset, .unset, .unset, .unset, .unset, .unset, .unset, .unset, .unset, .unset, .unset, .unset] [(.ref s2)]) ∧ Stand p l e room_1 (s.setVm T114.vm) m #[(.int xp), (.int xq), (.long xs), (.long xu)] below meth c T' locs' 28 56 ∧ T'.heap = h' ∧ Fr n0 locs' ∧ n0 ≤ h'.size ∧ (Keep h122 h' [] ∧ own_Str Z h' s2 b2 1 (fun _ => own_txc ra) ∧ ((xp &&& (1 : Int32)) = (0 : Int32) ↔ ¬ a110 = s2))) T122 (mkF m 134 #[iv xp, iv xq, own_lv xs, .second, own_lv xu, .second, iv ra, iv rg, iv ri, iv rf, iv (1 : Int32), rv a108, rv a110, rv a112, rv a114, rv a116, rv a118, rv a120, rv s2122, .unset, .unset, .unset, .unset, .unset, .unset, .unset, .unset, .unset, .unset, .unset, .unset, .unset] [(.int (xp &&& (1 : Int32)))]) := by
    by_cases hc131 : (xp &&& (1 : Int32)) = (0 : Int32)
    · skip
      have sg132 : own_V p e below T122 (mkF m 142 #[iv xp, iv xq, own_lv xs, .second, own_lv xu, .second, iv ra, iv rg, iv ri, iv rf, iv (1 : Int32), rv a108, rv a110, rv a112, rv a114, rv a116, rv a118, rv a120, rv s2122, .unset, .unset, .unset, .unset, .unset, .unset, .unset, .unset, .unset, .unset, .unset, .unset, .unset] []) (mkF m 134 #[iv xp, iv xq, own_lv xs, .second, own_lv xu, .second, iv ra, iv rg, iv ri, iv rf, iv (1 : Int32), rv a108, rv a110, rv a112, rv a114, rv a116, rv a118, rv a120, rv s2122, .unset, .unset, .unset, .unset, .unset, .unset, .unset, .unset, .unset, .unset, .unset, .unset, .unset] [(.int (xp &&& (1 : Int32)))]) := by
        intro t kt
        refine XS.ifYes X122.here hx rfl (pc0 := 134) (pc' := 142) rfl (hb hby at_134) rfl ((if0 _ _).trans (teq hc131).1) (by decide) (by decide) ?_
        exact kt
      refine own_sp sg132 ?_
      have sg133 : own_V p e below T122 (mkF m 144 #[iv xp, iv xq, own_lv xs, .second, own_lv xu, .second, iv ra, iv rg, iv ri, iv rf, iv (1 : Int32), rv a108, rv a110, rv a112, rv a114, rv a116, rv a118, rv a120, rv s2122, .unset, .unset, .unset, .unset, .unset, .unset, .unset, .unset, .unset, .unset, .unset, .unset, .unset] [(.int ra)]) (mkF m 142 #[iv xp, iv xq, own_lv xs, .second, own_lv xu, .second, iv ra, iv rg, iv ri, iv rf, iv (1 : Int32), rv a108, rv a110, rv a112, rv a114, rv a116, rv a118, rv a120, rv s2122, .unset, .unset, .unset, .unset, .unset, .unset, .unset, .unset, .unset, .unset, .unset, .unset, .unset] []) := by
        intro t kt
        refine XS.iload X122.here hx rfl (hb hby at_142) rfl ?_
        show own_S p e below T122 m 144 #[iv xp, iv xq, own_lv xs, .second, own_lv xu, .second, iv ra, iv rg, iv ri, iv rf, iv (1 : Int32), rv a108, rv a110, rv a112, rv a114, rv a116, rv a118, rv a120, rv s2122, .unset, .unset, .unset, .unset, .unset, .unset, .unset, .unset, .unset, .unset, .unset, .unset, .unset] [(.int ra)] _
        exact kt
      refine own_sp sg133 ?_
      obtain ⟨_, T134, L134, X134, hQ134, st134⟩ := own_callS (y := (⟨"com/example/coverfold/coverfold/UsageSharesTextsOfKindPinLaw", "text", "(I)Ljava/lang/String;"⟩ : MethodName)) X122 hx hZ hown (hw _ (List.mem_of_getElem? (i := 0) rfl)) (hw _ (List.mem_of_getElem? (i := 1) rfl)) (hw _ (List.mem_of_getElem? (i := 2) rfl)) (hw _ (List.mem_of_getElem? (i := 3) rfl)) (by decide) (own_rmtx l Z a0 hw ra cc h122 n0 Z122 SC_122 hcc) e122 (g := (mkF m 144 #[iv xp, iv xq, own_lv xs, .second, own_lv xu, .second, iv ra, iv rg, iv ri, iv rf, iv (1 : Int32), rv a108, rv a110, rv a112, rv a114, rv a116, rv a118, rv a120, rv s2122, .unset, .unset, .unset, .unset, .unset, .unset, .unset, .unset, .unset, .unset, .unset, .unset, .unset] [(.int ra)])) rfl (by rw [hml]; rfl) (argsL := [(.int ra)]) (rest := []) (lenOf own_pd14 rfl) rfl (W := 0) (by show 2 * 0 + _ ≤ _; exact Nat.le_of_eq rfl) (hb hby at_144) (by decide) (by decide) (by decide) (by decide)
      obtain ⟨a134, b134, rfl, Nq134, K134, sa134, sb134, S134⟩ := hQ134
      refine own_sp st134 ?_
      have Z134 : n0 ≤ T134.heap.size := Nat.le_trans Z122 K134.1
      have kk134 : T114.heap.size ≤ T134.heap.size := Nat.le_trans kk122 K134.1
      have N134 := Fr.app N122 Nq134
      show own_Pk p e below _ T134 (mkF m 147 #[iv xp, iv xq, own_lv xs, .second, own_lv xu, .second, iv ra, iv rg, iv ri, iv rf, iv (1 : Int32), rv a108, rv a110, rv a112, rv a114, rv a116, rv a118, rv a120, rv s2122, .unset, .unset, .unset, .unset, .unset, .unset, .unset, .unset, .unset, .unset, .unset, .unset, .unset] [(.ref a134)])
      have SC_134 := own_Sta.keep SC_122 K134
      have T12_134 := T12_122.keep K134 nin0 nin0
      exact ⟨T134, _, ⟨_, _, a134, b134, rfl, X134, rfl, N134, Z134, ⟨K134, S134, ⟨fun _ => Nat.ne_of_lt (Nat.lt_of_lt_of_le T12_122.lt sa134), fun _ => hc131⟩⟩⟩, fun t k => k⟩
    have sg135 : own_V p e below T122 (mkF m 137 #[iv xp, iv xq, own_lv xs, .second, own_lv xu, .second, iv ra, iv rg, iv ri, iv rf, iv (1 : Int32), rv a108, rv a110, rv a112, rv a114, rv a116, rv a118, rv a120, rv s2122, .unset, .unset, .unset, .unset, .unset, .unset, .unset, .unset, .unset, .unset, .unset, .unset, .unset] []) (mkF m 134 #[iv xp, iv xq, own_lv xs, .second, own_lv xu, .second, iv ra, iv rg, iv ri, iv rf, iv (1 : Int32), rv a108, rv a110, rv a112, rv a114, rv a116, rv a118, rv a120, rv s2122, .unset, .unset, .unset, .unset, .unset, .unset, .unset, .unset, .unset, .unset, .unset, .unset, .unset] [(.int (xp &&& (1 : Int32)))]) := by
      intro t kt
      refine XS.ifNo X122.here hx rfl (hb hby at_134) rfl ((if0 _ _).trans (feq hc131).1) ?_
      exact kt
    refine own_sp sg135 ?_
    have sg136 : own_V p e below T122 (mkF m 147 #[iv xp, iv xq, own_lv xs, .second, own_lv xu, .second, iv ra, iv rg, iv ri, iv rf, iv (1 : Int32), rv a108, rv a110, rv a112, rv a114, rv a116, rv a118, rv a120, rv s2122, .unset, .unset, .unset, .unset, .unset, .unset, .unset, .unset, .unset, .unset, .unset, .unset, .unset] [(.ref a110)]) (mkF m 137 #[iv xp, iv xq, own_lv xs, .second, own_lv xu, .second, iv ra, iv rg, iv ri, iv rf, iv (1 : Int32), rv a108, rv a110, rv a112, rv a114, rv a116, rv a118, rv a120, rv s2122, .unset, .unset, .unset, .unset, .unset, .unset, .unset, .unset, .unset, .unset, .unset, .unset, .unset] []) := by
      intro t kt
      refine XS.aload X122.here hx rfl (hb hby at_137) rfl rfl ?_
      show own_S p e below T122 m 139 #[iv xp, iv xq, own_lv xs, .second, own_lv xu, .second, iv ra, iv rg, iv ri, iv rf, iv (1 : Int32), rv a108, rv a110, rv a112, rv a114, rv a116, rv a118, rv a120, rv s2122, .unset, .unset, .unset, .unset, .unset, .unset, .unset, .unset, .unset, .unset, .unset, .unset, .unset] [(.ref a110)] _
      refine XS.goto X122.here hx rfl (pc0 := 139) (pc' := 147) rfl (hb hby at_139) (by decide) (by decide) ?_
      show own_S p e below T122 m 147 #[iv xp, iv xq, own_lv xs, .second, own_lv xu, .second, iv ra, iv rg, iv ri, iv rf, iv (1 : Int32), rv a108, rv a110, rv a112, rv a114, rv a116, rv a118, rv a120, rv s2122, .unset, .unset, .unset, .unset, .unset, .unset, .unset, .unset, .unset, .unset, .unset, .unset, .unset] [(.ref a110)] _
      exact kt
    refine own_sp sg136 ?_
    have XM := X122.mono (cells' := 28) (slots' := 56) (by decide) (by decide)
    exact ⟨T122, _, ⟨_, _, a110, b110, rfl, XM, e122, N122, Z122, ⟨Keep.refl _ [], T12_122, ⟨fun z => absurd z hc131, fun z => absurd rfl z⟩⟩⟩, fun t k => k⟩
  refine own_st st130 ?_
  show own_Go p e below _ T130 (mkF m 147 #[iv xp, iv xq, own_lv xs, .second, own_lv xu, .second, iv ra, iv rg, iv ri, iv rf, iv (1 : Int32), rv a108, rv a110, rv a112, rv a114, rv a116, rv a118, rv a120, rv s2122, .unset, .unset, .unset, .unset, .unset, .unset, .unset, .unset, .unset, .unset, .unset, .unset, .unset] [(.ref s2130)])
  have SC_130 := own_Sta.keep SC_122 K130
  have T11_130 := T11_122.keep K130 nin0 nin0
  have T12_130 := T12_122.keep K130 nin0 nin0
  have T13_130 := T13_122.keep K130 nin0 nin0
  have T14_130 := T14_122.keep K130 nin0 nin0
  have SL_130 := SL_122.keep K130 nin0 nin0
  have T15_130 := T15_122.keep K130 nin0 nin0
  have T16_130 := T16_122.keep K130 nin0 nin0
  have T17_130 := T17_122.keep K130 nin0 nin0
  have T11b_130 := S122.keep K130 nin0 nin0
  have kk130 : T114.heap.size ≤ h130.size := Nat.le_trans kk122 K130.1
  have sg137 : own_V p e below T130 (mkF m 152 #[iv xp, iv xq, own_lv xs, .second, own_lv xu, .second, iv ra, iv rg, iv ri, iv rf, iv (1 : Int32), rv a108, rv a110, rv a112, rv a114, rv a116, rv a118, rv a120, rv s2122, rv s2130, .unset, .unset, .unset, .unset, .unset, .unset, .unset, .unset, .unset, .unset, .unset, .unset] [(.int (xp &&& (2 : Int32)))]) (mkF m 147 #[iv xp, iv xq, own_lv xs, .second, own_lv xu, .second, iv ra, iv rg, iv ri, iv rf, iv (1 : Int32), rv a108, rv a110, rv a112, rv a114, rv a116, rv a118, rv a120, rv s2122, .unset, .unset, .unset, .unset, .unset, .unset, .unset, .unset, .unset, .unset, .unset, .unset, .unset] [(.ref s2130)]) := by
    intro t kt
    refine XS.astore X130.here hx rfl (hb hby at_147) rfl rfl (l' := #[iv xp, iv xq, own_lv xs, .second, own_lv xu, .second, iv ra, iv rg, iv ri, iv rf, iv (1 : Int32), rv a108, rv a110, rv a112, rv a114, rv a116, rv a118, rv a120, rv s2122, rv s2130, .unset, .unset, .unset, .unset, .unset, .unset, .unset, .unset, .unset, .unset, .unset, .unset]) rfl ?_
    show own_S p e below T130 m 149 #[iv xp, iv xq, own_lv xs, .second, own_lv xu, .second, iv ra, iv rg, iv ri, iv rf, iv (1 : Int32), rv a108, rv a110, rv a112, rv a114, rv a116, rv a118, rv a120, rv s2122, rv s2130, .unset, .unset, .unset, .unset, .unset, .unset, .unset, .unset, .unset, .unset, .unset, .unset] [] _
    refine XS.iloadN X130.here hx rfl (hb hby at_149) rfl ?_
    show own_S p e below T130 m 150 #[iv xp, iv xq, own_lv xs, .second, own_lv xu, .second, iv ra, iv rg, iv ri, iv rf, iv (1 : Int32), rv a108, rv a110, rv a112, rv a114, rv a116, rv a118, rv a120, rv s2122, rv s2130, .unset, .unset, .unset, .unset, .unset, .unset, .unset, .unset, .unset, .unset, .unset, .unset] [(.int xp)] _
    refine XS.iconst X130.here hx rfl (hb hby at_150) ?_
    show own_S p e below T130 m 151 #[iv xp, iv xq, own_lv xs, .second, own_lv xu, .second, iv ra, iv rg, iv ri, iv rf, iv (1 : Int32), rv a108, rv a110, rv a112, rv a114, rv a116, rv a118, rv a120, rv s2122, rv s2130, .unset, .unset, .unset, .unset, .unset, .unset, .unset, .unset, .unset, .unset, .unset, .unset] [(.int (2 : Int32)), (.int xp)] _
    refine XS.iand X130.here hx rfl (hb hby at_151) rfl ?_
    show own_S p e below T130 m 152 #[iv xp, iv xq, own_lv xs, .second, own_lv xu, .second, iv ra, iv rg, iv ri, iv rf, iv (1 : Int32), rv a108, rv a110, rv a112, rv a114, rv a116, rv a118, rv a120, rv s2122, rv s2130, .unset, .unset, .unset, .unset, .unset, .unset, .unset, .unset, .unset, .unset, .unset, .unset] [(.int (xp &&& (2 : Int32)))] _
    exact kt
  refine own_st sg137 ?_
  obtain ⟨T138, _, ⟨h138, L138, s2138, b2138, rfl, X138, e138, N138, Z138, K138, S138, Q138⟩, st138⟩ : own_Pk p e below (fun T' f' => ∃ (h' : Heap) (locs' : List Loc) (s2 : Nat) (b2 : Nat), f' = (mkF m 165 #[iv xp, iv xq, own_lv xs, .second, own_lv xu, .second, iv ra, iv rg, iv ri, iv rf, iv (1 : Int32), rv a108, rv a110, rv a112, rv a114, rv a116, rv a118, rv a120, rv s2122, rv s2130, .unset, .unset, .unset, .unset, .unset, .unset, .unset, .unset, .unset, .unset, .unset, .unset] [(.ref s2)]) ∧ Stand p l e room_1 (s.setVm T114.vm) m #[(.int xp), (.int xq), (.long xs), (.long xu)] below meth c T' locs' 31 62 ∧ T'.heap = h' ∧ Fr n0 locs' ∧ n0 ≤ h'.size ∧ (Keep h130 h' [] ∧ own_Str Z h' s2 b2 1 (fun _ => own_txc rg) ∧ ((xp &&& (2 : Int32)) = (0 : Int32) ↔ ¬ a112 = s2))) T130 (mkF m 152 #[iv xp, iv xq, own_lv xs, .second, own_lv xu, .second, iv ra, iv rg, iv ri, iv rf, iv (1 : Int32), rv a108, rv a110, rv a112, rv a114, rv a116, rv a118, rv a120, rv s2122, rv s2130, .unset, .unset, .unset, .unset, .unset, .unset, .unset, .unset, .unset, .unset, .unset, .unset] [(.int (xp &&& (2 : Int32)))]) := by
    by_cases hc139 : (xp &&& (2 : Int32)) = (0 : Int32)
    · skip
      have sg140 : own_V p e below T130 (mkF m 160 #[iv xp, iv xq, own_lv xs, .second, own_lv xu, .second, iv ra, iv rg, iv ri, iv rf, iv (1 : Int32), rv a108, rv a110, rv a112, rv a114, rv a116, rv a118, rv a120, rv s2122, rv s2130, .unset, .unset, .unset, .unset, .unset, .unset, .unset, .unset, .unset, .unset, .unset, .unset] []) (mkF m 152 #[iv xp, iv xq, own_lv xs, .second, own_lv xu, .second, iv ra, iv rg, iv ri, iv rf, iv (1 : Int32), rv a108, rv a110, rv a112, rv a114, rv a116, rv a118, rv a120, rv s2122, rv s2130, .unset, .unset, .unset, .unset, .unset, .unset, .unset, .unset, .unset, .unset, .unset, .unset] [(.int (xp &&& (2 : Int32)))]) := by
        intro t kt
        refine XS.ifYes X130.here hx rfl (pc0 := 152) (pc' := 160) rfl (hb hby at_152) rfl ((if0 _ _).trans (teq hc139).1) (by decide) (by decide) ?_
        exact kt
      refine own_sp sg140 ?_
      have sg141 : own_V p e below T130 (mkF m 162 #[iv xp, iv xq, own_lv xs, .second, own_lv xu, .second, iv ra, iv rg, iv ri, iv rf, iv (1 : Int32), rv a108, rv a110, rv a112, rv a114, rv a116, rv a118, rv a120, rv s2122, rv s2130, .unset, .unset, .unset, .unset, .unset, .unset, .unset, .unset, .unset, .unset, .unset, .unset] [(.int rg)]) (mkF m 160 #[iv xp, iv xq, own_lv xs, .second, own_lv xu, .second, iv ra, iv rg, iv ri, iv rf, iv (1 : Int32), rv a108, rv a110, rv a112, rv a114, rv a116, rv a118, rv a120, rv s2122, rv s2130, .unset, .unset, .unset, .unset, .unset, .unset, .unset, .unset, .unset, .unset, .unset, .unset] []) := by
        intro t kt
        refine XS.iload X130.here hx rfl (hb hby at_160) rfl ?_
        show own_S p e below T130 m 162 #[iv xp, iv xq, own_lv xs, .second, own_lv xu, .second, iv ra, iv rg, iv ri, iv rf, iv (1 : Int32), rv a108, rv a110, rv a112, rv a114, rv a116, rv a118, rv a120, rv s2122, rv s2130, .unset, .unset, .unset, .unset, .unset, .unset, .unset, .unset, .unset, .unset, .unset, .unset] [(.int rg)] _
        exact kt
      refine own_sp sg141 ?_
      obtain ⟨_, T142, L142, X142, hQ142, st142⟩ := own_callS (y := (⟨"com/example/coverfold/coverfold/UsageSharesTextsOfKindPinLaw", "text", "(I)Ljava/lang/String;"⟩ : MethodName)) X130 hx hZ hown (hw _ (List.mem_of_getElem? (i := 0) rfl)) (hw _ (List.mem_of_getElem? (i := 1) rfl)) (hw _ (List.mem_of_getElem? (i := 2) rfl)) (hw _ (List.mem_of_getElem? (i := 3) rfl)) (by decide) (own_rmtx l Z a0 hw rg cc h130 n0 Z130 SC_130 hcc) e130 (g := (mkF m 162 #[iv xp, iv xq, own_lv xs, .second, own_lv xu, .second, iv ra, iv rg, iv ri, iv rf, iv (1 : Int32), rv a108, rv a110, rv a112, rv a114, rv a116, rv a118, rv a120, rv s2122, rv s2130, .unset, .unset, .unset, .unset, .unset, .unset, .unset, .unset, .unset, .unset, .unset, .unset] [(.int rg)])) rfl (by rw [hml]; rfl) (argsL := [(.int rg)]) (rest := []) (lenOf own_pd14 rfl) rfl (W := 0) (by show 2 * 0 + _ ≤ _; exact Nat.le_of_eq rfl) (hb hby at_162) (by decide) (by decide) (by decide) (by decide)
      obtain ⟨a142, b142, rfl, Nq142, K142, sa142, sb142, S142⟩ := hQ142
      refine own_sp st142 ?_
      have Z142 : n0 ≤ T142.heap.size := Nat.le_trans Z130 K142.1
      have kk142 : T114.heap.size ≤ T142.heap.size := Nat.le_trans kk130 K142.1
      have N142 := Fr.app N130 Nq142
      show own_Pk p e below _ T142 (mkF m 165 #[iv xp, iv xq, own_lv xs, .second, own_lv xu, .second, iv ra, iv rg, iv ri, iv rf, iv (1 : Int32), rv a108, rv a110, rv a112, rv a114, rv a116, rv a118, rv a120, rv s2122, rv s2130, .unset, .unset, .unset, .unset, .unset, .unset, .unset, .unset, .unset, .unset, .unset, .unset] [(.ref a142)])
      have SC_142 := own_Sta.keep SC_130 K142
      have T13_142 := T13_130.keep K142 nin0 nin0
      exact ⟨T142, _, ⟨_, _, a142, b142, rfl, X142, rfl, N142, Z142, ⟨K142, S142, ⟨fun _ => Nat.ne_of_lt (Nat.lt_of_lt_of_le T13_130.lt sa142), fun _ => hc139⟩⟩⟩, fun t k => k⟩
    have sg143 : own_V p e below T130 (mkF m 155 #[iv xp, iv xq, own_lv xs, .second, own_lv xu, .second, iv ra, iv rg, iv ri, iv rf, iv (1 : Int32), rv a108, rv a110, rv a112, rv a114, rv a116, rv a118, rv a120, rv s2122, rv s2130, .unset, .unset, .unset, .unset, .unset, .unset, .unset, .unset, .unset, .unset, .unset, .unset] []) (mkF m 152 #[iv xp, iv xq, own_lv xs, .second, own_lv xu, .second, iv ra, iv rg, iv ri, iv rf, iv (1 : Int32), rv a108, rv a110, rv a112, rv a114, rv a116, rv a118, rv a120, rv s2122, rv s2130, .unset, .unset, .unset, .unset, .unset, .unset, .unset, .unset, .unset, .unset, .unset, .unset] [(.int (xp &&& (2 : Int32)))]) := by
      intro t kt
      refine XS.ifNo X130.here hx rfl (hb hby at_152) rfl ((if0 _ _).trans (feq hc139).1) ?_
      exact kt
    refine own_sp sg143 ?_
    have sg144 : own_V p e below T130 (mkF m 165 #[iv xp, iv xq, own_lv xs, .second, own_lv xu, .second, iv ra, iv rg, iv ri, iv rf, iv (1 : Int32), rv a108, rv a110, rv a112, rv a114, rv a116, rv a118, rv a120, rv s2122, rv s2130, .unset, .unset, .unset, .unset, .unset, .unset, .unset, .unset, .unset, .unset, .unset, .unset] [(.ref a112)]) (mkF m 155 #[iv xp, iv xq, own_lv xs, .second, own_lv xu, .second, iv ra, iv rg, iv ri, iv rf, iv (1 : Int32), rv a108, rv a110, rv a112, rv a114, rv a116, rv a118, rv a120, rv s2122, rv s2130, .unset, .unset, .unset, .unset, .unset, .unset, .unset, .unset, .unset, .unset, .unset, .unset] []) := by
      intro t kt
      refine XS.aload X130.here hx rfl (hb hby at_155) rfl rfl ?_
      show own_S p e below T130 m 157 #[iv xp, iv xq, own_lv xs, .second, own_lv xu, .second, iv ra, iv rg, iv ri, iv rf, iv (1 : Int32), rv a108, rv a110, rv a112, rv a114, rv a116, rv a118, rv a120, rv s2122, rv s2130, .unset, .unset, .unset, .unset, .unset, .unset, .unset, .unset, .unset, .unset, .unset, .unset] [(.ref a112)] _
      refine XS.goto X130.here hx rfl (pc0 := 157) (pc' := 165) rfl (hb hby at_157) (by decide) (by decide) ?_
      show own_S p e below T130 m 165 #[iv xp, iv xq, own_lv xs, .second, own_lv xu, .second, iv ra, iv rg, iv ri, iv rf, iv (1 : Int32), rv a108, rv a110, rv a112, rv a114, rv a116, rv a118, rv a120, rv s2122, rv s2130, .unset, .unset, .unset, .unset, .unset, .unset, .unset, .unset, .unset, .unset, .unset, .unset] [(.ref a112)] _
      exact kt
    refine own_sp sg144 ?_
    have XM := X130.mono (cells' := 31) (slots' := 62) (by decide) (by decide)
    exact ⟨T130, _, ⟨_, _, a112, b112, rfl, XM, e130, N130, Z130, ⟨Keep.refl _ [], T13_130, ⟨fun z => absurd z hc139, fun z => absurd rfl z⟩⟩⟩, fun t k => k⟩
  refine own_st st138 ?_
  show own_Go p e below _ T138 (mkF m 165 #[iv xp, iv xq, own_lv xs, .second, own_lv xu, .second, iv ra, iv rg, iv ri, iv rf, iv (1 : Int32), rv a108, rv a110, rv a112, rv a114, rv a116, rv a118, rv a120, rv s2122, rv s2130, .unset, .unset, .unset, .unset, .unset, .unset, .unset, .unset, .unset, .unset, .unset, .unset] [(.ref s2138)])
  have SC_138 := own_Sta.keep SC_130 K138
  have T11_138 := T11_130.keep K138 nin0 nin0
  have T12_138 := T12_130.keep K138 nin0 nin0
  have T13_138 := T13_130.keep K138 nin0 nin0
  have T14_138 := T14_130.keep K138 nin0 nin0
  have SL_138 := SL_130.keep K138 nin0 nin0
  have T15_138 := T15_130.keep K138 nin0 nin0
  have T16_138 := T16_130.keep K138 nin0 nin0
  have T17_138 := T17_130.keep K138 nin0 nin0
  have T11b_138 := T11b_130.keep K138 nin0 nin0
  have T12b_138 := S130.keep K138 nin0 nin0
  have kk138 : T114.heap.size ≤ h138.size := Nat.le_trans kk130 K138.1
  have sg145 : own_V p e below T138 (mkF m 170 #[iv xp, iv xq, own_lv xs, .second, own_lv xu, .second, iv ra, iv rg, iv ri, iv rf, iv (1 : Int32), rv a108, rv a110, rv a112, rv a114, rv a116, rv a118, rv a120, rv s2122, rv s2130, rv s2138, .unset, .unset, .unset, .unset, .unset, .unset, .unset, .unset, .unset, .unset, .unset] [(.int (xp &&& (4 : Int32)))]) (mkF m 165 #[iv xp, iv xq, own_lv xs, .second, own_lv xu, .second, iv ra, iv rg, iv ri, iv rf, iv (1 : Int32), rv a108, rv a110, rv a112, rv a114, rv a116, rv a118, rv a120, rv s2122, rv s2130, .unset, .unset, .unset, .unset, .unset, .unset, .unset, .unset, .unset, .unset, .unset, .unset] [(.ref s2138)]) := by
    intro t kt
    refine XS.astore X138.here hx rfl (hb hby at_165) rfl rfl (l' := #[iv xp, iv xq, own_lv xs, .second, own_lv xu, .second, iv ra, iv rg, iv ri, iv rf, iv (1 : Int32), rv a108, rv a110, rv a112, rv a114, rv a116, rv a118, rv a120, rv s2122, rv s2130, rv s2138, .unset, .unset, .unset, .unset, .unset, .unset, .unset, .unset, .unset, .unset, .unset]) rfl ?_
    show own_S p e below T138 m 167 #[iv xp, iv xq, own_lv xs, .second, own_lv xu, .second, iv ra, iv rg, iv ri, iv rf, iv (1 : Int32), rv a108, rv a110, rv a112, rv a114, rv a116, rv a118, rv a120, rv s2122, rv s2130, rv s2138, .unset, .unset, .unset, .unset, .unset, .unset, .unset, .unset, .unset, .unset, .unset] [] _
    refine XS.iloadN X138.here hx rfl (hb hby at_167) rfl ?_
    show own_S p e below T138 m 168 #[iv xp, iv xq, own_lv xs, .second, own_lv xu, .second, iv ra, iv rg, iv ri, iv rf, iv (1 : Int32), rv a108, rv a110, rv a112, rv a114, rv a116, rv a118, rv a120, rv s2122, rv s2130, rv s2138, .unset, .unset, .unset, .unset, .unset, .unset, .unset, .unset, .unset, .unset, .unset] [(.int xp)] _
    refine XS.iconst X138.here hx rfl (hb hby at_168) ?_
    show own_S p e below T138 m 169 #[iv xp, iv xq, own_lv xs, .second, own_lv xu, .second, iv ra, iv rg, iv ri, iv rf, iv (1 : Int32), rv a108, rv a110, rv a112, rv a114, rv a116, rv a118, rv a120, rv s2122, rv s2130, rv s2138, .unset, .unset, .unset, .unset, .unset, .unset, .unset, .unset, .unset, .unset, .unset] [(.int (4 : Int32)), (.int xp)] _
    refine XS.iand X138.here hx rfl (hb hby at_169) rfl ?_
    show own_S p e below T138 m 170 #[iv xp, iv xq, own_lv xs, .second, own_lv xu, .second, iv ra, iv rg, iv ri, iv rf, iv (1 : Int32), rv a108, rv a110, rv a112, rv a114, rv a116, rv a118, rv a120, rv s2122, rv s2130, rv s2138, .unset, .unset, .unset, .unset, .unset, .unset, .unset, .unset, .unset, .unset, .unset] [(.int (xp &&& (4 : Int32)))] _
    exact kt
  refine own_st sg145 ?_
  by_cases hc146 : (xp &&& (4 : Int32)) = (0 : Int32)
  · skip
    have sg147 : own_V p e below T138 (mkF m 178 #[iv xp, iv xq, own_lv xs, .second, own_lv xu, .second, iv ra, iv rg, iv ri, iv rf, iv (1 : Int32), rv a108, rv a110, rv a112, rv a114, rv a116, rv a118, rv a120, rv s2122, rv s2130, rv s2138, .unset, .unset, .unset, .unset, .unset, .unset, .unset, .unset, .unset, .unset, .unset] []) (mkF m 170 #[iv xp, iv xq, own_lv xs, .second, own_lv xu, .second, iv ra, iv rg, iv ri, iv rf, iv (1 : Int32), rv a108, rv a110, rv a112, rv a114, rv a116, rv a118, rv a120, rv s2122, rv s2130, rv s2138, .unset, .unset, .unset, .unset, .unset, .unset, .unset, .unset, .unset, .unset, .unset] [(.int (xp &&& (4 : Int32)))]) := by
      intro t kt
      refine XS.ifYes X138.here hx rfl (pc0 := 170) (pc' := 178) rfl (hb hby at_170) rfl ((if0 _ _).trans (teq hc146).1) (by decide) (by decide) ?_
      exact kt
    refine own_st sg147 ?_
    have sg148 : own_V p e below T138 (mkF m 182 #[iv xp, iv xq, own_lv xs, .second, own_lv xu, .second, iv ra, iv rg, iv ri, iv rf, iv (1 : Int32), rv a108, rv a110, rv a112, rv a114, rv a116, rv a118, rv a120, rv s2122, rv s2130, rv s2138, .unset, .unset, .unset, .unset, .unset, .unset, .unset, .unset, .unset, .unset, .unset] [(.int rg), (.int (1 : Int32))]) (mkF m 178 #[iv xp, iv xq, own_lv xs, .second, own_lv xu, .second, iv ra, iv rg, iv ri, iv rf, iv (1 : Int32), rv a108, rv a110, rv a112, rv a114, rv a116, rv a118, rv a120, rv s2122, rv s2130, rv s2138, .unset, .unset, .unset, .unset, .unset, .unset, .unset, .unset, .unset, .unset, .unset] []) := by
      intro t kt
      refine XS.iload X138.here hx rfl (hb hby at_178) rfl ?_
      show own_S p e below T138 m 180 #[iv xp, iv xq, own_lv xs, .second, own_lv xu, .second, iv ra, iv rg, iv ri, iv rf, iv (1 : Int32), rv a108, rv a110, rv a112, rv a114, rv a116, rv a118, rv a120, rv s2122, rv s2130, rv s2138, .unset, .unset, .unset, .unset, .unset, .unset, .unset, .unset, .unset, .unset, .unset] [(.int (1 : Int32))] _
      refine XS.iload X138.here hx rfl (hb hby at_180) rfl ?_
      show own_S p e below T138 m 182 #[iv xp, iv xq, own_lv xs, .second, own_lv xu, .second, iv ra, iv rg, iv ri, iv rf, iv (1 : Int32), rv a108, rv a110, rv a112, rv a114, rv a116, rv a118, rv a120, rv s2122, rv s2130, rv s2138, .unset, .unset, .unset, .unset, .unset, .unset, .unset, .unset, .unset, .unset, .unset] [(.int rg), (.int (1 : Int32))] _
      exact kt
    refine own_st sg148 ?_
    obtain ⟨_, T149, L149, X149, I149, hZ, hown, hQ149, st149⟩ := own_callSJ (y := (⟨"com/example/coverfold/coverfold/UsageSharesTextsOfKindPinLaw", "zoneText", "(ZI)Ljava/lang/String;"⟩ : MethodName)) (s := s) (vm0 := T114.vm) X138 I114 kk138 hx hZ hown (hw _ (List.mem_of_getElem? (i := 34) rfl)) (hw _ (List.mem_of_getElem? (i := 35) rfl)) (hw _ (List.mem_of_getElem? (i := 2) rfl)) (hw _ (List.mem_of_getElem? (i := 36) rfl)) (by decide) (own_rmzt_e2 l Z a0 hw rg lt114 b114 h138 n0 Z138 SL_138) e138 (g := (mkF m 182 #[iv xp, iv xq, own_lv xs, .second, own_lv xu, .second, iv ra, iv rg, iv ri, iv rf, iv (1 : Int32), rv a108, rv a110, rv a112, rv a114, rv a116, rv a118, rv a120, rv s2122, rv s2130, rv s2138, .unset, .unset, .unset, .unset, .unset, .unset, .unset, .unset, .unset, .unset, .unset] [(.int rg), (.int (1 : Int32))])) rfl (by rw [hml]; rfl) (argsL := [(.int (1 : Int32)), (.int rg)]) (rest := []) (lenOf own_pd15 rfl) rfl (W := 0) (by show 2 * 0 + _ ≤ _; exact Nat.le_of_eq rfl) (hb hby at_182) (by decide) (by decide) (by decide) (by decide) (fun vm1 hv => own_lit_warm (s := s) (vm0 := T114.vm) LT114 hv)
    obtain ⟨a149, rfl, Nq149, K149, sa149, S149⟩ := hQ149
    refine own_st st149 ?_
    have Z149 : n0 ≤ T149.heap.size := Nat.le_trans Z138 K149.1
    have kk149 : T114.heap.size ≤ T149.heap.size := Nat.le_trans kk138 K149.1
    have N149 := Fr.app N138 Nq149
    show own_Go p e below _ T149 (mkF m 185 #[iv xp, iv xq, own_lv xs, .second, own_lv xu, .second, iv ra, iv rg, iv ri, iv rf, iv (1 : Int32), rv a108, rv a110, rv a112, rv a114, rv a116, rv a118, rv a120, rv s2122, rv s2130, rv s2138, .unset, .unset, .unset, .unset, .unset, .unset, .unset, .unset, .unset, .unset, .unset] [(.ref a149)])
    have Qz : (xp &&& (4 : Int32)) = (0 : Int32) ↔ ¬ a114 = a149 := ⟨fun _ => Nat.ne_of_lt (Nat.lt_of_lt_of_le T14_138.lt sa149), fun _ => hc146⟩
    have SC_149 := own_Sta.keep SC_138 K149
    have T11_149 := T11_138.keep K149 nin0 nin0
    have T12_149 := T12_138.keep K149 nin0 nin0
    have T13_149 := T13_138.keep K149 nin0 nin0
    have T14_149 := T14_138.keep K149 nin0 nin0
    have SL_149 := SL_138.keep K149 nin0 nin0
    have T15_149 := T15_138.keep K149 nin0 nin0
    have T16_149 := T16_138.keep K149 nin0 nin0
    have T17_149 := T17_138.keep K149 nin0 nin0
    have T11b_149 := T11b_138.keep K149 nin0 nin0
    have T12b_149 := T12b_138.keep K149 nin0 nin0
    have T13b_149 := S138.keep K149 nin0 nin0
    have sg150 : own_V p e below T149 (mkF m 187 #[iv xp, iv xq, own_lv xs, .second, own_lv xu, .second, iv ra, iv rg, iv ri, iv rf, iv (1 : Int32), rv a108, rv a110, rv a112, rv a114, rv a116, rv a118, rv a120, rv s2122, rv s2130, rv s2138, rv a149, .unset, .unset, .unset, .unset, .unset, .unset, .unset, .unset, .unset, .unset] []) (mkF m 185 #[iv xp, iv xq, own_lv xs, .second, own_lv xu, .second, iv ra, iv rg, iv ri, iv rf, iv (1 : Int32), rv a108, rv a110, rv a112, rv a114, rv a116, rv a118, rv a120, rv s2122, rv s2130, rv s2138, .unset, .unset, .unset, .unset, .unset, .unset, .unset, .unset, .unset, .unset, .unset] [(.ref a149)]) := by
      intro t kt
      refine XS.astore X149.here hx rfl (hb hby at_185) rfl rfl (l' := #[iv xp, iv xq, own_lv xs, .second, own_lv xu, .second, iv ra, iv rg, iv ri, iv rf, iv (1 : Int32), rv a108, rv a110, rv a112, rv a114, rv a116, rv a118, rv a120, rv s2122, rv s2130, rv s2138, rv a149, .unset, .unset, .unset, .unset, .unset, .unset, .unset, .unset, .unset, .unset]) rfl ?_
      show own_S p e below T149 m 187 #[iv xp, iv xq, own_lv xs, .second, own_lv xu, .second, iv ra, iv rg, iv ri, iv rf, iv (1 : Int32), rv a108, rv a110, rv a112, rv a114, rv a116, rv a118, rv a120, rv s2122, rv s2130, rv s2138, rv a149, .unset, .unset, .unset, .unset, .unset, .unset, .unset, .unset, .unset, .unset] [] _
      exact kt
    refine own_st sg150 ?_
    have sg151 : own_V p e below T149 (mkF m 191 #[iv xp, iv xq, own_lv xs, .second, own_lv xu, .second, iv ra, iv rg, iv ri, iv rf, iv (1 : Int32), rv a108, rv a110, rv a112, rv a114, rv a116, rv a118, rv a120, rv s2122, rv s2130, rv s2138, rv a149, .unset, .unset, .unset, .unset, .unset, .unset, .unset, .unset, .unset, .unset] [(.int (xp &&& (8 : Int32)))]) (mkF m 187 #[iv xp, iv xq, own_lv xs, .second, own_lv xu, .second, iv ra, iv rg, iv ri, iv rf, iv (1 : Int32), rv a108, rv a110, rv a112, rv a114, rv a116, rv a118, rv a120, rv s2122, rv s2130, rv s2138, rv a149, .unset, .unset, .unset, .unset, .unset, .unset, .unset, .unset, .unset, .unset] []) := by
      intro t kt
      refine XS.iloadN X149.here hx rfl (hb hby at_187) rfl ?_
      show own_S p e below T149 m 188 #[iv xp, iv xq, own_lv xs, .second, own_lv xu, .second, iv ra, iv rg, iv ri, iv rf, iv (1 : Int32), rv a108, rv a110, rv a112, rv a114, rv a116, rv a118, rv a120, rv s2122, rv s2130, rv s2138, rv a149, .unset, .unset, .unset, .unset, .unset, .unset, .unset, .unset, .unset, .unset] [(.int xp)] _
      refine XS.bipush X149.here hx rfl (hb hby at_188) ?_
      show own_S p e below T149 m 190 #[iv xp, iv xq, own_lv xs, .second, own_lv xu, .second, iv ra, iv rg, iv ri, iv rf, iv (1 : Int32), rv a108, rv a110, rv a112, rv a114, rv a116, rv a118, rv a120, rv s2122, rv s2130, rv s2138, rv a149, .unset, .unset, .unset, .unset, .unset, .unset, .unset, .unset, .unset, .unset] [(.int (8 : Int32)), (.int xp)] _
      refine XS.iand X149.here hx rfl (hb hby at_190) rfl ?_
      show own_S p e below T149 m 191 #[iv xp, iv xq, own_lv xs, .second, own_lv xu, .second, iv ra, iv rg, iv ri, iv rf, iv (1 : Int32), rv a108, rv a110, rv a112, rv a114, rv a116, rv a118, rv a120, rv s2122, rv s2130, rv s2138, rv a149, .unset, .unset, .unset, .unset, .unset, .unset, .unset, .unset, .unset, .unset] [(.int (xp &&& (8 : Int32)))] _
      exact kt
    refine own_st sg151 ?_
    obtain ⟨T152, _, ⟨h152, L152, s2152, b2152, rfl, X152, e152, N152, Z152, K152, S152, Q152⟩, st152⟩ : own_Pk p e below (fun T' f' => ∃ (h' : Heap) (locs' : List Loc) (s2 : Nat) (b2 : Nat), f' = (mkF m 204 #[iv xp, iv xq, own_lv xs, .second, own_lv xu, .second, iv ra, iv rg, iv ri, iv rf, iv (1 : Int32), rv a108, rv a110, rv a112, rv a114, rv a116, rv a118, rv a120, rv s2122, rv s2130, rv s2138, rv a149, .unset, .unset, .unset, .unset, .unset, .unset, .unset, .unset, .unset, .unset] [(.ref s2)]) ∧ Stand p l e room_1 (s.setVm T149.vm) m #[(.int xp), (.int xq), (.long xs), (.long xu)] below meth c T' locs' 36 72 ∧ T'.heap = h' ∧ Fr n0 locs' ∧ n0 ≤ h'.size ∧ (Keep T149.heap h' [] ∧ own_Str Z h' s2 b2 1 (fun _ => own_txc ri) ∧ ((xp &&& (8 : Int32)) = (0 : Int32) ↔ ¬ a116 = s2))) T149 (mkF m 191 #[iv xp, iv xq, own_lv xs, .second, own_lv xu, .second, iv ra, iv rg, iv ri, iv rf, iv (1 : Int32), rv a108, rv a110, rv a112, rv a114, rv a116, rv a118, rv a120, rv s2122, rv s2130, rv s2138, rv a149, .unset, .unset, .unset, .unset, .unset, .unset, .unset, .unset, .unset, .unset] [(.int (xp &&& (8 : Int32)))]) := by
      by_cases hc153 : (xp &&& (8 : Int32)) = (0 : Int32)
      · skip
        have sg154 : own_V p e below T149 (mkF m 199 #[iv xp, iv xq, own_lv xs, .second, own_lv xu, .second, iv ra, iv rg, iv ri, iv rf, iv (1 : Int32), rv a108, rv a110, rv a112, rv a114, rv a116, rv a118, rv a120, rv s2122, rv s2130, rv s2138, rv a149, .unset, .unset, .unset, .unset, .unset, .unset, .unset, .unset, .unset, .unset] []) (mkF m 191 #[iv xp, iv xq, own_lv xs, .second, own_lv xu, .second, iv ra, iv rg, iv ri, iv rf, iv (1 : Int32), rv a108, rv a110, rv a112, rv a114, rv a116, rv a118, rv a120, rv s2122, rv s2130, rv s2138, rv a149, .unset, .unset, .unset, .unset, .unset, .unset, .unset, .unset, .unset, .unset] [(.int (xp &&& (8 : Int32)))]) := by
          intro t kt
          refine XS.ifYes X149.here hx rfl (pc0 := 191) (pc' := 199) rfl (hb hby at_191) rfl ((if0 _ _).trans (teq hc153).1) (by decide) (by decide) ?_
          exact kt
        refine own_sp sg154 ?_
        have sg155 : own_V p e below T149 (mkF m 201 #[iv xp, iv xq, own_lv xs, .second, own_lv xu, .second, iv ra, iv rg, iv ri, iv rf, iv (1 : Int32), rv a108, rv a110, rv a112, rv a114, rv a116, rv a118, rv a120, rv s2122, rv s2130, rv s2138, rv a149, .unset, .unset, .unset, .unset, .unset, .unset, .unset, .unset, .unset, .unset] [(.int ri)]) (mkF m 199 #[iv xp, iv xq, own_lv xs, .second, own_lv xu, .second, iv ra, iv rg, iv ri, iv rf, iv (1 : Int32), rv a108, rv a110, rv a112, rv a114, rv a116, rv a118, rv a120, rv s2122, rv s2130, rv s2138, rv a149, .unset, .unset, .unset, .unset, .unset, .unset, .unset, .unset, .unset, .unset] []) := by
          intro t kt
          refine XS.iload X149.here hx rfl (hb hby at_199) rfl ?_
          show own_S p e below T149 m 201 #[iv xp, iv xq, own_lv xs, .second, own_lv xu, .second, iv ra, iv rg, iv ri, iv rf, iv (1 : Int32), rv a108, rv a110, rv a112, rv a114, rv a116, rv a118, rv a120, rv s2122, rv s2130, rv s2138, rv a149, .unset, .unset, .unset, .unset, .unset, .unset, .unset, .unset, .unset, .unset] [(.int ri)] _
          exact kt
        refine own_sp sg155 ?_
        obtain ⟨_, T156, L156, X156, hQ156, st156⟩ := own_callS (y := (⟨"com/example/coverfold/coverfold/UsageSharesTextsOfKindPinLaw", "text", "(I)Ljava/lang/String;"⟩ : MethodName)) X149 hx hZ hown (hw _ (List.mem_of_getElem? (i := 0) rfl)) (hw _ (List.mem_of_getElem? (i := 1) rfl)) (hw _ (List.mem_of_getElem? (i := 2) rfl)) (hw _ (List.mem_of_getElem? (i := 3) rfl)) (by decide) (own_rmtx l Z a0 hw ri cc T149.heap n0 Z149 SC_149 hcc) rfl (g := (mkF m 201 #[iv xp, iv xq, own_lv xs, .second, own_lv xu, .second, iv ra, iv rg, iv ri, iv rf, iv (1 : Int32), rv a108, rv a110, rv a112, rv a114, rv a116, rv a118, rv a120, rv s2122, rv s2130, rv s2138, rv a149, .unset, .unset, .unset, .unset, .unset, .unset, .unset, .unset, .unset, .unset] [(.int ri)])) rfl (by rw [hml]; rfl) (argsL := [(.int ri)]) (rest := []) (lenOf own_pd14 rfl) rfl (W := 0) (by show 2 * 0 + _ ≤ _; exact Nat.le_of_eq rfl) (hb hby at_201) (by decide) (by decide) (by decide) (by decide)
        obtain ⟨a156, b156, rfl, Nq156, K156, sa156, sb156, S156⟩ := hQ156
        refine own_sp st156 ?_
        have Z156 : n0 ≤ T156.heap.size := Nat.le_trans Z149 K156.1
        have kk156 : T149.heap.size ≤ T156.heap.size := Nat.le_trans (Nat.le_refl _) K156.1
        have N156 := Fr.app N149 Nq156
        show own_Pk p e below _ T156 (mkF m 204 #[iv xp, iv xq, own_lv xs, .second, own_lv xu, .second, iv ra, iv rg, iv ri, iv rf, iv (1 : Int32), rv a108, rv a110, rv a112, rv a114, rv a116, rv a118, rv a120, rv s2122, rv s2130, rv s2138, rv a149, .unset, .unset, .unset, .unset, .unset, .unset, .unset, .unset, .unset, .unset] [(.ref a156)])
        have SC_156 := own_Sta.keep SC_149 K156
        have T15_156 := T15_149.keep K156 nin0 nin0
        exact ⟨T156, _, ⟨_, _, a156, b156, rfl, X156, rfl, N156, Z156, ⟨K156, S156, ⟨fun _ => Nat.ne_of_lt (Nat.lt_of_lt_of_le T15_149.lt sa156), fun _ => hc153⟩⟩⟩, fun t k => k⟩
      have sg157 : own_V p e below T149 (mkF m 194 #[iv xp, iv xq, own_lv xs, .second, own_lv xu, .second, iv ra, iv rg, iv ri, iv rf, iv (1 : Int32), rv a108, rv a110, rv a112, rv a114, rv a116, rv a118, rv a120, rv s2122, rv s2130, rv s2138, rv a149, .unset, .unset, .unset, .unset, .unset, .unset, .unset, .unset, .unset, .unset] []) (mkF m 191 #[iv xp, iv xq, own_lv xs, .second, own_lv xu, .second, iv ra, iv rg, iv ri, iv rf, iv (1 : Int32), rv a108, rv a110, rv a112, rv a114, rv a116, rv a118, rv a120, rv s2122, rv s2130, rv s2138, rv a149, .unset, .unset, .unset, .unset, .unset, .unset, .unset, .unset, .unset, .unset] [(.int (xp &&& (8 : Int32)))]) := by
        intro t kt
        refine XS.ifNo X149.here hx rfl (hb hby at_191) rfl ((if0 _ _).trans (feq hc153).1) ?_
        exact kt
      refine own_sp sg157 ?_
      have sg158 : own_V p e below T149 (mkF m 204 #[iv xp, iv xq, own_lv xs, .second, own_lv xu, .second, iv ra, iv rg, iv ri, iv rf, iv (1 : Int32), rv a108, rv a110, rv a112, rv a114, rv a116, rv a118, rv a120, rv s2122, rv s2130, rv s2138, rv a149, .unset, .unset, .unset, .unset, .unset, .unset, .unset, .unset, .unset, .unset] [(.ref a116)]) (mkF m 194 #[iv xp, iv xq, own_lv xs, .second, own_lv xu, .second, iv ra, iv rg, iv ri, iv rf, iv (1 : Int32), rv a108, rv a110, rv a112, rv a114, rv a116, rv a118, rv a120, rv s2122, rv s2130, rv s2138, rv a149, .unset, .unset, .unset, .unset, .unset, .unset, .unset, .unset, .unset, .unset] []) := by
        intro t kt
        refine XS.aload X149.here hx rfl (hb hby at_194) rfl rfl ?_
        show own_S p e below T149 m 196 #[iv xp, iv xq, own_lv xs, .second, own_lv xu, .second, iv ra, iv rg, iv ri, iv rf, iv (1 : Int32), rv a108, rv a110, rv a112, rv a114, rv a116, rv a118, rv a120, rv s2122, rv s2130, rv s2138, rv a149, .unset, .unset, .unset, .unset, .unset, .unset, .unset, .unset, .unset, .unset] [(.ref a116)] _
        refine XS.goto X149.here hx rfl (pc0 := 196) (pc' := 204) rfl (hb hby at_196) (by decide) (by decide) ?_
        show own_S p e below T149 m 204 #[iv xp, iv xq, own_lv xs, .second, own_lv xu, .second, iv ra, iv rg, iv ri, iv rf, iv (1 : Int32), rv a108, rv a110, rv a112, rv a114, rv a116, rv a118, rv a120, rv s2122, rv s2130, rv s2138, rv a149, .unset, .unset, .unset, .unset, .unset, .unset, .unset, .unset, .unset, .unset] [(.ref a116)] _
        exact kt
      refine own_sp sg158 ?_
      have XM := X149.mono (cells' := 36) (slots' := 72) (by decide) (by decide)
      exact ⟨T149, _, ⟨_, _, a116, b116, rfl, XM, rfl, N149, Z149, ⟨Keep.refl _ [], T15_149, ⟨fun z => absurd z hc153, fun z => absurd rfl z⟩⟩⟩, fun t k => k⟩
    refine own_st st152 ?_
    show own_Go p e below _ T152 (mkF m 204 #[iv xp, iv xq, own_lv xs, .second, own_lv xu, .second, iv ra, iv rg, iv ri, iv rf, iv (1 : Int32), rv a108, rv a110, rv a112, rv a114, rv a116, rv a118, rv a120, rv s2122, rv s2130, rv s2138, rv a149, .unset, .unset, .unset, .unset, .unset, .unset, .unset, .unset, .unset, .unset] [(.ref s2152)])
    have SC_152 := own_Sta.keep SC_149 K152
    have T11_152 := T11_149.keep K152 nin0 nin0
    have T12_152 := T12_149.keep K152 nin0 nin0
    have T13_152 := T13_149.keep K152 nin0 nin0
    have T14_152 := T14_149.keep K152 nin0 nin0
    have SL_152 := SL_149.keep K152 nin0 nin0
    have T15_152 := T15_149.keep K152 nin0 nin0
    have T16_152 := T16_149.keep K152 nin0 nin0
    have T17_152 := T17_149.keep K152 nin0 nin0
    have T11b_152 := T11b_149.keep K152 nin0 nin0
    have T12b_152 := T12b_149.keep K152 nin0 nin0
    have T13b_152 := T13b_149.keep K152 nin0 nin0
    have T14b_152 := S149.keep K152 nin0 nin0
    have kk152 : T149.heap.size ≤ h152.size := Nat.le_trans (Nat.le_refl _) K152.1
    have sg159 : own_V p e below T152 (mkF m 210 #[iv xp, iv xq, own_lv xs, .second, own_lv xu, .second, iv ra, iv rg, iv ri, iv rf, iv (1 : Int32), rv a108, rv a110, rv a112, rv a114, rv a116, rv a118, rv a120, rv s2122, rv s2130, rv s2138, rv a149, rv s2152, .unset, .unset, .unset, .unset, .unset, .unset, .unset, .unset, .unset] [(.int (xp &&& (16 : Int32)))]) (mkF m 204 #[iv xp, iv xq, own_lv xs, .second, own_lv xu, .second, iv ra, iv rg, iv ri, iv rf, iv (1 : Int32), rv a108, rv a110, rv a112, rv a114, rv a116, rv a118, rv a120, rv s2122, rv s2130, rv s2138, rv a149, .unset, .unset, .unset, .unset, .unset, .unset, .unset, .unset, .unset, .unset] [(.ref s2152)]) := by
      intro t kt
      refine XS.astore X152.here hx rfl (hb hby at_204) rfl rfl (l' := #[iv xp, iv xq, own_lv xs, .second, own_lv xu, .second, iv ra, iv rg, iv ri, iv rf, iv (1 : Int32), rv a108, rv a110, rv a112, rv a114, rv a116, rv a118, rv a120, rv s2122, rv s2130, rv s2138, rv a149, rv s2152, .unset, .unset, .unset, .unset, .unset, .unset, .unset, .unset, .unset]) rfl ?_
      show own_S p e below T152 m 206 #[iv xp, iv xq, own_lv xs, .second, own_lv xu, .second, iv ra, iv rg, iv ri, iv rf, iv (1 : Int32), rv a108, rv a110, rv a112, rv a114, rv a116, rv a118, rv a120, rv s2122, rv s2130, rv s2138, rv a149, rv s2152, .unset, .unset, .unset, .unset, .unset, .unset, .unset, .unset, .unset] [] _
      refine XS.iloadN X152.here hx rfl (hb hby at_206) rfl ?_
      show own_S p e below T152 m 207 #[iv xp, iv xq, own_lv xs, .second, own_lv xu, .second, iv ra, iv rg, iv ri, iv rf, iv (1 : Int32), rv a108, rv a110, rv a112, rv a114, rv a116, rv a118, rv a120, rv s2122, rv s2130, rv s2138, rv a149, rv s2152, .unset, .unset, .unset, .unset, .unset, .unset, .unset, .unset, .unset] [(.int xp)] _
      refine XS.bipush X152.here hx rfl (hb hby at_207) ?_
      show own_S p e below T152 m 209 #[iv xp, iv xq, own_lv xs, .second, own_lv xu, .second, iv ra, iv rg, iv ri, iv rf, iv (1 : Int32), rv a108, rv a110, rv a112, rv a114, rv a116, rv a118, rv a120, rv s2122, rv s2130, rv s2138, rv a149, rv s2152, .unset, .unset, .unset, .unset, .unset, .unset, .unset, .unset, .unset] [(.int (16 : Int32)), (.int xp)] _
      refine XS.iand X152.here hx rfl (hb hby at_209) rfl ?_
      show own_S p e below T152 m 210 #[iv xp, iv xq, own_lv xs, .second, own_lv xu, .second, iv ra, iv rg, iv ri, iv rf, iv (1 : Int32), rv a108, rv a110, rv a112, rv a114, rv a116, rv a118, rv a120, rv s2122, rv s2130, rv s2138, rv a149, rv s2152, .unset, .unset, .unset, .unset, .unset, .unset, .unset, .unset, .unset] [(.int (xp &&& (16 : Int32)))] _
      exact kt
    refine own_st sg159 ?_
    obtain ⟨T160, _, ⟨h160, L160, s2160, b2160, rfl, X160, e160, N160, Z160, K160, S160, Q160⟩, st160⟩ : own_Pk p e below (fun T' f' => ∃ (h' : Heap) (locs' : List Loc) (s2 : Nat) (b2 : Nat), f' = (mkF m 223 #[iv xp, iv xq, own_lv xs, .second, own_lv xu, .second, iv ra, iv rg, iv ri, iv rf, iv (1 : Int32), rv a108, rv a110, rv a112, rv a114, rv a116, rv a118, rv a120, rv s2122, rv s2130, rv s2138, rv a149, rv s2152, .unset, .unset, .unset, .unset, .unset, .unset, .unset, .unset, .unset] [(.ref s2)]) ∧ Stand p l e room_1 (s.setVm T149.vm) m #[(.int xp), (.int xq), (.long xs), (.long xu)] below meth c T' locs' 39 78 ∧ T'.heap = h' ∧ Fr n0 locs' ∧ n0 ≤ h'.size ∧ (Keep h152 h' [] ∧ own_Str Z h' s2 b2 1 (fun _ => own_txc rf) ∧ ((xp &&& (16 : Int32)) = (0 : Int32) ↔ ¬ a118 = s2))) T152 (mkF m 210 #[iv xp, iv xq, own_lv xs, .second, own_lv xu, .second, iv ra, iv rg, iv ri, iv rf, iv (1 : Int32), rv a108, rv a110, rv a112, rv a114, rv a116, rv a118, rv a120, rv s2122, rv s2130, rv s2138, rv a149, rv s2152, .unset, .unset, .unset, .unset, .unset, .unset, .unset, .unset, .unset] [(.int (xp &&& (16 : Int32)))]) := by
      by_cases hc161 : (xp &&& (16 : Int32)) = (0 : Int32)
      · skip
        have sg162 : own_V p e below T152 (mkF m 218 #[iv xp, iv xq, own_lv xs, .second, own_lv xu, .second, iv ra, iv rg, iv ri, iv rf, iv (1 : Int32), rv a108, rv a110, rv a112, rv a114, rv a116, rv a118, rv a120, rv s2122, rv s2130, rv s2138, rv a149, rv s2152, .unset, .unset, .unset, .unset, .unset, .unset, .unset, .unset, .unset] []) (mkF m 210 #[iv xp, iv xq, own_lv xs, .second, own_lv xu, .second, iv ra, iv rg, iv ri, iv rf, iv (1 : Int32), rv a108, rv a110, rv a112, rv a114, rv a116, rv a118, rv a120, rv s2122, rv s2130, rv s2138, rv a149, rv s2152, .unset, .unset, .unset, .unset, .unset, .unset, .unset, .unset, .unset] [(.int (xp &&& (16 : Int32)))]) := by
          intro t kt
          refine XS.ifYes X152.here hx rfl (pc0 := 210) (pc' := 218) rfl (hb hby at_210) rfl ((if0 _ _).trans (teq hc161).1) (by decide) (by decide) ?_
          exact kt
        refine own_sp sg162 ?_
        have sg163 : own_V p e below T152 (mkF m 220 #[iv xp, iv xq, own_lv xs, .second, own_lv xu, .second, iv ra, iv rg, iv ri, iv rf, iv (1 : Int32), rv a108, rv a110, rv a112, rv a114, rv a116, rv a118, rv a120, rv s2122, rv s2130, rv s2138, rv a149, rv s2152, .unset, .unset, .unset, .unset, .unset, .unset, .unset, .unset, .unset] [(.int rf)]) (mkF m 218 #[iv xp, iv xq, own_lv xs, .second, own_lv xu, .second, iv ra, iv rg, iv ri, iv rf, iv (1 : Int32), rv a108, rv a110, rv a112, rv a114, rv a116, rv a118, rv a120, rv s2122, rv s2130, rv s2138, rv a149, rv s2152, .unset, .unset, .unset, .unset, .unset, .unset, .unset, .unset, .unset] []) := by
          intro t kt
          refine XS.iload X152.here hx rfl (hb hby at_218) rfl ?_
          show own_S p e below T152 m 220 #[iv xp, iv xq, own_lv xs, .second, own_lv xu, .second, iv ra, iv rg, iv ri, iv rf, iv (1 : Int32), rv a108, rv a110, rv a112, rv a114, rv a116, rv a118, rv a120, rv s2122, rv s2130, rv s2138, rv a149, rv s2152, .unset, .unset, .unset, .unset, .unset, .unset, .unset, .unset, .unset] [(.int rf)] _
          exact kt
        refine own_sp sg163 ?_
        obtain ⟨_, T164, L164, X164, hQ164, st164⟩ := own_callS (y := (⟨"com/example/coverfold/coverfold/UsageSharesTextsOfKindPinLaw", "text", "(I)Ljava/lang/String;"⟩ : MethodName)) X152 hx hZ hown (hw _ (List.mem_of_getElem? (i := 0) rfl)) (hw _ (List.mem_of_getElem? (i := 1) rfl)) (hw _ (List.mem_of_getElem? (i := 2) rfl)) (hw _ (List.mem_of_getElem? (i := 3) rfl)) (by decide) (own_rmtx l Z a0 hw rf cc h152 n0 Z152 SC_152 hcc) e152 (g := (mkF m 220 #[iv xp, iv xq, own_lv xs, .second, own_lv xu, .second, iv ra, iv rg, iv ri, iv rf, iv (1 : Int32), rv a108, rv a110, rv a112, rv a114, rv a116, rv a118, rv a120, rv s2122, rv s2130, rv s2138, rv a149, rv s2152, .unset, .unset, .unset, .unset, .unset, .unset, .unset, .unset, .unset] [(.int rf)])) rfl (by rw [hml]; rfl) (argsL := [(.int rf)]) (rest := []) (lenOf own_pd14 rfl) rfl (W := 0) (by show 2 * 0 + _ ≤ _; exact Nat.le_of_eq rfl) (hb hby at_220) (by decide) (by decide) (by decide) (by decide)
        obtain ⟨a164, b164, rfl, Nq164, K164, sa164, sb164, S164⟩ := hQ164
        refine own_sp st164 ?_
        have Z164 : n0 ≤ T164.heap.size := Nat.le_trans Z152 K164.1
        have kk164 : T149.heap.size ≤ T164.heap.size := Nat.le_trans kk152 K164.1
        have N164 := Fr.app N152 Nq164
        show own_Pk p e below _ T164 (mkF m 223 #[iv xp, iv xq, own_lv xs, .second, own_lv xu, .second, iv ra, iv rg, iv ri, iv rf, iv (1 : Int32), rv a108, rv a110, rv a112, rv a114, rv a116, rv a118, rv a120, rv s2122, rv s2130, rv s2138, rv a149, rv s2152, .unset, .unset, .unset, .unset, .unset, .unset, .unset, .unset, .unset] [(.ref a164)])
        have SC_164 := own_Sta.keep SC_152 K164
        have T16_164 := T16_152.keep K164 nin0 nin0
        exact ⟨T164, _, ⟨_, _, a164, b164, rfl, X164, rfl, N164, Z164, ⟨K164, S164, ⟨fun _ => Nat.ne_of_lt (Nat.lt_of_lt_of_le T16_152.lt sa164), fun _ => hc161⟩⟩⟩, fun t k => k⟩
      have sg165 : own_V p e below T152 (mkF m 213 #[iv xp, iv xq, own_lv xs, .second, own_lv xu, .second, iv ra, iv rg, iv ri, iv rf, iv (1 : Int32), rv a108, rv a110, rv a112, rv a114, rv a116, rv a118, rv a120, rv s2122, rv s2130, rv s2138, rv a149, rv s2152, .unset, .unset, .unset, .unset, .unset, .unset, .unset, .unset, .unset] []) (mkF m 210 #[iv xp, iv xq, own_lv xs, .second, own_lv xu, .second, iv ra, iv rg, iv ri, iv rf, iv (1 : Int32), rv a108, rv a110, rv a112, rv a114, rv a116, rv a118, rv a120, rv s2122, rv s2130, rv s2138, rv a149, rv s2152, .unset, .unset, .unset, .unset, .unset, .unset, .unset, .unset, .unset] [(.int (xp &&& (16 : Int32)))]) := by
        intro t kt
        refine XS.ifNo X152.here hx rfl (hb hby at_210) rfl ((if0 _ _).trans (feq hc161).1) ?_
        exact kt
      refine own_sp sg165 ?_
      have sg166 : own_V p e below T152 (mkF m 223 #[iv xp, iv xq, own_lv xs, .second, own_lv xu, .second, iv ra, iv rg, iv ri, iv rf, iv (1 : Int32), rv a108, rv a110, rv a112, rv a114, rv a116, rv a118, rv a120, rv s2122, rv s2130, rv s2138, rv a149, rv s2152, .unset, .unset, .unset, .unset, .unset, .unset, .unset, .unset, .unset] [(.ref a118)]) (mkF m 213 #[iv xp, iv xq, own_lv xs, .second, own_lv xu, .second, iv ra, iv rg, iv ri, iv rf, iv (1 : Int32), rv a108, rv a110, rv a112, rv a114, rv a116, rv a118, rv a120, rv s2122, rv s2130, rv s2138, rv a149, rv s2152, .unset, .unset, .unset, .unset, .unset, .unset, .unset, .unset, .unset] []) := by
        intro t kt
        refine XS.aload X152.here hx rfl (hb hby at_213) rfl rfl ?_
        show own_S p e below T152 m 215 #[iv xp, iv xq, own_lv xs, .second, own_lv xu, .second, iv ra, iv rg, iv ri, iv rf, iv (1 : Int32), rv a108, rv a110, rv a112, rv a114, rv a116, rv a118, rv a120, rv s2122, rv s2130, rv s2138, rv a149, rv s2152, .unset, .unset, .unset, .unset, .unset, .unset, .unset, .unset, .unset] [(.ref a118)] _
        refine XS.goto X152.here hx rfl (pc0 := 215) (pc' := 223) rfl (hb hby at_215) (by decide) (by decide) ?_
        show own_S p e below T152 m 223 #[iv xp, iv xq, own_lv xs, .second, own_lv xu, .second, iv ra, iv rg, iv ri, iv rf, iv (1 : Int32), rv a108, rv a110, rv a112, rv a114, rv a116, rv a118, rv a120, rv s2122, rv s2130, rv s2138, rv a149, rv s2152, .unset, .unset, .unset, .unset, .unset, .unset, .unset, .unset, .unset] [(.ref a118)] _
        exact kt
      refine own_sp sg166 ?_
      have XM := X152.mono (cells' := 39) (slots' := 78) (by decide) (by decide)
      exact ⟨T152, _, ⟨_, _, a118, b118, rfl, XM, e152, N152, Z152, ⟨Keep.refl _ [], T16_152, ⟨fun z => absurd z hc161, fun z => absurd rfl z⟩⟩⟩, fun t k => k⟩
    refine own_st st160 ?_
    show own_Go p e below _ T160 (mkF m 223 #[iv xp, iv xq, own_lv xs, .second, own_lv xu, .second, iv ra, iv rg, iv ri, iv rf, iv (1 : Int32), rv a108, rv a110, rv a112, rv a114, rv a116, rv a118, rv a120, rv s2122, rv s2130, rv s2138, rv a149, rv s2152, .unset, .unset, .unset, .unset, .unset, .unset, .unset, .unset, .unset] [(.ref s2160)])
    have SC_160 := own_Sta.keep SC_152 K160
    have T11_160 := T11_152.keep K160 nin0 nin0
    have T12_160 := T12_152.keep K160 nin0 nin0
    have T13_160 := T13_152.keep K160 nin0 nin0
    have T14_160 := T14_152.keep K160 nin0 nin0
    have SL_160 := SL_152.keep K160 nin0 nin0
    have T15_160 := T15_152.keep K160 nin0 nin0
    have T16_160 := T16_152.keep K160 nin0 nin0
    have T17_160 := T17_152.keep K160 nin0 nin0
    have T11b_160 := T11b_152.keep K160 nin0 nin0
    have T12b_160 := T12b_152.keep K160 nin0 nin0
    have T13b_160 := T13b_152.keep K160 nin0 nin0
    have T14b_160 := T14b_152.keep K160 nin0 nin0
    have T15b_160 := S152.keep K160 nin0 nin0
    have kk160 : T149.heap.size ≤ h160.size := Nat.le_trans kk152 K160.1
    have sg167 : own_V p e below T160 (mkF m 229 #[iv xp, iv xq, own_lv xs, .second, own_lv xu, .second, iv ra, iv rg, iv ri, iv rf, iv (1 : Int32), rv a108, rv a110, rv a112, rv a114, rv a116, rv a118, rv a120, rv s2122, rv s2130, rv s2138, rv a149, rv s2152, rv s2160, .unset, .unset, .unset, .unset, .unset, .unset, .unset, .unset] [(.int (xp &&& (32 : Int32)))]) (mkF m 223 #[iv xp, iv xq, own_lv xs, .second, own_lv xu, .second, iv ra, iv rg, iv ri, iv rf, iv (1 : Int32), rv a108, rv a110, rv a112, rv a114, rv a116, rv a118, rv a120, rv s2122, rv s2130, rv s2138, rv a149, rv s2152, .unset, .unset, .unset, .unset, .unset, .unset, .unset, .unset, .unset] [(.ref s2160)]) := by
      intro t kt
      refine XS.astore X160.here hx rfl (hb hby at_223) rfl rfl (l' := #[iv xp, iv xq, own_lv xs, .second, own_lv xu, .second, iv ra, iv rg, iv ri, iv rf, iv (1 : Int32), rv a108, rv a110, rv a112, rv a114, rv a116, rv a118, rv a120, rv s2122, rv s2130, rv s2138, rv a149, rv s2152, rv s2160, .unset, .unset, .unset, .unset, .unset, .unset, .unset, .unset]) rfl ?_
      show own_S p e below T160 m 225 #[iv xp, iv xq, own_lv xs, .second, own_lv xu, .second, iv ra, iv rg, iv ri, iv rf, iv (1 : Int32), rv a108, rv a110, rv a112, rv a114, rv a116, rv a118, rv a120, rv s2122, rv s2130, rv s2138, rv a149, rv s2152, rv s2160, .unset, .unset, .unset, .unset, .unset, .unset, .unset, .unset] [] _
      refine XS.iloadN X160.here hx rfl (hb hby at_225) rfl ?_
      show own_S p e below T160 m 226 #[iv xp, iv xq, own_lv xs, .second, own_lv xu, .second, iv ra, iv rg, iv ri, iv rf, iv (1 : Int32), rv a108, rv a110, rv a112, rv a114, rv a116, rv a118, rv a120, rv s2122, rv s2130, rv s2138, rv a149, rv s2152, rv s2160, .unset, .unset, .unset, .unset, .unset, .unset, .unset, .unset] [(.int xp)] _
      refine XS.bipush X160.here hx rfl (hb hby at_226) ?_
      show own_S p e below T160 m 228 #[iv xp, iv xq, own_lv xs, .second, own_lv xu, .second, iv ra, iv rg, iv ri, iv rf, iv (1 : Int32), rv a108, rv a110, rv a112, rv a114, rv a116, rv a118, rv a120, rv s2122, rv s2130, rv s2138, rv a149, rv s2152, rv s2160, .unset, .unset, .unset, .unset, .unset, .unset, .unset, .unset] [(.int (32 : Int32)), (.int xp)] _
      refine XS.iand X160.here hx rfl (hb hby at_228) rfl ?_
      show own_S p e below T160 m 229 #[iv xp, iv xq, own_lv xs, .second, own_lv xu, .second, iv ra, iv rg, iv ri, iv rf, iv (1 : Int32), rv a108, rv a110, rv a112, rv a114, rv a116, rv a118, rv a120, rv s2122, rv s2130, rv s2138, rv a149, rv s2152, rv s2160, .unset, .unset, .unset, .unset, .unset, .unset, .unset, .unset] [(.int (xp &&& (32 : Int32)))] _
      exact kt
    refine own_st sg167 ?_
    obtain ⟨T168, _, ⟨h168, L168, s2168, b2168, rfl, X168, e168, N168, Z168, K168, S168, Q168⟩, st168⟩ : own_Pk p e below (fun T' f' => ∃ (h' : Heap) (locs' : List Loc) (s2 : Nat) (b2 : Nat), f' = (mkF m 245 #[iv xp, iv xq, own_lv xs, .second, own_lv xu, .second, iv ra, iv rg, iv ri, iv rf, iv (1 : Int32), rv a108, rv a110, rv a112, rv a114, rv a116, rv a118, rv a120, rv s2122, rv s2130, rv s2138, rv a149, rv s2152, rv s2160, .unset, .unset, .unset, .unset, .unset, .unset, .unset, .unset] [(.ref s2)]) ∧ Stand p l e room_1 (s.setVm T149.vm) m #[(.int xp), (.int xq), (.long xs), (.long xu)] below meth c T' locs' 42 84 ∧ T'.heap = h' ∧ Fr n0 locs' ∧ n0 ≤ h'.size ∧ (Keep h160 h' [] ∧ own_Str Z h' s2 b2 1 (fun _ => own_txc (ra ^^^ rf)) ∧ ((xp &&& (32 : Int32)) = (0 : Int32) ↔ ¬ a120 = s2))) T160 (mkF m 229 #[iv xp, iv xq, own_lv xs, .second, own_lv xu, .second, iv ra, iv rg, iv ri, iv rf, iv (1 : Int32), rv a108, rv a110, rv a112, rv a114, rv a116, rv a118, rv a120, rv s2122, rv s2130, rv s2138, rv a149, rv s2152, rv s2160, .unset, .unset, .unset, .unset, .unset, .unset, .unset, .unset] [(.int (xp &&& (32 : Int32)))]) := by
      by_cases hc169 : (xp &&& (32 : Int32)) = (0 : Int32)
      · skip
        have sg170 : own_V p e below T160 (mkF m 237 #[iv xp, iv xq, own_lv xs, .second, own_lv xu, .second, iv ra, iv rg, iv ri, iv rf, iv (1 : Int32), rv a108, rv a110, rv a112, rv a114, rv a116, rv a118, rv a120, rv s2122, rv s2130, rv s2138, rv a149, rv s2152, rv s2160, .unset, .unset, .unset, .unset, .unset, .unset, .unset, .unset] []) (mkF m 229 #[iv xp, iv xq, own_lv xs, .second, own_lv xu, .second, iv ra, iv rg, iv ri, iv rf, iv (1 : Int32), rv a108, rv a110, rv a112, rv a114, rv a116, rv a118, rv a120, rv s2122, rv s2130, rv s2138, rv a149, rv s2152, rv s2160, .unset, .unset, .unset, .unset, .unset, .unset, .unset, .unset] [(.int (xp &&& (32 : Int32)))]) := by
          intro t kt
          refine XS.ifYes X160.here hx rfl (pc0 := 229) (pc' := 237) rfl (hb hby at_229) rfl ((if0 _ _).trans (teq hc169).1) (by decide) (by decide) ?_
          exact kt
        refine own_sp sg170 ?_
        have sg171 : own_V p e below T160 (mkF m 242 #[iv xp, iv xq, own_lv xs, .second, own_lv xu, .second, iv ra, iv rg, iv ri, iv rf, iv (1 : Int32), rv a108, rv a110, rv a112, rv a114, rv a116, rv a118, rv a120, rv s2122, rv s2130, rv s2138, rv a149, rv s2152, rv s2160, .unset, .unset, .unset, .unset, .unset, .unset, .unset, .unset] [(.int (ra ^^^ rf))]) (mkF m 237 #[iv xp, iv xq, own_lv xs, .second, own_lv xu, .second, iv ra, iv rg, iv ri, iv rf, iv (1 : Int32), rv a108, rv a110, rv a112, rv a114, rv a116, rv a118, rv a120, rv s2122, rv s2130, rv s2138, rv a149, rv s2152, rv s2160, .unset, .unset, .unset, .unset, .unset, .unset, .unset, .unset] []) := by
          intro t kt
          refine XS.iload X160.here hx rfl (hb hby at_237) rfl ?_
          show own_S p e below T160 m 239 #[iv xp, iv xq, own_lv xs, .second, own_lv xu, .second, iv ra, iv rg, iv ri, iv rf, iv (1 : Int32), rv a108, rv a110, rv a112, rv a114, rv a116, rv a118, rv a120, rv s2122, rv s2130, rv s2138, rv a149, rv s2152, rv s2160, .unset, .unset, .unset, .unset, .unset, .unset, .unset, .unset] [(.int ra)] _
          refine XS.iload X160.here hx rfl (hb hby at_239) rfl ?_
          show own_S p e below T160 m 241 #[iv xp, iv xq, own_lv xs, .second, own_lv xu, .second, iv ra, iv rg, iv ri, iv rf, iv (1 : Int32), rv a108, rv a110, rv a112, rv a114, rv a116, rv a118, rv a120, rv s2122, rv s2130, rv s2138, rv a149, rv s2152, rv s2160, .unset, .unset, .unset, .unset, .unset, .unset, .unset, .unset] [(.int rf), (.int ra)] _
          refine XS.ixor X160.here hx rfl (hb hby at_241) rfl ?_
          show own_S p e below T160 m 242 #[iv xp, iv xq, own_lv xs, .second, own_lv xu, .second, iv ra, iv rg, iv ri, iv rf, iv (1 : Int32), rv a108, rv a110, rv a112, rv a114, rv a116, rv a118, rv a120, rv s2122, rv s2130, rv s2138, rv a149, rv s2152, rv s2160, .unset, .unset, .unset, .unset, .unset, .unset, .unset, .unset] [(.int (ra ^^^ rf))] _
          exact kt
        refine own_sp sg171 ?_
        obtain ⟨_, T172, L172, X172, hQ172, st172⟩ := own_callS (y := (⟨"com/example/coverfold/coverfold/UsageSharesTextsOfKindPinLaw", "text", "(I)Ljava/lang/String;"⟩ : MethodName)) X160 hx hZ hown (hw _ (List.mem_of_getElem? (i := 0) rfl)) (hw _ (List.mem_of_getElem? (i := 1) rfl)) (hw _ (List.mem_of_getElem? (i := 2) rfl)) (hw _ (List.mem_of_getElem? (i := 3) rfl)) (by decide) (own_rmtx l Z a0 hw (ra ^^^ rf) cc h160 n0 Z160 SC_160 hcc) e160 (g := (mkF m 242 #[iv xp, iv xq, own_lv xs, .second, own_lv xu, .second, iv ra, iv rg, iv ri, iv rf, iv (1 : Int32), rv a108, rv a110, rv a112, rv a114, rv a116, rv a118, rv a120, rv s2122, rv s2130, rv s2138, rv a149, rv s2152, rv s2160, .unset, .unset, .unset, .unset, .unset, .unset, .unset, .unset] [(.int (ra ^^^ rf))])) rfl (by rw [hml]; rfl) (argsL := [(.int (ra ^^^ rf))]) (rest := []) (lenOf own_pd14 rfl) rfl (W := 0) (by show 2 * 0 + _ ≤ _; exact Nat.le_of_eq rfl) (hb hby at_242) (by decide) (by decide) (by decide) (by decide)
        obtain ⟨a172, b172, rfl, Nq172, K172, sa172, sb172, S172⟩ := hQ172
        refine own_sp st172 ?_
        have Z172 : n0 ≤ T172.heap.size := Nat.le_trans Z160 K172.1
        have kk172 : T149.heap.size ≤ T172.heap.size := Nat.le_trans kk160 K172.1
        have N172 := Fr.app N160 Nq172
        show own_Pk p e below _ T172 (mkF m 245 #[iv xp, iv xq, own_lv xs, .second, own_lv xu, .second, iv ra, iv rg, iv ri, iv rf, iv (1 : Int32), rv a108, rv a110, rv a112, rv a114, rv a116, rv a118, rv a120, rv s2122, rv s2130, rv s2138, rv a149, rv s2152, rv s2160, .unset, .unset, .unset, .unset, .unset, .unset, .unset, .unset] [(.ref a172)])
        have SC_172 := own_Sta.keep SC_160 K172
        have T17_172 := T17_160.keep K172 nin0 nin0
        exact ⟨T172, _, ⟨_, _, a172, b172, rfl, X172, rfl, N172, Z172, ⟨K172, S172, ⟨fun _ => Nat.ne_of_lt (Nat.lt_of_lt_of_le T17_160.lt sa172), fun _ => hc169⟩⟩⟩, fun t k => k⟩
      have sg173 : own_V p e below T160 (mkF m 232 #[iv xp, iv xq, own_lv xs, .second, own_lv xu, .second, iv ra, iv rg, iv ri, iv rf, iv (1 : Int32), rv a108, rv a110, rv a112, rv a114, rv a116, rv a118, rv a120, rv s2122, rv s2130, rv s2138, rv a149, rv s2152, rv s2160, .unset, .unset, .unset, .unset, .unset, .unset, .unset, .unset] []) (mkF m 229 #[iv xp, iv xq, own_lv xs, .second, own_lv xu, .second, iv ra, iv rg, iv ri, iv rf, iv (1 : Int32), rv a108, rv a110, rv a112, rv a114, rv a116, rv a118, rv a120, rv s2122, rv s2130, rv s2138, rv a149, rv s2152, rv s2160, .unset, .unset, .unset, .unset, .unset, .unset, .unset, .unset] [(.int (xp &&& (32 : Int32)))]) := by
        intro t kt
        refine XS.ifNo X160.here hx rfl (hb hby at_229) rfl ((if0 _ _).trans (feq hc169).1) ?_
        exact kt
      refine own_sp sg173 ?_
      have sg174 : own_V p e below T160 (mkF m 245 #[iv xp, iv xq, own_lv xs, .second, own_lv xu, .second, iv ra, iv rg, iv ri, iv rf, iv (1 : Int32), rv a108, rv a110, rv a112, rv a114, rv a116, rv a118, rv a120, rv s2122, rv s2130, rv s2138, rv a149, rv s2152, rv s2160, .unset, .unset, .unset, .unset, .unset, .unset, .unset, .unset] [(.ref a120)]) (mkF m 232 #[iv xp, iv xq, own_lv xs, .second, own_lv xu, .second, iv ra, iv rg, iv ri, iv rf, iv (1 : Int32), rv a108, rv a110, rv a112, rv a114, rv a116, rv a118, rv a120, rv s2122, rv s2130, rv s2138, rv a149, rv s2152, rv s2160, .unset, .unset, .unset, .unset, .unset, .unset, .unset, .unset] []) := by
        intro t kt
        refine XS.aload X160.here hx rfl (hb hby at_232) rfl rfl ?_
        show own_S p e below T160 m 234 #[iv xp, iv xq, own_lv xs, .second, own_lv xu, .second, iv ra, iv rg, iv ri, iv rf, iv (1 : Int32), rv a108, rv a110, rv a112, rv a114, rv a116, rv a118, rv a120, rv s2122, rv s2130, rv s2138, rv a149, rv s2152, rv s2160, .unset, .unset, .unset, .unset, .unset, .unset, .unset, .unset] [(.ref a120)] _
        refine XS.goto X160.here hx rfl (pc0 := 234) (pc' := 245) rfl (hb hby at_234) (by decide) (by decide) ?_
        show own_S p e below T160 m 245 #[iv xp, iv xq, own_lv xs, .second, own_lv xu, .second, iv ra, iv rg, iv ri, iv rf, iv (1 : Int32), rv a108, rv a110, rv a112, rv a114, rv a116, rv a118, rv a120, rv s2122, rv s2130, rv s2138, rv a149, rv s2152, rv s2160, .unset, .unset, .unset, .unset, .unset, .unset, .unset, .unset] [(.ref a120)] _
        exact kt
      refine own_sp sg174 ?_
      have XM := X160.mono (cells' := 42) (slots' := 84) (by decide) (by decide)
      exact ⟨T160, _, ⟨_, _, a120, b120, rfl, XM, e160, N160, Z160, ⟨Keep.refl _ [], T17_160, ⟨fun z => absurd z hc169, fun z => absurd rfl z⟩⟩⟩, fun t k => k⟩
    refine own_st st168 ?_
    show own_Go p e below _ T168 (mkF m 245 #[iv xp, iv xq, own_lv xs, .second, own_lv xu, .second, iv ra, iv rg, iv ri, iv rf, iv (1 : Int32), rv a108, rv a110, rv a112, rv a114, rv a116, rv a118, rv a120, rv s2122, rv s2130, rv s2138, rv a149, rv s2152, rv s2160, .unset, .unset, .unset, .unset, .unset, .unset, .unset, .unset] [(.ref s2168)])
    have SC_168 := own_Sta.keep SC_160 K168
    have T11_168 := T11_160.keep K168 nin0 nin0
    have T12_168 := T12_160.keep K168 nin0 nin0
    have T13_168 := T13_160.keep K168 nin0 nin0
    have T14_168 := T14_160.keep K168 nin0 nin0
    have SL_168 := SL_160.keep K168 nin0 nin0
    have T15_168 := T15_160.keep K168 nin0 nin0
    have T16_168 := T16_160.keep K168 nin0 nin0
    have T17_168 := T17_160.keep K168 nin0 nin0
    have T11b_168 := T11b_160.keep K168 nin0 nin0
    have T12b_168 := T12b_160.keep K168 nin0 nin0
    have T13b_168 := T13b_160.keep K168 nin0 nin0
    have T14b_168 := T14b_160.keep K168 nin0 nin0
    have T15b_168 := T15b_160.keep K168 nin0 nin0
    have T16b_168 := S160.keep K168 nin0 nin0
    have kk168 : T149.heap.size ≤ h168.size := Nat.le_trans kk160 K168.1
    have sg175 : own_V p e below T168 (mkF m 251 #[iv xp, iv xq, own_lv xs, .second, own_lv xu, .second, iv ra, iv rg, iv ri, iv rf, iv (1 : Int32), rv a108, rv a110, rv a112, rv a114, rv a116, rv a118, rv a120, rv s2122, rv s2130, rv s2138, rv a149, rv s2152, rv s2160, rv s2168, .unset, .unset, .unset, .unset, .unset, .unset, .unset] [(.long (9223372036854775806 : Int64)), (.long xs)]) (mkF m 245 #[iv xp, iv xq, own_lv xs, .second, own_lv xu, .second, iv ra, iv rg, iv ri, iv rf, iv (1 : Int32), rv a108, rv a110, rv a112, rv a114, rv a116, rv a118, rv a120, rv s2122, rv s2130, rv s2138, rv a149, rv s2152, rv s2160, .unset, .unset, .unset, .unset, .unset, .unset, .unset, .unset] [(.ref s2168)]) := by
      intro t kt
      refine XS.astore X168.here hx rfl (hb hby at_245) rfl rfl (l' := #[iv xp, iv xq, own_lv xs, .second, own_lv xu, .second, iv ra, iv rg, iv ri, iv rf, iv (1 : Int32), rv a108, rv a110, rv a112, rv a114, rv a116, rv a118, rv a120, rv s2122, rv s2130, rv s2138, rv a149, rv s2152, rv s2160, rv s2168, .unset, .unset, .unset, .unset, .unset, .unset, .unset]) rfl ?_
      show own_S p e below T168 m 247 #[iv xp, iv xq, own_lv xs, .second, own_lv xu, .second, iv ra, iv rg, iv ri, iv rf, iv (1 : Int32), rv a108, rv a110, rv a112, rv a114, rv a116, rv a118, rv a120, rv s2122, rv s2130, rv s2138, rv a149, rv s2152, rv s2160, rv s2168, .unset, .unset, .unset, .unset, .unset, .unset, .unset] [] _
      refine XS.lloadN X168.here hx rfl (hb hby at_247) rfl ?_
      show own_S p e below T168 m 248 #[iv xp, iv xq, own_lv xs, .second, own_lv xu, .second, iv ra, iv rg, iv ri, iv rf, iv (1 : Int32), rv a108, rv a110, rv a112, rv a114, rv a116, rv a118, rv a120, rv s2122, rv s2130, rv s2138, rv a149, rv s2152, rv s2160, rv s2168, .unset, .unset, .unset, .unset, .unset, .unset, .unset] [(.long xs)] _
      refine X168.ldc2Long hx hown (mvT hZ (hw _ (List.mem_of_getElem? (i := 37) rfl))) (g := (mkF m 248 #[iv xp, iv xq, own_lv xs, .second, own_lv xu, .second, iv ra, iv rg, iv ri, iv rf, iv (1 : Int32), rv a108, rv a110, rv a112, rv a114, rv a116, rv a118, rv a120, rv s2122, rv s2130, rv s2138, rv a149, rv s2152, rv s2160, rv s2168, .unset, .unset, .unset, .unset, .unset, .unset, .unset] [(.long xs)])) rfl (hb hby at_248) _ ?_
      show own_S p e below T168 m 251 #[iv xp, iv xq, own_lv xs, .second, own_lv xu, .second, iv ra, iv rg, iv ri, iv rf, iv (1 : Int32), rv a108, rv a110, rv a112, rv a114, rv a116, rv a118, rv a120, rv s2122, rv s2130, rv s2138, rv a149, rv s2152, rv s2160, rv s2168, .unset, .unset, .unset, .unset, .unset, .unset, .unset] [(.long (9223372036854775806 : Int64)), (.long xs)] _
      exact kt
    refine own_st sg175 ?_
    obtain ⟨_, T176, L176, X176, hQ176, st176⟩ := own_callS (y := (⟨"java/lang/Math", "min", "(JJ)J"⟩ : MethodName)) X168 hx hZ hown (hw _ (List.mem_of_getElem? (i := 38) rfl)) (hw _ (List.mem_of_getElem? (i := 39) rfl)) (hw _ (List.mem_of_getElem? (i := 40) rfl)) (hw _ (List.mem_of_getElem? (i := 41) rfl)) (by decide) (own_rmmin l Z a0 hw xs (9223372036854775806 : Int64) h168 n0 Z168) e168 (g := (mkF m 251 #[iv xp, iv xq, own_lv xs, .second, own_lv xu, .second, iv ra, iv rg, iv ri, iv rf, iv (1 : Int32), rv a108, rv a110, rv a112, rv a114, rv a116, rv a118, rv a120, rv s2122, rv s2130, rv s2138, rv a149, rv s2152, rv s2160, rv s2168, .unset, .unset, .unset, .unset, .unset, .unset, .unset] [(.long (9223372036854775806 : Int64)), (.long xs)])) rfl (by rw [hml]; rfl) (argsL := [(.long xs), (.long (9223372036854775806 : Int64))]) (rest := []) (lenOf own_pd16 rfl) rfl (W := 0) (by show 2 * 0 + _ ≤ _; exact Nat.le_of_eq rfl) (hb hby at_251) (by decide) (by decide) (by decide) (by decide)
    obtain ⟨rfl, Nq176, e176⟩ := hQ176
    refine own_st st176 ?_
    have N176 := Fr.app N168 Nq176
    show own_Go p e below _ T176 (mkF m 254 #[iv xp, iv xq, own_lv xs, .second, own_lv xu, .second, iv ra, iv rg, iv ri, iv rf, iv (1 : Int32), rv a108, rv a110, rv a112, rv a114, rv a116, rv a118, rv a120, rv s2122, rv s2130, rv s2138, rv a149, rv s2152, rv s2160, rv s2168, .unset, .unset, .unset, .unset, .unset, .unset, .unset] [(.long (own_min xs (9223372036854775806 : Int64)))])
    have sg177 : own_V p e below T176 (mkF m 261 #[iv xp, iv xq, own_lv xs, .second, own_lv xu, .second, iv ra, iv rg, iv ri, iv rf, iv (1 : Int32), rv a108, rv a110, rv a112, rv a114, rv a116, rv a118, rv a120, rv s2122, rv s2130, rv s2138, rv a149, rv s2152, rv s2160, rv s2168, own_lv (own_min xs (9223372036854775806 : Int64)), .second, .unset, .unset, .unset, .unset, .unset] [(.long (9223372036854775806 : Int64)), (.long xu)]) (mkF m 254 #[iv xp, iv xq, own_lv xs, .second, own_lv xu, .second, iv ra, iv rg, iv ri, iv rf, iv (1 : Int32), rv a108, rv a110, rv a112, rv a114, rv a116, rv a118, rv a120, rv s2122, rv s2130, rv s2138, rv a149, rv s2152, rv s2160, rv s2168, .unset, .unset, .unset, .unset, .unset, .unset, .unset] [(.long (own_min xs (9223372036854775806 : Int64)))]) := by
      intro t kt
      refine XS.lstore X176.here hx rfl (hb hby at_254) rfl (l' := #[iv xp, iv xq, own_lv xs, .second, own_lv xu, .second, iv ra, iv rg, iv ri, iv rf, iv (1 : Int32), rv a108, rv a110, rv a112, rv a114, rv a116, rv a118, rv a120, rv s2122, rv s2130, rv s2138, rv a149, rv s2152, rv s2160, rv s2168, own_lv (own_min xs (9223372036854775806 : Int64)), .second, .unset, .unset, .unset, .unset, .unset]) rfl ?_
      show own_S p e below T176 m 256 #[iv xp, iv xq, own_lv xs, .second, own_lv xu, .second, iv ra, iv rg, iv ri, iv rf, iv (1 : Int32), rv a108, rv a110, rv a112, rv a114, rv a116, rv a118, rv a120, rv s2122, rv s2130, rv s2138, rv a149, rv s2152, rv s2160, rv s2168, own_lv (own_min xs (9223372036854775806 : Int64)), .second, .unset, .unset, .unset, .unset, .unset] [] _
      refine XS.lload X176.here hx rfl (hb hby at_256) rfl ?_
      show own_S p e below T176 m 258 #[iv xp, iv xq, own_lv xs, .second, own_lv xu, .second, iv ra, iv rg, iv ri, iv rf, iv (1 : Int32), rv a108, rv a110, rv a112, rv a114, rv a116, rv a118, rv a120, rv s2122, rv s2130, rv s2138, rv a149, rv s2152, rv s2160, rv s2168, own_lv (own_min xs (9223372036854775806 : Int64)), .second, .unset, .unset, .unset, .unset, .unset] [(.long xu)] _
      refine X176.ldc2Long hx hown (mvT hZ (hw _ (List.mem_of_getElem? (i := 37) rfl))) (g := (mkF m 258 #[iv xp, iv xq, own_lv xs, .second, own_lv xu, .second, iv ra, iv rg, iv ri, iv rf, iv (1 : Int32), rv a108, rv a110, rv a112, rv a114, rv a116, rv a118, rv a120, rv s2122, rv s2130, rv s2138, rv a149, rv s2152, rv s2160, rv s2168, own_lv (own_min xs (9223372036854775806 : Int64)), .second, .unset, .unset, .unset, .unset, .unset] [(.long xu)])) rfl (hb hby at_258) _ ?_
      show own_S p e below T176 m 261 #[iv xp, iv xq, own_lv xs, .second, own_lv xu, .second, iv ra, iv rg, iv ri, iv rf, iv (1 : Int32), rv a108, rv a110, rv a112, rv a114, rv a116, rv a118, rv a120, rv s2122, rv s2130, rv s2138, rv a149, rv s2152, rv s2160, rv s2168, own_lv (own_min xs (9223372036854775806 : Int64)), .second, .unset, .unset, .unset, .unset, .unset] [(.long (9223372036854775806 : Int64)), (.long xu)] _
      exact kt
    refine own_st sg177 ?_
    obtain ⟨_, T178, L178, X178, hQ178, st178⟩ := own_callS (y := (⟨"java/lang/Math", "min", "(JJ)J"⟩ : MethodName)) X176 hx hZ hown (hw _ (List.mem_of_getElem? (i := 38) rfl)) (hw _ (List.mem_of_getElem? (i := 39) rfl)) (hw _ (List.mem_of_getElem? (i := 40) rfl)) (hw _ (List.mem_of_getElem? (i := 41) rfl)) (by decide) (own_rmmin l Z a0 hw xu (9223372036854775806 : Int64) h168 n0 Z168) e176 (g := (mkF m 261 #[iv xp, iv xq, own_lv xs, .second, own_lv xu, .second, iv ra, iv rg, iv ri, iv rf, iv (1 : Int32), rv a108, rv a110, rv a112, rv a114, rv a116, rv a118, rv a120, rv s2122, rv s2130, rv s2138, rv a149, rv s2152, rv s2160, rv s2168, own_lv (own_min xs (9223372036854775806 : Int64)), .second, .unset, .unset, .unset, .unset, .unset] [(.long (9223372036854775806 : Int64)), (.long xu)])) rfl (by rw [hml]; rfl) (argsL := [(.long xu), (.long (9223372036854775806 : Int64))]) (rest := []) (lenOf own_pd16 rfl) rfl (W := 0) (by show 2 * 0 + _ ≤ _; exact Nat.le_of_eq rfl) (hb hby at_261) (by decide) (by decide) (by decide) (by decide)
    obtain ⟨rfl, Nq178, e178⟩ := hQ178
    refine own_st st178 ?_
    have N178 := Fr.app N176 Nq178
    show own_Go p e below _ T178 (mkF m 264 #[iv xp, iv xq, own_lv xs, .second, own_lv xu, .second, iv ra, iv rg, iv ri, iv rf, iv (1 : Int32), rv a108, rv a110, rv a112, rv a114, rv a116, rv a118, rv a120, rv s2122, rv s2130, rv s2138, rv a149, rv s2152, rv s2160, rv s2168, own_lv (own_min xs (9223372036854775806 : Int64)), .second, .unset, .unset, .unset, .unset, .unset] [(.long (own_min xu (9223372036854775806 : Int64)))])
    have sg179 : own_V p e below T178 (mkF m 266 #[iv xp, iv xq, own_lv xs, .second, own_lv xu, .second, iv ra, iv rg, iv ri, iv rf, iv (1 : Int32), rv a108, rv a110, rv a112, rv a114, rv a116, rv a118, rv a120, rv s2122, rv s2130, rv s2138, rv a149, rv s2152, rv s2160, rv s2168, own_lv (own_min xs (9223372036854775806 : Int64)), .second, own_lv (own_min xu (9223372036854775806 : Int64)), .second, .unset, .unset, .unset] []) (mkF m 264 #[iv xp, iv xq, own_lv xs, .second, own_lv xu, .second, iv ra, iv rg, iv ri, iv rf, iv (1 : Int32), rv a108, rv a110, rv a112, rv a114, rv a116, rv a118, rv a120, rv s2122, rv s2130, rv s2138, rv a149, rv s2152, rv s2160, rv s2168, own_lv (own_min xs (9223372036854775806 : Int64)), .second, .unset, .unset, .unset, .unset, .unset] [(.long (own_min xu (9223372036854775806 : Int64)))]) := by
      intro t kt
      refine XS.lstore X178.here hx rfl (hb hby at_264) rfl (l' := #[iv xp, iv xq, own_lv xs, .second, own_lv xu, .second, iv ra, iv rg, iv ri, iv rf, iv (1 : Int32), rv a108, rv a110, rv a112, rv a114, rv a116, rv a118, rv a120, rv s2122, rv s2130, rv s2138, rv a149, rv s2152, rv s2160, rv s2168, own_lv (own_min xs (9223372036854775806 : Int64)), .second, own_lv (own_min xu (9223372036854775806 : Int64)), .second, .unset, .unset, .unset]) rfl ?_
      show own_S p e below T178 m 266 #[iv xp, iv xq, own_lv xs, .second, own_lv xu, .second, iv ra, iv rg, iv ri, iv rf, iv (1 : Int32), rv a108, rv a110, rv a112, rv a114, rv a116, rv a118, rv a120, rv s2122, rv s2130, rv s2138, rv a149, rv s2152, rv s2160, rv s2168, own_lv (own_min xs (9223372036854775806 : Int64)), .second, own_lv (own_min xu (9223372036854775806 : Int64)), .second, .unset, .unset, .unset] [] _
      exact kt
    refine own_st sg179 ?_
    obtain ⟨T180, h180, X180, e180, E180, A180, D180, -, st180⟩ := newO X178 hx hZ hown (hw _ (List.mem_of_getElem? (i := 42) rfl)) (hw _ (List.mem_of_getElem? (i := 43) rfl)) (hw _ (List.mem_of_getElem? (i := 44) rfl)) e178 (g := (mkF m 266 #[iv xp, iv xq, own_lv xs, .second, own_lv xu, .second, iv ra, iv rg, iv ri, iv rf, iv (1 : Int32), rv a108, rv a110, rv a112, rv a114, rv a116, rv a118, rv a120, rv s2122, rv s2130, rv s2138, rv a149, rv s2152, rv s2160, rv s2168, own_lv (own_min xs (9223372036854775806 : Int64)), .second, own_lv (own_min xu (9223372036854775806 : Int64)), .second, .unset, .unset, .unset] [])) rfl (hb hby at_266) (by decide) (by decide)
    obtain ⟨a180, g180⟩ : ∃ z, z = h168.size := ⟨_, rfl⟩
    rw [← g180] at A180 D180 st180
    refine own_st st180 ?_
    have g_a180 : n0 ≤ a180 := by rw [g180]; exact Z168
    have Z180 : n0 ≤ h180.size := Nat.le_trans Z168 E180.1
    have kk180 : T149.heap.size ≤ h180.size := Nat.le_trans kk168 E180.1
    show own_Go p e below _ T180 (mkF m 269 #[iv xp, iv xq, own_lv xs, .second, own_lv xu, .second, iv ra, iv rg, iv ri, iv rf, iv (1 : Int32), rv a108, rv a110, rv a112, rv a114, rv a116, rv a118, rv a120, rv s2122, rv s2130, rv s2138, rv a149, rv s2152, rv s2160, rv s2168, own_lv (own_min xs (9223372036854775806 : Int64)), .second, own_lv (own_min xu (9223372036854775806 : Int64)), .second, .unset, .unset, .unset] [(.ref a180)])
    have szu180 : h168.size ≤ a180 := Nat.le_of_eq g180.symm
    have KE180 : Keep h168 h180 [] := (Keep.refl h168 []).ext E180
    have SC_180 := own_Sta.keep SC_168 KE180
    have T11_180 := T11_168.keep KE180 nin0 nin0
    have T12_180 := T12_168.keep KE180 nin0 nin0
    have T13_180 := T13_168.keep KE180 nin0 nin0
    have T14_180 := T14_168.keep KE180 nin0 nin0
    have SL_180 := SL_168.keep KE180 nin0 nin0
    have T15_180 := T15_168.keep KE180 nin0 nin0
    have T16_180 := T16_168.keep KE180 nin0 nin0
    have T17_180 := T17_168.keep KE180 nin0 nin0
    have T11b_180 := T11b_168.keep KE180 nin0 nin0
    have T12b_180 := T12b_168.keep KE180 nin0 nin0
    have T13b_180 := T13b_168.keep KE180 nin0 nin0
    have T14b_180 := T14b_168.keep KE180 nin0 nin0
    have T15b_180 := T15b_168.keep KE180 nin0 nin0
    have T16b_180 := T16b_168.keep KE180 nin0 nin0
    have T17b_180 := S168.keep KE180 nin0 nin0
    have FinstanceId180 : Fld Z h180 a180 "com/example/coverfold/coverfold/Usage" "instanceId" "Ljava/lang/String;" .null := D180 (Or.inr (hw _ (List.mem_of_getElem? (i := 90) rfl))) (ty := (.object "java/lang/String")) (by decide)
    have Faccount180 : Fld Z h180 a180 "com/example/coverfold/coverfold/Usage" "account" "Ljava/lang/String;" .null := D180 (Or.inr (hw _ (List.mem_of_getElem? (i := 92) rfl))) (ty := (.object "java/lang/String")) (by decide)
    have Fregion180 : Fld Z h180 a180 "com/example/coverfold/coverfold/Usage" "region" "Ljava/lang/String;" .null := D180 (Or.inr (hw _ (List.mem_of_getElem? (i := 94) rfl))) (ty := (.object "java/lang/String")) (by decide)
    have Fzone180 : Fld Z h180 a180 "com/example/coverfold/coverfold/Usage" "zone" "Ljava/lang/String;" .null := D180 (Or.inr (hw _ (List.mem_of_getElem? (i := 96) rfl))) (ty := (.object "java/lang/String")) (by decide)
    have FinstanceType180 : Fld Z h180 a180 "com/example/coverfold/coverfold/Usage" "instanceType" "Ljava/lang/String;" .null := D180 (Or.inr (hw _ (List.mem_of_getElem? (i := 98) rfl))) (ty := (.object "java/lang/String")) (by decide)
    have Fplatform180 : Fld Z h180 a180 "com/example/coverfold/coverfold/Usage" "platform" "Ljava/lang/String;" .null := D180 (Or.inr (hw _ (List.mem_of_getElem? (i := 100) rfl))) (ty := (.object "java/lang/String")) (by decide)
    have Ftenancy180 : Fld Z h180 a180 "com/example/coverfold/coverfold/Usage" "tenancy" "Ljava/lang/String;" .null := D180 (Or.inr (hw _ (List.mem_of_getElem? (i := 102) rfl))) (ty := (.object "java/lang/String")) (by decide)
    have Fstart180 : Fld Z h180 a180 "com/example/coverfold/coverfold/Usage" "start" "J" (.long (0 : Int64)) := D180 (Or.inr (hw _ (List.mem_of_getElem? (i := 104) rfl))) (ty := .long) (by decide)
    have Fend180 : Fld Z h180 a180 "com/example/coverfold/coverfold/Usage" "end" "J" (.long (0 : Int64)) := D180 (Or.inr (hw _ (List.mem_of_getElem? (i := 106) rfl))) (ty := .long) (by decide)
    have FpartSeconds180 : Fld Z h180 a180 "com/example/coverfold/coverfold/Usage" "partSeconds" "Lcom/example/coverfold/coverfold/Rational;" .null := D180 (Or.inr (hw _ (List.mem_of_getElem? (i := 108) rfl))) (ty := (.object "com/example/coverfold/coverfold/Rational")) (by decide)
    have sg181 : own_V p e below T180 (mkF m 290 #[iv xp, iv xq, own_lv xs, .second, own_lv xu, .second, iv ra, iv rg, iv ri, iv rf, iv (1 : Int32), rv a108, rv a110, rv a112, rv a114, rv a116, rv a118, rv a120, rv s2122, rv s2130, rv s2138, rv a149, rv s2152, rv s2160, rv s2168, own_lv (own_min xs (9223372036854775806 : Int64)), .second, own_lv (own_min xu (9223372036854775806 : Int64)), .second, .unset, .unset, .unset] [(.long ((own_min xs (9223372036854775806 : Int64)) + (1 : Int64))), (.long (own_min xs (9223372036854775806 : Int64))), (.ref a120), (.ref a118), (.ref a116), (.ref a114), (.ref a112), (.ref a110), (.ref a108), (.ref a180), (.ref a180)]) (mkF m 269 #[iv xp, iv xq, own_lv xs, .second, own_lv xu, .second, iv ra, iv rg, iv ri, iv rf, iv (1 : Int32), rv a108, rv a110, rv a112, rv a114, rv a116, rv a118, rv a120, rv s2122, rv s2130, rv s2138, rv a149, rv s2152, rv s2160, rv s2168, own_lv (own_min xs (9223372036854775806 : Int64)), .second, own_lv (own_min xu (9223372036854775806 : Int64)), .second, .unset, .unset, .unset] [(.ref a180)]) := by
      intro t kt
      refine XS.dup X180.here hx rfl (hb hby at_269) rfl rfl ?_
      show own_S p e below T180 m 270 #[iv xp, iv xq, own_lv xs, .second, own_lv xu, .second, iv ra, iv rg, iv ri, iv rf, iv (1 : Int32), rv a108, rv a110, rv a112, rv a114, rv a116, rv a118, rv a120, rv s2122, rv s2130, rv s2138, rv a149, rv s2152, rv s2160, rv s2168, own_lv (own_min xs (9223372036854775806 : Int64)), .second, own_lv (own_min xu (9223372036854775806 : Int64)), .second, .unset, .unset, .unset] [(.ref a180), (.ref a180)] _
      refine XS.aload X180.here hx rfl (hb hby at_270) rfl rfl ?_
      show own_S p e below T180 m 272 #[iv xp, iv xq, own_lv xs, .second, own_lv xu, .second, iv ra, iv rg, iv ri, iv rf, iv (1 : Int32), rv a108, rv a110, rv a112, rv a114, rv a116, rv a118, rv a120, rv s2122, rv s2130, rv s2138, rv a149, rv s2152, rv s2160, rv s2168, own_lv (own_min xs (9223372036854775806 : Int64)), .second, own_lv (own_min xu (9223372036854775806 : Int64)), .second, .unset, .unset, .unset] [(.ref a108), (.ref a180), (.ref a180)] _
      refine XS.aload X180.here hx rfl (hb hby at_272) rfl rfl ?_
      show own_S p e below T180 m 274 #[iv xp, iv xq, own_lv xs, .second, own_lv xu, .second, iv ra, iv rg, iv ri, iv rf, iv (1 : Int32), rv a108, rv a110, rv a112, rv a114, rv a116, rv a118, rv a120, rv s2122, rv s2130, rv s2138, rv a149, rv s2152, rv s2160, rv s2168, own_lv (own_min xs (9223372036854775806 : Int64)), .second, own_lv (own_min xu (9223372036854775806 : Int64)), .second, .unset, .unset, .unset] [(.ref a110), (.ref a108), (.ref a180), (.ref a180)] _
      refine XS.aload X180.here hx rfl (hb hby at_274) rfl rfl ?_
      show own_S p e below T180 m 276 #[iv xp, iv xq, own_lv xs, .second, own_lv xu, .second, iv ra, iv rg, iv ri, iv rf, iv (1 : Int32), rv a108, rv a110, rv a112, rv a114, rv a116, rv a118, rv a120, rv s2122, rv s2130, rv s2138, rv a149, rv s2152, rv s2160, rv s2168, own_lv (own_min xs (9223372036854775806 : Int64)), .second, own_lv (own_min xu (9223372036854775806 : Int64)), .second, .unset, .unset, .unset] [(.ref a112), (.ref a110), (.ref a108), (.ref a180), (.ref a180)] _
      refine XS.aload X180.here hx rfl (hb hby at_276) rfl rfl ?_
      show own_S p e below T180 m 278 #[iv xp, iv xq, own_lv xs, .second, own_lv xu, .second, iv ra, iv rg, iv ri, iv rf, iv (1 : Int32), rv a108, rv a110, rv a112, rv a114, rv a116, rv a118, rv a120, rv s2122, rv s2130, rv s2138, rv a149, rv s2152, rv s2160, rv s2168, own_lv (own_min xs (9223372036854775806 : Int64)), .second, own_lv (own_min xu (9223372036854775806 : Int64)), .second, .unset, .unset, .unset] [(.ref a114), (.ref a112), (.ref a110), (.ref a108), (.ref a180), (.ref a180)] _
      refine XS.aload X180.here hx rfl (hb hby at_278) rfl rfl ?_
      show own_S p e below T180 m 280 #[iv xp, iv xq, own_lv xs, .second, own_lv xu, .second, iv ra, iv rg, iv ri, iv rf, iv (1 : Int32), rv a108, rv a110, rv a112, rv a114, rv a116, rv a118, rv a120, rv s2122, rv s2130, rv s2138, rv a149, rv s2152, rv s2160, rv s2168, own_lv (own_min xs (9223372036854775806 : Int64)), .second, own_lv (own_min xu (9223372036854775806 : Int64)), .second, .unset, .unset, .unset] [(.ref a116), (.ref a114), (.ref a112), (.ref a110), (.ref a108), (.ref a180), (.ref a180)] _
      refine XS.aload X180.here hx rfl (hb hby at_280) rfl rfl ?_
      show own_S p e below T180 m 282 #[iv xp, iv xq, own_lv xs, .second, own_lv xu, .second, iv ra, iv rg, iv ri, iv rf, iv (1 : Int32), rv a108, rv a110, rv a112, rv a114, rv a116, rv a118, rv a120, rv s2122, rv s2130, rv s2138, rv a149, rv s2152, rv s2160, rv s2168, own_lv (own_min xs (9223372036854775806 : Int64)), .second, own_lv (own_min xu (9223372036854775806 : Int64)), .second, .unset, .unset, .unset] [(.ref a118), (.ref a116), (.ref a114), (.ref a112), (.ref a110), (.ref a108), (.ref a180), (.ref a180)] _
      refine XS.aload X180.here hx rfl (hb hby at_282) rfl rfl ?_
      show own_S p e below T180 m 284 #[iv xp, iv xq, own_lv xs, .second, own_lv xu, .second, iv ra, iv rg, iv ri, iv rf, iv (1 : Int32), rv a108, rv a110, rv a112, rv a114, rv a116, rv a118, rv a120, rv s2122, rv s2130, rv s2138, rv a149, rv s2152, rv s2160, rv s2168, own_lv (own_min xs (9223372036854775806 : Int64)), .second, own_lv (own_min xu (9223372036854775806 : Int64)), .second, .unset, .unset, .unset] [(.ref a120), (.ref a118), (.ref a116), (.ref a114), (.ref a112), (.ref a110), (.ref a108), (.ref a180), (.ref a180)] _
      refine XS.lload X180.here hx rfl (hb hby at_284) rfl ?_
      show own_S p e below T180 m 286 #[iv xp, iv xq, own_lv xs, .second, own_lv xu, .second, iv ra, iv rg, iv ri, iv rf, iv (1 : Int32), rv a108, rv a110, rv a112, rv a114, rv a116, rv a118, rv a120, rv s2122, rv s2130, rv s2138, rv a149, rv s2152, rv s2160, rv s2168, own_lv (own_min xs (9223372036854775806 : Int64)), .second, own_lv (own_min xu (9223372036854775806 : Int64)), .second, .unset, .unset, .unset] [(.long (own_min xs (9223372036854775806 : Int64))), (.ref a120), (.ref a118), (.ref a116), (.ref a114), (.ref a112), (.ref a110), (.ref a108), (.ref a180), (.ref a180)] _
      refine XS.lload X180.here hx rfl (hb hby at_286) rfl ?_
      show own_S p e below T180 m 288 #[iv xp, iv xq, own_lv xs, .second, own_lv xu, .second, iv ra, iv rg, iv ri, iv rf, iv (1 : Int32), rv a108, rv a110, rv a112, rv a114, rv a116, rv a118, rv a120, rv s2122, rv s2130, rv s2138, rv a149, rv s2152, rv s2160, rv s2168, own_lv (own_min xs (9223372036854775806 : Int64)), .second, own_lv (own_min xu (9223372036854775806 : Int64)), .second, .unset, .unset, .unset] [(.long (own_min xs (9223372036854775806 : Int64))), (.long (own_min xs (9223372036854775806 : Int64))), (.ref a120), (.ref a118), (.ref a116), (.ref a114), (.ref a112), (.ref a110), (.ref a108), (.ref a180), (.ref a180)] _
      refine XS.lconst X180.here hx rfl (hb hby at_288) ?_
      show own_S p e below T180 m 289 #[iv xp, iv xq, own_lv xs, .second, own_lv xu, .second, iv ra, iv rg, iv ri, iv rf, iv (1 : Int32), rv a108, rv a110, rv a112, rv a114, rv a116, rv a118, rv a120, rv s2122, rv s2130, rv s2138, rv a149, rv s2152, rv s2160, rv s2168, own_lv (own_min xs (9223372036854775806 : Int64)), .second, own_lv (own_min xu (9223372036854775806 : Int64)), .second, .unset, .unset, .unset] [(.long (1 : Int64)), (.long (own_min xs (9223372036854775806 : Int64))), (.long (own_min xs (9223372036854775806 : Int64))), (.ref a120), (.ref a118), (.ref a116), (.ref a114), (.ref a112), (.ref a110), (.ref a108), (.ref a180), (.ref a180)] _
      refine XS.ladd X180.here hx rfl (hb hby at_289) rfl ?_
      show own_S p e below T180 m 290 #[iv xp, iv xq, own_lv xs, .second, own_lv xu, .second, iv ra, iv rg, iv ri, iv rf, iv (1 : Int32), rv a108, rv a110, rv a112, rv a114, rv a116, rv a118, rv a120, rv s2122, rv s2130, rv s2138, rv a149, rv s2152, rv s2160, rv s2168, own_lv (own_min xs (9223372036854775806 : Int64)), .second, own_lv (own_min xu (9223372036854775806 : Int64)), .second, .unset, .unset, .unset] [(.long ((own_min xs (9223372036854775806 : Int64)) + (1 : Int64))), (.long (own_min xs (9223372036854775806 : Int64))), (.ref a120), (.ref a118), (.ref a116), (.ref a114), (.ref a112), (.ref a110), (.ref a108), (.ref a180), (.ref a180)] _
      exact kt
    refine own_st sg181 ?_
    obtain ⟨_, T182, L182, X182, hQ182, st182⟩ := own_callI (y := (⟨"com/example/coverfold/coverfold/Usage", "<init>", "(Ljava/lang/String;Ljava/lang/String;Ljava/lang/String;Ljava/lang/String;Ljava/lang/String;Ljava/lang/String;Ljava/lang/String;JJ)V"⟩ : MethodName)) (a := a180) X180 hx hZ hown rfl (hw _ (List.mem_of_getElem? (i := 45) rfl)) (hw _ (List.mem_of_getElem? (i := 46) rfl)) (hw _ (List.mem_of_getElem? (i := 44) rfl)) (hw _ (List.mem_of_getElem? (i := 47) rfl)) (by decide) (own_rmus9_0 l Z a0 hw a180 a108 a110 a112 a114 a116 a118 a120 (own_min xs (9223372036854775806 : Int64)) ((own_min xs (9223372036854775806 : Int64)) + (1 : Int64)) b114 (fun _ => 0) h180 n0 Z180 T14_180 A180 FinstanceId180 Faccount180 Fregion180 Fzone180 FinstanceType180 Fplatform180 Ftenancy180 Fstart180 Fend180 FpartSeconds180 g_a180 (own_min_lt xs)) e180 (g := (mkF m 290 #[iv xp, iv xq, own_lv xs, .second, own_lv xu, .second, iv ra, iv rg, iv ri, iv rf, iv (1 : Int32), rv a108, rv a110, rv a112, rv a114, rv a116, rv a118, rv a120, rv s2122, rv s2130, rv s2138, rv a149, rv s2152, rv s2160, rv s2168, own_lv (own_min xs (9223372036854775806 : Int64)), .second, own_lv (own_min xu (9223372036854775806 : Int64)), .second, .unset, .unset, .unset] [(.long ((own_min xs (9223372036854775806 : Int64)) + (1 : Int64))), (.long (own_min xs (9223372036854775806 : Int64))), (.ref a120), (.ref a118), (.ref a116), (.ref a114), (.ref a112), (.ref a110), (.ref a108), (.ref a180), (.ref a180)])) rfl (by rw [hml]; rfl) (argsL := [(.ref a108), (.ref a110), (.ref a112), (.ref a114), (.ref a116), (.ref a118), (.ref a120), (.long (own_min xs (9223372036854775806 : Int64))), (.long ((own_min xs (9223372036854775806 : Int64)) + (1 : Int64)))]) (rest := [(.ref a180)]) (lenOf own_pd17 rfl) rfl (W := 1) (by show 2 * 0 + _ ≤ _; exact Nat.le_of_eq rfl) (hb hby at_290) (by decide) (by decide) (by decide) (by decide)
    obtain ⟨rfl, Nq182, R182⟩ := hQ182
    refine own_st st182 ?_
    have Z182 : n0 ≤ T182.heap.size := Nat.le_trans Z180 R182.1.1
    have kk182 : T149.heap.size ≤ T182.heap.size := Nat.le_trans kk180 R182.1.1
    have N182 := Fr.app N178 Nq182
    show own_Go p e below _ T182 (mkF m 293 #[iv xp, iv xq, own_lv xs, .second, own_lv xu, .second, iv ra, iv rg, iv ri, iv rf, iv (1 : Int32), rv a108, rv a110, rv a112, rv a114, rv a116, rv a118, rv a120, rv s2122, rv s2130, rv s2138, rv a149, rv s2152, rv s2160, rv s2168, own_lv (own_min xs (9223372036854775806 : Int64)), .second, own_lv (own_min xu (9223372036854775806 : Int64)), .second, .unset, .unset, .unset] [(.ref a180)])
    have KU182 : Keep h168 T182.heap [] := KE180.trans R182.1 (allS (Or.inr szu180) all0)
    have SC_182 := own_Sta.keep SC_168 KU182
    have T11_182 := T11_168.keep KU182 nin0 nin0
    have T12_182 := T12_168.keep KU182 nin0 nin0
    have T13_182 := T13_168.keep KU182 nin0 nin0
    have T14_182 := T14_168.keep KU182 nin0 nin0
    have SL_182 := SL_168.keep KU182 nin0 nin0
    have T15_182 := T15_168.keep KU182 nin0 nin0
    have T16_182 := T16_168.keep KU182 nin0 nin0
    have T17_182 := T17_168.keep KU182 nin0 nin0
    have T11b_182 := T11b_168.keep KU182 nin0 nin0
    have T12b_182 := T12b_168.keep KU182 nin0 nin0
    have T13b_182 := T13b_168.keep KU182 nin0 nin0
    have T14b_182 := T14b_168.keep KU182 nin0 nin0
    have T15b_182 := T15b_168.keep KU182 nin0 nin0
    have T16b_182 := T16b_168.keep KU182 nin0 nin0
    have T17b_182 := S168.keep KU182 nin0 nin0
    have sg183 : own_V p e below T182 (mkF m 295 #[iv xp, iv xq, own_lv xs, .second, own_lv xu, .second, iv ra, iv rg, iv ri, iv rf, iv (1 : Int32), rv a108, rv a110, rv a112, rv a114, rv a116, rv a118, rv a120, rv s2122, rv s2130, rv s2138, rv a149, rv s2152, rv s2160, rv s2168, own_lv (own_min xs (9223372036854775806 : Int64)), .second, own_lv (own_min xu (9223372036854775806 : Int64)), .second, rv a180, .unset, .unset] []) (mkF m 293 #[iv xp, iv xq, own_lv xs, .second, own_lv xu, .second, iv ra, iv rg, iv ri, iv rf, iv (1 : Int32), rv a108, rv a110, rv a112, rv a114, rv a116, rv a118, rv a120, rv s2122, rv s2130, rv s2138, rv a149, rv s2152, rv s2160, rv s2168, own_lv (own_min xs (9223372036854775806 : Int64)), .second, own_lv (own_min xu (9223372036854775806 : Int64)), .second, .unset, .unset, .unset] [(.ref a180)]) := by
      intro t kt
      refine XS.astore X182.here hx rfl (hb hby at_293) rfl rfl (l' := #[iv xp, iv xq, own_lv xs, .second, own_lv xu, .second, iv ra, iv rg, iv ri, iv rf, iv (1 : Int32), rv a108, rv a110, rv a112, rv a114, rv a116, rv a118, rv a120, rv s2122, rv s2130, rv s2138, rv a149, rv s2152, rv s2160, rv s2168, own_lv (own_min xs (9223372036854775806 : Int64)), .second, own_lv (own_min xu (9223372036854775806 : Int64)), .second, rv a180, .unset, .unset]) rfl ?_
      show own_S p e below T182 m 295 #[iv xp, iv xq, own_lv xs, .second, own_lv xu, .second, iv ra, iv rg, iv ri, iv rf, iv (1 : Int32), rv a108, rv a110, rv a112, rv a114, rv a116, rv a118, rv a120, rv s2122, rv s2130, rv s2138, rv a149, rv s2152, rv s2160, rv s2168, own_lv (own_min xs (9223372036854775806 : Int64)), .second, own_lv (own_min xu (9223372036854775806 : Int64)), .second, rv a180, .unset, .unset] [] _
      exact kt
    refine own_st sg183 ?_
    obtain ⟨T184, h184, X184, e184, E184, A184, D184, -, st184⟩ := newO X182 hx hZ hown (hw _ (List.mem_of_getElem? (i := 42) rfl)) (hw _ (List.mem_of_getElem? (i := 43) rfl)) (hw _ (List.mem_of_getElem? (i := 44) rfl)) rfl (g := (mkF m 295 #[iv xp, iv xq, own_lv xs, .second, own_lv xu, .second, iv ra, iv rg, iv ri, iv rf, iv (1 : Int32), rv a108, rv a110, rv a112, rv a114, rv a116, rv a118, rv a120, rv s2122, rv s2130, rv s2138, rv a149, rv s2152, rv s2160, rv s2168, own_lv (own_min xs (9223372036854775806 : Int64)), .second, own_lv (own_min xu (9223372036854775806 : Int64)), .second, rv a180, .unset, .unset] [])) rfl (hb hby at_295) (by decide) (by decide)
    obtain ⟨a184, g184⟩ : ∃ z, z = T182.heap.size := ⟨_, rfl⟩
    rw [← g184] at A184 D184 st184
    refine own_st st184 ?_
    have g_a184 : n0 ≤ a184 := by rw [g184]; exact Z182
    have Z184 : n0 ≤ h184.size := Nat.le_trans Z182 E184.1
    have kk184 : T149.heap.size ≤ h184.size := Nat.le_trans kk182 E184.1
    show own_Go p e below _ T184 (mkF m 298 #[iv xp, iv xq, own_lv xs, .second, own_lv xu, .second, iv ra, iv rg, iv ri, iv rf, iv (1 : Int32), rv a108, rv a110, rv a112, rv a114, rv a116, rv a118, rv a120, rv s2122, rv s2130, rv s2138, rv a149, rv s2152, rv s2160, rv s2168, own_lv (own_min xs (9223372036854775806 : Int64)), .second, own_lv (own_min xu (9223372036854775806 : Int64)), .second, rv a180, .unset, .unset] [(.ref a184)])
    have szu184 : T182.heap.size ≤ a184 := Nat.le_of_eq g184.symm
    have KE184 : Keep T182.heap h184 [] := (Keep.refl T182.heap []).ext E184
    have SC_184 := own_Sta.keep SC_182 KE184
    have T11_184 := T11_182.keep KE184 nin0 nin0
    have T12_184 := T12_182.keep KE184 nin0 nin0
    have T13_184 := T13_182.keep KE184 nin0 nin0
    have T14_184 := T14_182.keep KE184 nin0 nin0
    have SL_184 := SL_182.keep KE184 nin0 nin0
    have T15_184 := T15_182.keep KE184 nin0 nin0
    have T16_184 := T16_182.keep KE184 nin0 nin0
    have T17_184 := T17_182.keep KE184 nin0 nin0
    have T11b_184 := T11b_182.keep KE184 nin0 nin0
    have T12b_184 := T12b_182.keep KE184 nin0 nin0
    have T13b_184 := T13b_182.keep KE184 nin0 nin0
    have T14b_184 := T14b_182.keep KE184 nin0 nin0
    have T15b_184 := T15b_182.keep KE184 nin0 nin0
    have T16b_184 := T16b_182.keep KE184 nin0 nin0
    have T17b_184 := T17b_182.keep KE184 nin0 nin0
    have U1_184 := R182.2.keep KE184 nin0
    have FinstanceId184 : Fld Z h184 a184 "com/example/coverfold/coverfold/Usage" "instanceId" "Ljava/lang/String;" .null := D184 (Or.inr (hw _ (List.mem_of_getElem? (i := 90) rfl))) (ty := (.object "java/lang/String")) (by decide)
    have Faccount184 : Fld Z h184 a184 "com/example/coverfold/coverfold/Usage" "account" "Ljava/lang/String;" .null := D184 (Or.inr (hw _ (List.mem_of_getElem? (i := 92) rfl))) (ty := (.object "java/lang/String")) (by decide)
    have Fregion184 : Fld Z h184 a184 "com/example/coverfold/coverfold/Usage" "region" "Ljava/lang/String;" .null := D184 (Or.inr (hw _ (List.mem_of_getElem? (i := 94) rfl))) (ty := (.object "java/lang/String")) (by decide)
    have Fzone184 : Fld Z h184 a184 "com/example/coverfold/coverfold/Usage" "zone" "Ljava/lang/String;" .null := D184 (Or.inr (hw _ (List.mem_of_getElem? (i := 96) rfl))) (ty := (.object "java/lang/String")) (by decide)
    have FinstanceType184 : Fld Z h184 a184 "com/example/coverfold/coverfold/Usage" "instanceType" "Ljava/lang/String;" .null := D184 (Or.inr (hw _ (List.mem_of_getElem? (i := 98) rfl))) (ty := (.object "java/lang/String")) (by decide)
    have Fplatform184 : Fld Z h184 a184 "com/example/coverfold/coverfold/Usage" "platform" "Ljava/lang/String;" .null := D184 (Or.inr (hw _ (List.mem_of_getElem? (i := 100) rfl))) (ty := (.object "java/lang/String")) (by decide)
    have Ftenancy184 : Fld Z h184 a184 "com/example/coverfold/coverfold/Usage" "tenancy" "Ljava/lang/String;" .null := D184 (Or.inr (hw _ (List.mem_of_getElem? (i := 102) rfl))) (ty := (.object "java/lang/String")) (by decide)
    have Fstart184 : Fld Z h184 a184 "com/example/coverfold/coverfold/Usage" "start" "J" (.long (0 : Int64)) := D184 (Or.inr (hw _ (List.mem_of_getElem? (i := 104) rfl))) (ty := .long) (by decide)
    have Fend184 : Fld Z h184 a184 "com/example/coverfold/coverfold/Usage" "end" "J" (.long (0 : Int64)) := D184 (Or.inr (hw _ (List.mem_of_getElem? (i := 106) rfl))) (ty := .long) (by decide)
    have FpartSeconds184 : Fld Z h184 a184 "com/example/coverfold/coverfold/Usage" "partSeconds" "Lcom/example/coverfold/coverfold/Rational;" .null := D184 (Or.inr (hw _ (List.mem_of_getElem? (i := 108) rfl))) (ty := (.object "com/example/coverfold/coverfold/Rational")) (by decide)
    have sg185 : own_V p e below T184 (mkF m 319 #[iv xp, iv xq, own_lv xs, .second, own_lv xu, .second, iv ra, iv rg, iv ri, iv rf, iv (1 : Int32), rv a108, rv a110, rv a112, rv a114, rv a116, rv a118, rv a120, rv s2122, rv s2130, rv s2138, rv a149, rv s2152, rv s2160, rv s2168, own_lv (own_min xs (9223372036854775806 : Int64)), .second, own_lv (own_min xu (9223372036854775806 : Int64)), .second, rv a180, .unset, .unset] [(.long ((own_min xu (9223372036854775806 : Int64)) + (1 : Int64))), (.long (own_min xu (9223372036854775806 : Int64))), (.ref s2168), (.ref s2160), (.ref s2152), (.ref a149), (.ref s2138), (.ref s2130), (.ref s2122), (.ref a184), (.ref a184)]) (mkF m 298 #[iv xp, iv xq, own_lv xs, .second, own_lv xu, .second, iv ra, iv rg, iv ri, iv rf, iv (1 : Int32), rv a108, rv a110, rv a112, rv a114, rv a116, rv a118, rv a120, rv s2122, rv s2130, rv s2138, rv a149, rv s2152, rv s2160, rv s2168, own_lv (own_min xs (9223372036854775806 : Int64)), .second, own_lv (own_min xu (9223372036854775806 : Int64)), .second, rv a180, .unset, .unset] [(.ref a184)]) := by
      intro t kt
      refine XS.dup X184.here hx rfl (hb hby at_298) rfl rfl ?_
      show own_S p e below T184 m 299 #[iv xp, iv xq, own_lv xs, .second, own_lv xu, .second, iv ra, iv rg, iv ri, iv rf, iv (1 : Int32), rv a108, rv a110, rv a112, rv a114, rv a116, rv a118, rv a120, rv s2122, rv s2130, rv s2138, rv a149, rv s2152, rv s2160, rv s2168, own_lv (own_min xs (9223372036854775806 : Int64)), .second, own_lv (own_min xu (9223372036854775806 : Int64)), .second, rv a180, .unset, .unset] [(.ref a184), (.ref a184)] _
      refine XS.aload X184.here hx rfl (hb hby at_299) rfl rfl ?_
      show own_S p e below T184 m 301 #[iv xp, iv xq, own_lv xs, .second, own_lv xu, .second, iv ra, iv rg, iv ri, iv rf, iv (1 : Int32), rv a108, rv a110, rv a112, rv a114, rv a116, rv a118, rv a120, rv s2122, rv s2130, rv s2138, rv a149, rv s2152, rv s2160, rv s2168, own_lv (own_min xs (9223372036854775806 : Int64)), .second, own_lv (own_min xu (9223372036854775806 : Int64)), .second, rv a180, .unset, .unset] [(.ref s2122), (.ref a184), (.ref a184)] _
      refine XS.aload X184.here hx rfl (hb hby at_301) rfl rfl ?_
      show own_S p e below T184 m 303 #[iv xp, iv xq, own_lv xs, .second, own_lv xu, .second, iv ra, iv rg, iv ri, iv rf, iv (1 : Int32), rv a108, rv a110, rv a112, rv a114, rv a116, rv a118, rv a120, rv s2122, rv s2130, rv s2138, rv a149, rv s2152, rv s2160, rv s2168, own_lv (own_min xs (9223372036854775806 : Int64)), .second, own_lv (own_min xu (9223372036854775806 : Int64)), .second, rv a180, .unset, .unset] [(.ref s2130), (.ref s2122), (.ref a184), (.ref a184)] _
      refine XS.aload X184.here hx rfl (hb hby at_303) rfl rfl ?_
      show own_S p e below T184 m 305 #[iv xp, iv xq, own_lv xs, .second, own_lv xu, .second, iv ra, iv rg, iv ri, iv rf, iv (1 : Int32), rv a108, rv a110, rv a112, rv a114, rv a116, rv a118, rv a120, rv s2122, rv s2130, rv s2138, rv a149, rv s2152, rv s2160, rv s2168, own_lv (own_min xs (9223372036854775806 : Int64)), .second, own_lv (own_min xu (9223372036854775806 : Int64)), .second, rv a180, .unset, .unset] [(.ref s2138), (.ref s2130), (.ref s2122), (.ref a184), (.ref a184)] _
      refine XS.aload X184.here hx rfl (hb hby at_305) rfl rfl ?_
      show own_S p e below T184 m 307 #[iv xp, iv xq, own_lv xs, .second, own_lv xu, .second, iv ra, iv rg, iv ri, iv rf, iv (1 : Int32), rv a108, rv a110, rv a112, rv a114, rv a116, rv a118, rv a120, rv s2122, rv s2130, rv s2138, rv a149, rv s2152, rv s2160, rv s2168, own_lv (own_min xs (9223372036854775806 : Int64)), .second, own_lv (own_min xu (9223372036854775806 : Int64)), .second, rv a180, .unset, .unset] [(.ref a149), (.ref s2138), (.ref s2130), (.ref s2122), (.ref a184), (.ref a184)] _
      refine XS.aload X184.here hx rfl (hb hby at_307) rfl rfl ?_
      show own_S p e below T184 m 309 #[iv xp, iv xq, own_lv xs, .second, own_lv xu, .second, iv ra, iv rg, iv ri, iv rf, iv (1 : Int32), rv a108, rv a110, rv a112, rv a114, rv a116, rv a118, rv a120, rv s2122, rv s2130, rv s2138, rv a149, rv s2152, rv s2160, rv s2168, own_lv (own_min xs (9223372036854775806 : Int64)), .second, own_lv (own_min xu (9223372036854775806 : Int64)), .second, rv a180, .unset, .unset] [(.ref s2152), (.ref a149), (.ref s2138), (.ref s2130), (.ref s2122), (.ref a184), (.ref a184)] _
      refine XS.aload X184.here hx rfl (hb hby at_309) rfl rfl ?_
      show own_S p e below T184 m 311 #[iv xp, iv xq, own_lv xs, .second, own_lv xu, .second, iv ra, iv rg, iv ri, iv rf, iv (1 : Int32), rv a108, rv a110, rv a112, rv a114, rv a116, rv a118, rv a120, rv s2122, rv s2130, rv s2138, rv a149, rv s2152, rv s2160, rv s2168, own_lv (own_min xs (9223372036854775806 : Int64)), .second, own_lv (own_min xu (9223372036854775806 : Int64)), .second, rv a180, .unset, .unset] [(.ref s2160), (.ref s2152), (.ref a149), (.ref s2138), (.ref s2130), (.ref s2122), (.ref a184), (.ref a184)] _
      refine XS.aload X184.here hx rfl (hb hby at_311) rfl rfl ?_
      show own_S p e below T184 m 313 #[iv xp, iv xq, own_lv xs, .second, own_lv xu, .second, iv ra, iv rg, iv ri, iv rf, iv (1 : Int32), rv a108, rv a110, rv a112, rv a114, rv a116, rv a118, rv a120, rv s2122, rv s2130, rv s2138, rv a149, rv s2152, rv s2160, rv s2168, own_lv (own_min xs (9223372036854775806 : Int64)), .second, own_lv (own_min xu (9223372036854775806 : Int64)), .second, rv a180, .unset, .unset] [(.ref s2168), (.ref s2160), (.ref s2152), (.ref a149), (.ref s2138), (.ref s2130), (.ref s2122), (.ref a184), (.ref a184)] _
      refine XS.lload X184.here hx rfl (hb hby at_313) rfl ?_
      show own_S p e below T184 m 315 #[iv xp, iv xq, own_lv xs, .second, own_lv xu, .second, iv ra, iv rg, iv ri, iv rf, iv (1 : Int32), rv a108, rv a110, rv a112, rv a114, rv a116, rv a118, rv a120, rv s2122, rv s2130, rv s2138, rv a149, rv s2152, rv s2160, rv s2168, own_lv (own_min xs (9223372036854775806 : Int64)), .second, own_lv (own_min xu (9223372036854775806 : Int64)), .second, rv a180, .unset, .unset] [(.long (own_min xu (9223372036854775806 : Int64))), (.ref s2168), (.ref s2160), (.ref s2152), (.ref a149), (.ref s2138), (.ref s2130), (.ref s2122), (.ref a184), (.ref a184)] _
      refine XS.lload X184.here hx rfl (hb hby at_315) rfl ?_
      show own_S p e below T184 m 317 #[iv xp, iv xq, own_lv xs, .second, own_lv xu, .second, iv ra, iv rg, iv ri, iv rf, iv (1 : Int32), rv a108, rv a110, rv a112, rv a114, rv a116, rv a118, rv a120, rv s2122, rv s2130, rv s2138, rv a149, rv s2152, rv s2160, rv s2168, own_lv (own_min xs (9223372036854775806 : Int64)), .second, own_lv (own_min xu (9223372036854775806 : Int64)), .second, rv a180, .unset, .unset] [(.long (own_min xu (9223372036854775806 : Int64))), (.long (own_min xu (9223372036854775806 : Int64))), (.ref s2168), (.ref s2160), (.ref s2152), (.ref a149), (.ref s2138), (.ref s2130), (.ref s2122), (.ref a184), (.ref a184)] _
      refine XS.lconst X184.here hx rfl (hb hby at_317) ?_
      show own_S p e below T184 m 318 #[iv xp, iv xq, own_lv xs, .second, own_lv xu, .second, iv ra, iv rg, iv ri, iv rf, iv (1 : Int32), rv a108, rv a110, rv a112, rv a114, rv a116, rv a118, rv a120, rv s2122, rv s2130, rv s2138, rv a149, rv s2152, rv s2160, rv s2168, own_lv (own_min xs (9223372036854775806 : Int64)), .second, own_lv (own_min xu (9223372036854775806 : Int64)), .second, rv a180, .unset, .unset] [(.long (1 : Int64)), (.long (own_min xu (9223372036854775806 : Int64))), (.long (own_min xu (9223372036854775806 : Int64))), (.ref s2168), (.ref s2160), (.ref s2152), (.ref a149), (.ref s2138), (.ref s2130), (.ref s2122), (.ref a184), (.ref a184)] _
      refine XS.ladd X184.here hx rfl (hb hby at_318) rfl ?_
      show own_S p e below T184 m 319 #[iv xp, iv xq, own_lv xs, .second, own_lv xu, .second, iv ra, iv rg, iv ri, iv rf, iv (1 : Int32), rv a108, rv a110, rv a112, rv a114, rv a116, rv a118, rv a120, rv s2122, rv s2130, rv s2138, rv a149, rv s2152, rv s2160, rv s2168, own_lv (own_min xs (9223372036854775806 : Int64)), .second, own_lv (own_min xu (9223372036854775806 : Int64)), .second, rv a180, .unset, .unset] [(.long ((own_min xu (9223372036854775806 : Int64)) + (1 : Int64))), (.long (own_min xu (9223372036854775806 : Int64))), (.ref s2168), (.ref s2160), (.ref s2152), (.ref a149), (.ref s2138), (.ref s2130), (.ref s2122), (.ref a184), (.ref a184)] _
      exact kt
    refine own_st sg185 ?_
    obtain ⟨_, T186, L186, X186, hQ186, st186⟩ := own_callI (y := (⟨"com/example/coverfold/coverfold/Usage", "<init>", "(Ljava/lang/String;Ljava/lang/String;Ljava/lang/String;Ljava/lang/String;Ljava/lang/String;Ljava/lang/String;Ljava/lang/String;JJ)V"⟩ : MethodName)) (a := a184) X184 hx hZ hown rfl (hw _ (List.mem_of_getElem? (i := 45) rfl)) (hw _ (List.mem_of_getElem? (i := 46) rfl)) (hw _ (List.mem_of_getElem? (i := 44) rfl)) (hw _ (List.mem_of_getElem? (i := 47) rfl)) (by decide) (own_rmus9_0 l Z a0 hw a184 s2122 s2130 s2138 a149 s2152 s2160 s2168 (own_min xu (9223372036854775806 : Int64)) ((own_min xu (9223372036854775806 : Int64)) + (1 : Int64)) b114 (fun _ => 0) h184 n0 Z184 T14b_184 A184 FinstanceId184 Faccount184 Fregion184 Fzone184 FinstanceType184 Fplatform184 Ftenancy184 Fstart184 Fend184 FpartSeconds184 g_a184 (own_min_lt xu)) e184 (g := (mkF m 319 #[iv xp, iv xq, own_lv xs, .second, own_lv xu, .second, iv ra, iv rg, iv ri, iv rf, iv (1 : Int32), rv a108, rv a110, rv a112, rv a114, rv a116, rv a118, rv a120, rv s2122, rv s2130, rv s2138, rv a149, rv s2152, rv s2160, rv s2168, own_lv (own_min xs (9223372036854775806 : Int64)), .second, own_lv (own_min xu (9223372036854775806 : Int64)), .second, rv a180, .unset, .unset] [(.long ((own_min xu (9223372036854775806 : Int64)) + (1 : Int64))), (.long (own_min xu (9223372036854775806 : Int64))), (.ref s2168), (.ref s2160), (.ref s2152), (.ref a149), (.ref s2138), (.ref s2130), (.ref s2122), (.ref a184), (.ref a184)])) rfl (by rw [hml]; rfl) (argsL := [(.ref s2122), (.ref s2130), (.ref s2138), (.ref a149), (.ref s2152), (.ref s2160), (.ref s2168), (.long (own_min xu (9223372036854775806 : Int64))), (.long ((own_min xu (9223372036854775806 : Int64)) + (1 : Int64)))]) (rest := [(.ref a184)]) (lenOf own_pd17 rfl) rfl (W := 1) (by show 2 * 0 + _ ≤ _; exact Nat.le_of_eq rfl) (hb hby at_319) (by decide) (by decide) (by decide) (by decide)
    obtain ⟨rfl, Nq186, R186⟩ := hQ186
    refine own_st st186 ?_
    have Z186 : n0 ≤ T186.heap.size := Nat.le_trans Z184 R186.1.1
    have kk186 : T149.heap.size ≤ T186.heap.size := Nat.le_trans kk184 R186.1.1
    have N186 := Fr.app N182 Nq186
    show own_Go p e below _ T186 (mkF m 322 #[iv xp, iv xq, own_lv xs, .second, own_lv xu, .second, iv ra, iv rg, iv ri, iv rf, iv (1 : Int32), rv a108, rv a110, rv a112, rv a114, rv a116, rv a118, rv a120, rv s2122, rv s2130, rv s2138, rv a149, rv s2152, rv s2160, rv s2168, own_lv (own_min xs (9223372036854775806 : Int64)), .second, own_lv (own_min xu (9223372036854775806 : Int64)), .second, rv a180, .unset, .unset] [(.ref a184)])
    have KU186 : Keep T182.heap T186.heap [] := KE184.trans R186.1 (allS (Or.inr szu184) all0)
    have SC_186 := own_Sta.keep SC_182 KU186
    have T11_186 := T11_182.keep KU186 nin0 nin0
    have T12_186 := T12_182.keep KU186 nin0 nin0
    have T13_186 := T13_182.keep KU186 nin0 nin0
    have T14_186 := T14_182.keep KU186 nin0 nin0
    have SL_186 := SL_182.keep KU186 nin0 nin0
    have T15_186 := T15_182.keep KU186 nin0 nin0
    have T16_186 := T16_182.keep KU186 nin0 nin0
    have T17_186 := T17_182.keep KU186 nin0 nin0
    have T11b_186 := T11b_182.keep KU186 nin0 nin0
    have T12b_186 := T12b_182.keep KU186 nin0 nin0
    have T13b_186 := T13b_182.keep KU186 nin0 nin0
    have T14b_186 := T14b_182.keep KU186 nin0 nin0
    have T15b_186 := T15b_182.keep KU186 nin0 nin0
    have T16b_186 := T16b_182.keep KU186 nin0 nin0
    have T17b_186 := T17b_182.keep KU186 nin0 nin0
    have U1_186 := R182.2.keep KU186 nin0
    have sg187 : own_V p e below T186 (mkF m 324 #[iv xp, iv xq, own_lv xs, .second, own_lv xu, .second, iv ra, iv rg, iv ri, iv rf, iv (1 : Int32), rv a108, rv a110, rv a112, rv a114, rv a116, rv a118, rv a120, rv s2122, rv s2130, rv s2138, rv a149, rv s2152, rv s2160, rv s2168, own_lv (own_min xs (9223372036854775806 : Int64)), .second, own_lv (own_min xu (9223372036854775806 : Int64)), .second, rv a180, rv a184, .unset] []) (mkF m 322 #[iv xp, iv xq, own_lv xs, .second, own_lv xu, .second, iv ra, iv rg, iv ri, iv rf, iv (1 : Int32), rv a108, rv a110, rv a112, rv a114, rv a116, rv a118, rv a120, rv s2122, rv s2130, rv s2138, rv a149, rv s2152, rv s2160, rv s2168, own_lv (own_min xs (9223372036854775806 : Int64)), .second, own_lv (own_min xu (9223372036854775806 : Int64)), .second, rv a180, .unset, .unset] [(.ref a184)]) := by
      intro t kt
      refine XS.astore X186.here hx rfl (hb hby at_322) rfl rfl (l' := #[iv xp, iv xq, own_lv xs, .second, own_lv xu, .second, iv ra, iv rg, iv ri, iv rf, iv (1 : Int32), rv a108, rv a110, rv a112, rv a114, rv a116, rv a118, rv a120, rv s2122, rv s2130, rv s2138, rv a149, rv s2152, rv s2160, rv s2168, own_lv (own_min xs (9223372036854775806 : Int64)), .second, own_lv (own_min xu (9223372036854775806 : Int64)), .second, rv a180, rv a184, .unset]) rfl ?_
      show own_S p e below T186 m 324 #[iv xp, iv xq, own_lv xs, .second, own_lv xu, .second, iv ra, iv rg, iv ri, iv rf, iv (1 : Int32), rv a108, rv a110, rv a112, rv a114, rv a116, rv a118, rv a120, rv s2122, rv s2130, rv s2138, rv a149, rv s2152, rv s2160, rv s2168, own_lv (own_min xs (9223372036854775806 : Int64)), .second, own_lv (own_min xu (9223372036854775806 : Int64)), .second, rv a180, rv a184, .unset] [] _
      exact kt
    refine own_st sg187 ?_
    obtain ⟨al, hal⟩ : ∃ z : Int32, z = (if (xp &&& (63 : Int32)) = (63 : Int32) then (1 : Int32) else (0 : Int32)) := ⟨_, rfl⟩
    have sg189 : own_V p e below T186 (mkF m 338 #[iv xp, iv xq, own_lv xs, .second, own_lv xu, .second, iv ra, iv rg, iv ri, iv rf, iv (1 : Int32), rv a108, rv a110, rv a112, rv a114, rv a116, rv a118, rv a120, rv s2122, rv s2130, rv s2138, rv a149, rv s2152, rv s2160, rv s2168, own_lv (own_min xs (9223372036854775806 : Int64)), .second, own_lv (own_min xu (9223372036854775806 : Int64)), .second, rv a180, rv a184, .unset] [(.int al)]) (mkF m 324 #[iv xp, iv xq, own_lv xs, .second, own_lv xu, .second, iv ra, iv rg, iv ri, iv rf, iv (1 : Int32), rv a108, rv a110, rv a112, rv a114, rv a116, rv a118, rv a120, rv s2122, rv s2130, rv s2138, rv a149, rv s2152, rv s2160, rv s2168, own_lv (own_min xs (9223372036854775806 : Int64)), .second, own_lv (own_min xu (9223372036854775806 : Int64)), .second, rv a180, rv a184, .unset] []) := by
      intro t kt
      refine XS.iloadN X186.here hx rfl (hb hby at_324) rfl ?_
      show own_S p e below T186 m 325 #[iv xp, iv xq, own_lv xs, .second, own_lv xu, .second, iv ra, iv rg, iv ri, iv rf, iv (1 : Int32), rv a108, rv a110, rv a112, rv a114, rv a116, rv a118, rv a120, rv s2122, rv s2130, rv s2138, rv a149, rv s2152, rv s2160, rv s2168, own_lv (own_min xs (9223372036854775806 : Int64)), .second, own_lv (own_min xu (9223372036854775806 : Int64)), .second, rv a180, rv a184, .unset] [(.int xp)] _
      refine XS.bipush X186.here hx rfl (hb hby at_325) ?_
      show own_S p e below T186 m 327 #[iv xp, iv xq, own_lv xs, .second, own_lv xu, .second, iv ra, iv rg, iv ri, iv rf, iv (1 : Int32), rv a108, rv a110, rv a112, rv a114, rv a116, rv a118, rv a120, rv s2122, rv s2130, rv s2138, rv a149, rv s2152, rv s2160, rv s2168, own_lv (own_min xs (9223372036854775806 : Int64)), .second, own_lv (own_min xu (9223372036854775806 : Int64)), .second, rv a180, rv a184, .unset] [(.int (63 : Int32)), (.int xp)] _
      refine XS.iand X186.here hx rfl (hb hby at_327) rfl ?_
      show own_S p e below T186 m 328 #[iv xp, iv xq, own_lv xs, .second, own_lv xu, .second, iv ra, iv rg, iv ri, iv rf, iv (1 : Int32), rv a108, rv a110, rv a112, rv a114, rv a116, rv a118, rv a120, rv s2122, rv s2130, rv s2138, rv a149, rv s2152, rv s2160, rv s2168, own_lv (own_min xs (9223372036854775806 : Int64)), .second, own_lv (own_min xu (9223372036854775806 : Int64)), .second, rv a180, rv a184, .unset] [(.int (xp &&& (63 : Int32)))] _
      refine XS.bipush X186.here hx rfl (hb hby at_328) ?_
      show own_S p e below T186 m 330 #[iv xp, iv xq, own_lv xs, .second, own_lv xu, .second, iv ra, iv rg, iv ri, iv rf, iv (1 : Int32), rv a108, rv a110, rv a112, rv a114, rv a116, rv a118, rv a120, rv s2122, rv s2130, rv s2138, rv a149, rv s2152, rv s2160, rv s2168, own_lv (own_min xs (9223372036854775806 : Int64)), .second, own_lv (own_min xu (9223372036854775806 : Int64)), .second, rv a180, rv a184, .unset] [(.int (63 : Int32)), (.int (xp &&& (63 : Int32)))] _
      by_cases hc188 : (xp &&& (63 : Int32)) = (63 : Int32)
      · refine XS.icmpNo X186.here hx rfl (hb hby at_330) rfl (teq hc188).2 ?_
        show own_S p e below T186 m 333 #[iv xp, iv xq, own_lv xs, .second, own_lv xu, .second, iv ra, iv rg, iv ri, iv rf, iv (1 : Int32), rv a108, rv a110, rv a112, rv a114, rv a116, rv a118, rv a120, rv s2122, rv s2130, rv s2138, rv a149, rv s2152, rv s2160, rv s2168, own_lv (own_min xs (9223372036854775806 : Int64)), .second, own_lv (own_min xu (9223372036854775806 : Int64)), .second, rv a180, rv a184, .unset] [] _
        refine XS.iconst X186.here hx rfl (hb hby at_333) ?_
        show own_S p e below T186 m 334 #[iv xp, iv xq, own_lv xs, .second, own_lv xu, .second, iv ra, iv rg, iv ri, iv rf, iv (1 : Int32), rv a108, rv a110, rv a112, rv a114, rv a116, rv a118, rv a120, rv s2122, rv s2130, rv s2138, rv a149, rv s2152, rv s2160, rv s2168, own_lv (own_min xs (9223372036854775806 : Int64)), .second, own_lv (own_min xu (9223372036854775806 : Int64)), .second, rv a180, rv a184, .unset] [(.int (1 : Int32))] _
        refine XS.goto X186.here hx rfl (pc0 := 334) (pc' := 338) rfl (hb hby at_334) (by decide) (by decide) ?_
        show own_S p e below T186 m 338 #[iv xp, iv xq, own_lv xs, .second, own_lv xu, .second, iv ra, iv rg, iv ri, iv rf, iv (1 : Int32), rv a108, rv a110, rv a112, rv a114, rv a116, rv a118, rv a120, rv s2122, rv s2130, rv s2138, rv a149, rv s2152, rv s2160, rv s2168, own_lv (own_min xs (9223372036854775806 : Int64)), .second, own_lv (own_min xu (9223372036854775806 : Int64)), .second, rv a180, rv a184, .unset] [(.int (1 : Int32))] _
        rw [show al = (1 : Int32) from by rw [hal, if_pos hc188]] at kt
        exact kt
      · refine XS.icmpYes X186.here hx rfl (pc0 := 330) (pc' := 337) rfl (hb hby at_330) rfl (feq hc188).2 (by decide) (by decide) ?_
        show own_S p e below T186 m 337 #[iv xp, iv xq, own_lv xs, .second, own_lv xu, .second, iv ra, iv rg, iv ri, iv rf, iv (1 : Int32), rv a108, rv a110, rv a112, rv a114, rv a116, rv a118, rv a120, rv s2122, rv s2130, rv s2138, rv a149, rv s2152, rv s2160, rv s2168, own_lv (own_min xs (9223372036854775806 : Int64)), .second, own_lv (own_min xu (9223372036854775806 : Int64)), .second, rv a180, rv a184, .unset] [] _
        refine XS.iconst X186.here hx rfl (hb hby at_337) ?_
        show own_S p e below T186 m 338 #[iv xp, iv xq, own_lv xs, .second, own_lv xu, .second, iv ra, iv rg, iv ri, iv rf, iv (1 : Int32), rv a108, rv a110, rv a112, rv a114, rv a116, rv a118, rv a120, rv s2122, rv s2130, rv s2138, rv a149, rv s2152, rv s2160, rv s2168, own_lv (own_min xs (9223372036854775806 : Int64)), .second, own_lv (own_min xu (9223372036854775806 : Int64)), .second, rv a180, rv a184, .unset] [(.int (0 : Int32))] _
        rw [show al = (0 : Int32) from by rw [hal, if_neg hc188]] at kt
        exact kt
    refine own_st sg189 ?_
    have sg190 : own_V p e below T186 (mkF m 344 #[iv xp, iv xq, own_lv xs, .second, own_lv xu, .second, iv ra, iv rg, iv ri, iv rf, iv (1 : Int32), rv a108, rv a110, rv a112, rv a114, rv a116, rv a118, rv a120, rv s2122, rv s2130, rv s2138, rv a149, rv s2152, rv s2160, rv s2168, own_lv (own_min xs (9223372036854775806 : Int64)), .second, own_lv (own_min xu (9223372036854775806 : Int64)), .second, rv a180, rv a184, iv al] [(.ref a184), (.ref a180)]) (mkF m 338 #[iv xp, iv xq, own_lv xs, .second, own_lv xu, .second, iv ra, iv rg, iv ri, iv rf, iv (1 : Int32), rv a108, rv a110, rv a112, rv a114, rv a116, rv a118, rv a120, rv s2122, rv s2130, rv s2138, rv a149, rv s2152, rv s2160, rv s2168, own_lv (own_min xs (9223372036854775806 : Int64)), .second, own_lv (own_min xu (9223372036854775806 : Int64)), .second, rv a180, rv a184, .unset] [(.int al)]) := by
      intro t kt
      refine XS.istore X186.here hx rfl (hb hby at_338) rfl (l' := #[iv xp, iv xq, own_lv xs, .second, own_lv xu, .second, iv ra, iv rg, iv ri, iv rf, iv (1 : Int32), rv a108, rv a110, rv a112, rv a114, rv a116, rv a118, rv a120, rv s2122, rv s2130, rv s2138, rv a149, rv s2152, rv s2160, rv s2168, own_lv (own_min xs (9223372036854775806 : Int64)), .second, own_lv (own_min xu (9223372036854775806 : Int64)), .second, rv a180, rv a184, iv al]) rfl ?_
      show own_S p e below T186 m 340 #[iv xp, iv xq, own_lv xs, .second, own_lv xu, .second, iv ra, iv rg, iv ri, iv rf, iv (1 : Int32), rv a108, rv a110, rv a112, rv a114, rv a116, rv a118, rv a120, rv s2122, rv s2130, rv s2138, rv a149, rv s2152, rv s2160, rv s2168, own_lv (own_min xs (9223372036854775806 : Int64)), .second, own_lv (own_min xu (9223372036854775806 : Int64)), .second, rv a180, rv a184, iv al] [] _
      refine XS.aload X186.here hx rfl (hb hby at_340) rfl rfl ?_
      show own_S p e below T186 m 342 #[iv xp, iv xq, own_lv xs, .second, own_lv xu, .second, iv ra, iv rg, iv ri, iv rf, iv (1 : Int32), rv a108, rv a110, rv a112, rv a114, rv a116, rv a118, rv a120, rv s2122, rv s2130, rv s2138, rv a149, rv s2152, rv s2160, rv s2168, own_lv (own_min xs (9223372036854775806 : Int64)), .second, own_lv (own_min xu (9223372036854775806 : Int64)), .second, rv a180, rv a184, iv al] [(.ref a180)] _
      refine XS.aload X186.here hx rfl (hb hby at_342) rfl rfl ?_
      show own_S p e below T186 m 344 #[iv xp, iv xq, own_lv xs, .second, own_lv xu, .second, iv ra, iv rg, iv ri, iv rf, iv (1 : Int32), rv a108, rv a110, rv a112, rv a114, rv a116, rv a118, rv a120, rv s2122, rv s2130, rv s2138, rv a149, rv s2152, rv s2160, rv s2168, own_lv (own_min xs (9223372036854775806 : Int64)), .second, own_lv (own_min xu (9223372036854775806 : Int64)), .second, rv a180, rv a184, iv al] [(.ref a184), (.ref a180)] _
      exact kt
    refine own_st sg190 ?_
    obtain ⟨_, T191, L191, X191, hQ191, st191⟩ := own_callV (y := (⟨"com/example/coverfold/coverfold/Usage", "sharesTextsOfKind", "(Lcom/example/coverfold/coverfold/Usage;)Z"⟩ : MethodName)) (y0 := (⟨"com/example/coverfold/coverfold/Usage", "sharesTextsOfKind", "(Lcom/example/coverfold/coverfold/Usage;)Z"⟩ : MethodName)) (a := a180) (C := "com/example/coverfold/coverfold/Usage") X186 hx hZ hown U1_186.1 (hw _ (List.mem_of_getElem? (i := 109) rfl)) (hw _ (List.mem_of_getElem? (i := 110) rfl)) (hw _ (List.mem_of_getElem? (i := 112) rfl)) (notFace_of_selects (args := #[]) (mvT hZ (hw _ (List.mem_of_getElem? (i := 112) rfl)))) (hw _ (List.mem_of_getElem? (i := 111) rfl)) (hw _ (List.mem_of_getElem? (i := 44) rfl)) (hw _ (List.mem_of_getElem? (i := 113) rfl)) (by decide) (own_rmshr l Z a0 hw a180 a184 a110 a112 a114 a116 a118 a120 s2130 s2138 a149 s2152 s2160 s2168 T186.heap n0 Z186 U1_186 R186.2) rfl (g := (mkF m 344 #[iv xp, iv xq, own_lv xs, .second, own_lv xu, .second, iv ra, iv rg, iv ri, iv rf, iv (1 : Int32), rv a108, rv a110, rv a112, rv a114, rv a116, rv a118, rv a120, rv s2122, rv s2130, rv s2138, rv a149, rv s2152, rv s2160, rv s2168, own_lv (own_min xs (9223372036854775806 : Int64)), .second, own_lv (own_min xu (9223372036854775806 : Int64)), .second, rv a180, rv a184, iv al] [(.ref a184), (.ref a180)])) rfl (by rw [hml]; rfl) (argsL := [(.ref a184)]) (rest := []) (lenOf own_pd18 rfl) rfl (W := 0) (by show 2 * 0 + _ ≤ _; exact Nat.le_of_eq rfl) (hb hby at_344) (by decide) (by decide) (by decide) (by decide)
    obtain ⟨rfl, Nq191, e191⟩ := hQ191
    refine own_st st191 ?_
    have N191 := Fr.app N186 Nq191
    show own_Go p e below _ T191 (mkF m 347 #[iv xp, iv xq, own_lv xs, .second, own_lv xu, .second, iv ra, iv rg, iv ri, iv rf, iv (1 : Int32), rv a108, rv a110, rv a112, rv a114, rv a116, rv a118, rv a120, rv s2122, rv s2130, rv s2138, rv a149, rv s2152, rv s2160, rv s2168, own_lv (own_min xs (9223372036854775806 : Int64)), .second, own_lv (own_min xu (9223372036854775806 : Int64)), .second, rv a180, rv a184, iv al] [(.int (if a110 = s2130 ∧ a112 = s2138 ∧ a114 = a149 ∧ a116 = s2152 ∧ a118 = s2160 ∧ a120 = s2168 then (1 : Int32) else (0 : Int32)))])
    have sg192 : own_V p e below T191 (mkF m 349 #[iv xp, iv xq, own_lv xs, .second, own_lv xu, .second, iv ra, iv rg, iv ri, iv rf, iv (1 : Int32), rv a108, rv a110, rv a112, rv a114, rv a116, rv a118, rv a120, rv s2122, rv s2130, rv s2138, rv a149, rv s2152, rv s2160, rv s2168, own_lv (own_min xs (9223372036854775806 : Int64)), .second, own_lv (own_min xu (9223372036854775806 : Int64)), .second, rv a180, rv a184, iv al] [(.int al), (.int (if a110 = s2130 ∧ a112 = s2138 ∧ a114 = a149 ∧ a116 = s2152 ∧ a118 = s2160 ∧ a120 = s2168 then (1 : Int32) else (0 : Int32)))]) (mkF m 347 #[iv xp, iv xq, own_lv xs, .second, own_lv xu, .second, iv ra, iv rg, iv ri, iv rf, iv (1 : Int32), rv a108, rv a110, rv a112, rv a114, rv a116, rv a118, rv a120, rv s2122, rv s2130, rv s2138, rv a149, rv s2152, rv s2160, rv s2168, own_lv (own_min xs (9223372036854775806 : Int64)), .second, own_lv (own_min xu (9223372036854775806 : Int64)), .second, rv a180, rv a184, iv al] [(.int (if a110 = s2130 ∧ a112 = s2138 ∧ a114 = a149 ∧ a116 = s2152 ∧ a118 = s2160 ∧ a120 = s2168 then (1 : Int32) else (0 : Int32)))]) := by
      intro t kt
      refine XS.iload X191.here hx rfl (hb hby at_347) rfl ?_
      show own_S p e below T191 m 349 #[iv xp, iv xq, own_lv xs, .second, own_lv xu, .second, iv ra, iv rg, iv ri, iv rf, iv (1 : Int32), rv a108, rv a110, rv a112, rv a114, rv a116, rv a118, rv a120, rv s2122, rv s2130, rv s2138, rv a149, rv s2152, rv s2160, rv s2168, own_lv (own_min xs (9223372036854775806 : Int64)), .second, own_lv (own_min xu (9223372036854775806 : Int64)), .second, rv a180, rv a184, iv al] [(.int al), (.int (if a110 = s2130 ∧ a112 = s2138 ∧ a114 = a149 ∧ a116 = s2152 ∧ a118 = s2160 ∧ a120 = s2168 then (1 : Int32) else (0 : Int32)))] _
      exact kt
    refine own_st sg192 ?_
    have hc193 : (if a110 = s2130 ∧ a112 = s2138 ∧ a114 = a149 ∧ a116 = s2152 ∧ a118 = s2160 ∧ a120 = s2168 then (1 : Int32) else (0 : Int32)) = al := own_l6 hal Q130 Q138 Qz Q152 Q160 Q168
    have sg194 : own_V p e below T191 (mkF m 352 #[iv xp, iv xq, own_lv xs, .second, own_lv xu, .second, iv ra, iv rg, iv ri, iv rf, iv (1 : Int32), rv a108, rv a110, rv a112, rv a114, rv a116, rv a118, rv a120, rv s2122, rv s2130, rv s2138, rv a149, rv s2152, rv s2160, rv s2168, own_lv (own_min xs (9223372036854775806 : Int64)), .second, own_lv (own_min xu (9223372036854775806 : Int64)), .second, rv a180, rv a184, iv al] []) (mkF m 349 #[iv xp, iv xq, own_lv xs, .second, own_lv xu, .second, iv ra, iv rg, iv ri, iv rf, iv (1 : Int32), rv a108, rv a110, rv a112, rv a114, rv a116, rv a118, rv a120, rv s2122, rv s2130, rv s2138, rv a149, rv s2152, rv s2160, rv s2168, own_lv (own_min xs (9223372036854775806 : Int64)), .second, own_lv (own_min xu (9223372036854775806 : Int64)), .second, rv a180, rv a184, iv al] [(.int al), (.int (if a110 = s2130 ∧ a112 = s2138 ∧ a114 = a149 ∧ a116 = s2152 ∧ a118 = s2160 ∧ a120 = s2168 then (1 : Int32) else (0 : Int32)))]) := by
      intro t kt
      refine XS.icmpNo X191.here hx rfl (hb hby at_349) rfl (teq hc193).2 ?_
      exact kt
    refine own_st sg194 ?_
    have sg195 : own_V p e below T191 (mkF m 356 #[iv xp, iv xq, own_lv xs, .second, own_lv xu, .second, iv ra, iv rg, iv ri, iv rf, iv (1 : Int32), rv a108, rv a110, rv a112, rv a114, rv a116, rv a118, rv a120, rv s2122, rv s2130, rv s2138, rv a149, rv s2152, rv s2160, rv s2168, own_lv (own_min xs (9223372036854775806 : Int64)), .second, own_lv (own_min xu (9223372036854775806 : Int64)), .second, rv a180, rv a184, iv al] [(.ref a180), (.ref a184)]) (mkF m 352 #[iv xp, iv xq, own_lv xs, .second, own_lv xu, .second, iv ra, iv rg, iv ri, iv rf, iv (1 : Int32), rv a108, rv a110, rv a112, rv a114, rv a116, rv a118, rv a120, rv s2122, rv s2130, rv s2138, rv a149, rv s2152, rv s2160, rv s2168, own_lv (own_min xs (9223372036854775806 : Int64)), .second, own_lv (own_min xu (9223372036854775806 : Int64)), .second, rv a180, rv a184, iv al] []) := by
      intro t kt
      refine XS.aload X191.here hx rfl (hb hby at_352) rfl rfl ?_
      show own_S p e below T191 m 354 #[iv xp, iv xq, own_lv xs, .second, own_lv xu, .second, iv ra, iv rg, iv ri, iv rf, iv (1 : Int32), rv a108, rv a110, rv a112, rv a114, rv a116, rv a118, rv a120, rv s2122, rv s2130, rv s2138, rv a149, rv s2152, rv s2160, rv s2168, own_lv (own_min xs (9223372036854775806 : Int64)), .second, own_lv (own_min xu (9223372036854775806 : Int64)), .second, rv a180, rv a184, iv al] [(.ref a184)] _
      refine XS.aload X191.here hx rfl (hb hby at_354) rfl rfl ?_
      show own_S p e below T191 m 356 #[iv xp, iv xq, own_lv xs, .second, own_lv xu, .second, iv ra, iv rg, iv ri, iv rf, iv (1 : Int32), rv a108, rv a110, rv a112, rv a114, rv a116, rv a118, rv a120, rv s2122, rv s2130, rv s2138, rv a149, rv s2152, rv s2160, rv s2168, own_lv (own_min xs (9223372036854775806 : Int64)), .second, own_lv (own_min xu (9223372036854775806 : Int64)), .second, rv a180, rv a184, iv al] [(.ref a180), (.ref a184)] _
      exact kt
    refine own_st sg195 ?_
    obtain ⟨_, T196, L196, X196, hQ196, st196⟩ := own_callV (y := (⟨"com/example/coverfold/coverfold/Usage", "sharesTextsOfKind", "(Lcom/example/coverfold/coverfold/Usage;)Z"⟩ : MethodName)) (y0 := (⟨"com/example/coverfold/coverfold/Usage", "sharesTextsOfKind", "(Lcom/example/coverfold/coverfold/Usage;)Z"⟩ : MethodName)) (a := a184) (C := "com/example/coverfold/coverfold/Usage") X191 hx hZ hown R186.2.1 (hw _ (List.mem_of_getElem? (i := 109) rfl)) (hw _ (List.mem_of_getElem? (i := 110) rfl)) (hw _ (List.mem_of_getElem? (i := 112) rfl)) (notFace_of_selects (args := #[]) (mvT hZ (hw _ (List.mem_of_getElem? (i := 112) rfl)))) (hw _ (List.mem_of_getElem? (i := 111) rfl)) (hw _ (List.mem_of_getElem? (i := 44) rfl)) (hw _ (List.mem_of_getElem? (i := 113) rfl)) (by decide) (own_rmshr l Z a0 hw a184 a180 s2130 s2138 a149 s2152 s2160 s2168 a110 a112 a114 a116 a118 a120 T186.heap n0 Z186 R186.2 U1_186) e191 (g := (mkF m 356 #[iv xp, iv xq, own_lv xs, .second, own_lv xu, .second, iv ra, iv rg, iv ri, iv rf, iv (1 : Int32), rv a108, rv a110, rv a112, rv a114, rv a116, rv a118, rv a120, rv s2122, rv s2130, rv s2138, rv a149, rv s2152, rv s2160, rv s2168, own_lv (own_min xs (9223372036854775806 : Int64)), .second, own_lv (own_min xu (9223372036854775806 : Int64)), .second, rv a180, rv a184, iv al] [(.ref a180), (.ref a184)])) rfl (by rw [hml]; rfl) (argsL := [(.ref a180)]) (rest := []) (lenOf own_pd18 rfl) rfl (W := 0) (by show 2 * 0 + _ ≤ _; exact Nat.le_of_eq rfl) (hb hby at_356) (by decide) (by decide) (by decide) (by decide)
    obtain ⟨rfl, Nq196, e196⟩ := hQ196
    refine own_st st196 ?_
    have N196 := Fr.app N191 Nq196
    show own_Go p e below _ T196 (mkF m 359 #[iv xp, iv xq, own_lv xs, .second, own_lv xu, .second, iv ra, iv rg, iv ri, iv rf, iv (1 : Int32), rv a108, rv a110, rv a112, rv a114, rv a116, rv a118, rv a120, rv s2122, rv s2130, rv s2138, rv a149, rv s2152, rv s2160, rv s2168, own_lv (own_min xs (9223372036854775806 : Int64)), .second, own_lv (own_min xu (9223372036854775806 : Int64)), .second, rv a180, rv a184, iv al] [(.int (if s2130 = a110 ∧ s2138 = a112 ∧ a149 = a114 ∧ s2152 = a116 ∧ s2160 = a118 ∧ s2168 = a120 then (1 : Int32) else (0 : Int32)))])
    have sg197 : own_V p e below T196 (mkF m 361 #[iv xp, iv xq, own_lv xs, .second, own_lv xu, .second, iv ra, iv rg, iv ri, iv rf, iv (1 : Int32), rv a108, rv a110, rv a112, rv a114, rv a116, rv a118, rv a120, rv s2122, rv s2130, rv s2138, rv a149, rv s2152, rv s2160, rv s2168, own_lv (own_min xs (9223372036854775806 : Int64)), .second, own_lv (own_min xu (9223372036854775806 : Int64)), .second, rv a180, rv a184, iv al] [(.int al), (.int (if s2130 = a110 ∧ s2138 = a112 ∧ a149 = a114 ∧ s2152 = a116 ∧ s2160 = a118 ∧ s2168 = a120 then (1 : Int32) else (0 : Int32)))]) (mkF m 359 #[iv xp, iv xq, own_lv xs, .second, own_lv xu, .second, iv ra, iv rg, iv ri, iv rf, iv (1 : Int32), rv a108, rv a110, rv a112, rv a114, rv a116, rv a118, rv a120, rv s2122, rv s2130, rv s2138, rv a149, rv s2152, rv s2160, rv s2168, own_lv (own_min xs (9223372036854775806 : Int64)), .second, own_lv (own_min xu (9223372036854775806 : Int64)), .second, rv a180, rv a184, iv al] [(.int (if s2130 = a110 ∧ s2138 = a112 ∧ a149 = a114 ∧ s2152 = a116 ∧ s2160 = a118 ∧ s2168 = a120 then (1 : Int32) else (0 : Int32)))]) := by
      intro t kt
      refine XS.iload X196.here hx rfl (hb hby at_359) rfl ?_
      show own_S p e below T196 m 361 #[iv xp, iv xq, own_lv xs, .second, own_lv xu, .second, iv ra, iv rg, iv ri, iv rf, iv (1 : Int32), rv a108, rv a110, rv a112, rv a114, rv a116, rv a118, rv a120, rv s2122, rv s2130, rv s2138, rv a149, rv s2152, rv s2160, rv s2168, own_lv (own_min xs (9223372036854775806 : Int64)), .second, own_lv (own_min xu (9223372036854775806 : Int64)), .second, rv a180, rv a184, iv al] [(.int al), (.int (if s2130 = a110 ∧ s2138 = a112 ∧ a149 = a114 ∧ s2152 = a116 ∧ s2160 = a118 ∧ s2168 = a120 then (1 : Int32) else (0 : Int32)))] _
      exact kt
    refine own_st sg197 ?_
    have hc198 : (if s2130 = a110 ∧ s2138 = a112 ∧ a149 = a114 ∧ s2152 = a116 ∧ s2160 = a118 ∧ s2168 = a120 then (1 : Int32) else (0 : Int32)) = al := own_l6' hal Q130 Q138 Qz Q152 Q160 Q168
    have sg199 : own_V p e below T196 (mkF m 364 #[iv xp, iv xq, own_lv xs, .second, own_lv xu, .second, iv ra, iv rg, iv ri, iv rf, iv (1 : Int32), rv a108, rv a110, rv a112, rv a114, rv a116, rv a118, rv a120, rv s2122, rv s2130, rv s2138, rv a149, rv s2152, rv s2160, rv s2168, own_lv (own_min xs (9223372036854775806 : Int64)), .second, own_lv (own_min xu (9223372036854775806 : Int64)), .second, rv a180, rv a184, iv al] []) (mkF m 361 #[iv xp, iv xq, own_lv xs, .second, own_lv xu, .second, iv ra, iv rg, iv ri, iv rf, iv (1 : Int32), rv a108, rv a110, rv a112, rv a114, rv a116, rv a118, rv a120, rv s2122, rv s2130, rv s2138, rv a149, rv s2152, rv s2160, rv s2168, own_lv (own_min xs (9223372036854775806 : Int64)), .second, own_lv (own_min xu (9223372036854775806 : Int64)), .second, rv a180, rv a184, iv al] [(.int al), (.int (if s2130 = a110 ∧ s2138 = a112 ∧ a149 = a114 ∧ s2152 = a116 ∧ s2160 = a118 ∧ s2168 = a120 then (1 : Int32) else (0 : Int32)))]) := by
      intro t kt
      refine XS.icmpNo X196.here hx rfl (hb hby at_361) rfl (teq hc198).2 ?_
      exact kt
    refine own_st sg199 ?_
    have sg200 : own_V p e below T196 (mkF m 368 #[iv xp, iv xq, own_lv xs, .second, own_lv xu, .second, iv ra, iv rg, iv ri, iv rf, iv (1 : Int32), rv a108, rv a110, rv a112, rv a114, rv a116, rv a118, rv a120, rv s2122, rv s2130, rv s2138, rv a149, rv s2152, rv s2160, rv s2168, own_lv (own_min xs (9223372036854775806 : Int64)), .second, own_lv (own_min xu (9223372036854775806 : Int64)), .second, rv a180, rv a184, iv al] [(.ref a180), (.ref a180)]) (mkF m 364 #[iv xp, iv xq, own_lv xs, .second, own_lv xu, .second, iv ra, iv rg, iv ri, iv rf, iv (1 : Int32), rv a108, rv a110, rv a112, rv a114, rv a116, rv a118, rv a120, rv s2122, rv s2130, rv s2138, rv a149, rv s2152, rv s2160, rv s2168, own_lv (own_min xs (9223372036854775806 : Int64)), .second, own_lv (own_min xu (9223372036854775806 : Int64)), .second, rv a180, rv a184, iv al] []) := by
      intro t kt
      refine XS.aload X196.here hx rfl (hb hby at_364) rfl rfl ?_
      show own_S p e below T196 m 366 #[iv xp, iv xq, own_lv xs, .second, own_lv xu, .second, iv ra, iv rg, iv ri, iv rf, iv (1 : Int32), rv a108, rv a110, rv a112, rv a114, rv a116, rv a118, rv a120, rv s2122, rv s2130, rv s2138, rv a149, rv s2152, rv s2160, rv s2168, own_lv (own_min xs (9223372036854775806 : Int64)), .second, own_lv (own_min xu (9223372036854775806 : Int64)), .second, rv a180, rv a184, iv al] [(.ref a180)] _
      refine XS.aload X196.here hx rfl (hb hby at_366) rfl rfl ?_
      show own_S p e below T196 m 368 #[iv xp, iv xq, own_lv xs, .second, own_lv xu, .second, iv ra, iv rg, iv ri, iv rf, iv (1 : Int32), rv a108, rv a110, rv a112, rv a114, rv a116, rv a118, rv a120, rv s2122, rv s2130, rv s2138, rv a149, rv s2152, rv s2160, rv s2168, own_lv (own_min xs (9223372036854775806 : Int64)), .second, own_lv (own_min xu (9223372036854775806 : Int64)), .second, rv a180, rv a184, iv al] [(.ref a180), (.ref a180)] _
      exact kt
    refine own_st sg200 ?_
    obtain ⟨_, T201, L201, X201, hQ201, st201⟩ := own_callV (y := (⟨"com/example/coverfold/coverfold/Usage", "sharesTextsOfKind", "(Lcom/example/coverfold/coverfold/Usage;)Z"⟩ : MethodName)) (y0 := (⟨"com/example/coverfold/coverfold/Usage", "sharesTextsOfKind", "(Lcom/example/coverfold/coverfold/Usage;)Z"⟩ : MethodName)) (a := a180) (C := "com/example/coverfold/coverfold/Usage") X196 hx hZ hown U1_186.1 (hw _ (List.mem_of_getElem? (i := 109) rfl)) (hw _ (List.mem_of_getElem? (i := 110) rfl)) (hw _ (List.mem_of_getElem? (i := 112) rfl)) (notFace_of_selects (args := #[]) (mvT hZ (hw _ (List.mem_of_getElem? (i := 112) rfl)))) (hw _ (List.mem_of_getElem? (i := 111) rfl)) (hw _ (List.mem_of_getElem? (i := 44) rfl)) (hw _ (List.mem_of_getElem? (i := 113) rfl)) (by decide) (own_rmshr l Z a0 hw a180 a180 a110 a112 a114 a116 a118 a120 a110 a112 a114 a116 a118 a120 T186.heap n0 Z186 U1_186 U1_186) e196 (g := (mkF m 368 #[iv xp, iv xq, own_lv xs, .second, own_lv xu, .second, iv ra, iv rg, iv ri, iv rf, iv (1 : Int32), rv a108, rv a110, rv a112, rv a114, rv a116, rv a118, rv a120, rv s2122, rv s2130, rv s2138, rv a149, rv s2152, rv s2160, rv s2168, own_lv (own_min xs (9223372036854775806 : Int64)), .second, own_lv (own_min xu (9223372036854775806 : Int64)), .second, rv a180, rv a184, iv al] [(.ref a180), (.ref a180)])) rfl (by rw [hml]; rfl) (argsL := [(.ref a180)]) (rest := []) (lenOf own_pd18 rfl) rfl (W := 0) (by show 2 * 0 + _ ≤ _; exact Nat.le_of_eq rfl) (hb hby at_368) (by decide) (by decide) (by decide) (by decide)
    obtain ⟨rfl, Nq201, e201⟩ := hQ201
    refine own_st st201 ?_
    have N201 := Fr.app N196 Nq201
    show own_Go p e below _ T201 (mkF m 371 #[iv xp, iv xq, own_lv xs, .second, own_lv xu, .second, iv ra, iv rg, iv ri, iv rf, iv (1 : Int32), rv a108, rv a110, rv a112, rv a114, rv a116, rv a118, rv a120, rv s2122, rv s2130, rv s2138, rv a149, rv s2152, rv s2160, rv s2168, own_lv (own_min xs (9223372036854775806 : Int64)), .second, own_lv (own_min xu (9223372036854775806 : Int64)), .second, rv a180, rv a184, iv al] [(.int (if a110 = a110 ∧ a112 = a112 ∧ a114 = a114 ∧ a116 = a116 ∧ a118 = a118 ∧ a120 = a120 then (1 : Int32) else (0 : Int32)))])
    have hc202 : ¬ (if a110 = a110 ∧ a112 = a112 ∧ a114 = a114 ∧ a116 = a116 ∧ a118 = a118 ∧ a120 = a120 then (1 : Int32) else (0 : Int32)) = (0 : Int32) := by rw [if_pos ⟨rfl, rfl, rfl, rfl, rfl, rfl⟩]; decide
    have sg203 : own_V p e below T201 (mkF m 374 #[iv xp, iv xq, own_lv xs, .second, own_lv xu, .second, iv ra, iv rg, iv ri, iv rf, iv (1 : Int32), rv a108, rv a110, rv a112, rv a114, rv a116, rv a118, rv a120, rv s2122, rv s2130, rv s2138, rv a149, rv s2152, rv s2160, rv s2168, own_lv (own_min xs (9223372036854775806 : Int64)), .second, own_lv (own_min xu (9223372036854775806 : Int64)), .second, rv a180, rv a184, iv al] []) (mkF m 371 #[iv xp, iv xq, own_lv xs, .second, own_lv xu, .second, iv ra, iv rg, iv ri, iv rf, iv (1 : Int32), rv a108, rv a110, rv a112, rv a114, rv a116, rv a118, rv a120, rv s2122, rv s2130, rv s2138, rv a149, rv s2152, rv s2160, rv s2168, own_lv (own_min xs (9223372036854775806 : Int64)), .second, own_lv (own_min xu (9223372036854775806 : Int64)), .second, rv a180, rv a184, iv al] [(.int (if a110 = a110 ∧ a112 = a112 ∧ a114 = a114 ∧ a116 = a116 ∧ a118 = a118 ∧ a120 = a120 then (1 : Int32) else (0 : Int32)))]) := by
      intro t kt
      refine XS.ifNo X201.here hx rfl (hb hby at_371) rfl ((if0 _ _).trans (feq hc202).1) ?_
      exact kt
    refine own_st sg203 ?_
    have sg204 : own_V p e below T201 (mkF m 379 #[iv xp, iv xq, own_lv xs, .second, own_lv xu, .second, iv ra, iv rg, iv ri, iv rf, iv (1 : Int32), rv a108, rv a110, rv a112, rv a114, rv a116, rv a118, rv a120, rv s2122, rv s2130, rv s2138, rv a149, rv s2152, rv s2160, rv s2168, own_lv (own_min xs (9223372036854775806 : Int64)), .second, own_lv (own_min xu (9223372036854775806 : Int64)), .second, rv a180, rv a184, iv al] [(.int (1 : Int32))]) (mkF m 374 #[iv xp, iv xq, own_lv xs, .second, own_lv xu, .second, iv ra, iv rg, iv ri, iv rf, iv (1 : Int32), rv a108, rv a110, rv a112, rv a114, rv a116, rv a118, rv a120, rv s2122, rv s2130, rv s2138, rv a149, rv s2152, rv s2160, rv s2168, own_lv (own_min xs (9223372036854775806 : Int64)), .second, own_lv (own_min xu (9223372036854775806 : Int64)), .second, rv a180, rv a184, iv al] []) := by
      intro t kt
      refine XS.iconst X201.here hx rfl (hb hby at_374) ?_
      show own_S p e below T201 m 375 #[iv xp, iv xq, own_lv xs, .second, own_lv xu, .second, iv ra, iv rg, iv ri, iv rf, iv (1 : Int32), rv a108, rv a110, rv a112, rv a114, rv a116, rv a118, rv a120, rv s2122, rv s2130, rv s2138, rv a149, rv s2152, rv s2160, rv s2168, own_lv (own_min xs (9223372036854775806 : Int64)), .second, own_lv (own_min xu (9223372036854775806 : Int64)), .second, rv a180, rv a184, iv al] [(.int (1 : Int32))] _
      refine XS.goto X201.here hx rfl (pc0 := 375) (pc' := 379) rfl (hb hby at_375) (by decide) (by decide) ?_
      show own_S p e below T201 m 379 #[iv xp, iv xq, own_lv xs, .second, own_lv xu, .second, iv ra, iv rg, iv ri, iv rf, iv (1 : Int32), rv a108, rv a110, rv a112, rv a114, rv a116, rv a118, rv a120, rv s2122, rv s2130, rv s2138, rv a149, rv s2152, rv s2160, rv s2168, own_lv (own_min xs (9223372036854775806 : Int64)), .second, own_lv (own_min xu (9223372036854775806 : Int64)), .second, rv a180, rv a184, iv al] [(.int (1 : Int32))] _
      exact kt
    refine own_st sg204 ?_
    exact own_retZJ (s := s) (vm1 := T149.vm) X201 hx I149 kk186 Bd.notSynchronized Bd.returns (hb hby at_379) (by decide) (by decide) (by decide) e201 ⟨rfl, N201⟩
  have sg205 : own_V p e below T138 (mkF m 173 #[iv xp, iv xq, own_lv xs, .second, own_lv xu, .second, iv ra, iv rg, iv ri, iv rf, iv (1 : Int32), rv a108, rv a110, rv a112, rv a114, rv a116, rv a118, rv a120, rv s2122, rv s2130, rv s2138, .unset, .unset, .unset, .unset, .unset, .unset, .unset, .unset, .unset, .unset, .unset] []) (mkF m 170 #[iv xp, iv xq, own_lv xs, .second, own_lv xu, .second, iv ra, iv rg, iv ri, iv rf, iv (1 : Int32), rv a108, rv a110, rv a112, rv a114, rv a116, rv a118, rv a120, rv s2122, rv s2130, rv s2138, .unset, .unset, .unset, .unset, .unset, .unset, .unset, .unset, .unset, .unset, .unset] [(.int (xp &&& (4 : Int32)))]) := by
    intro t kt
    refine XS.ifNo X138.here hx rfl (hb hby at_170) rfl ((if0 _ _).trans (feq hc146).1) ?_
    exact kt
  refine own_st sg205 ?_
  have Qz : (xp &&& (4 : Int32)) = (0 : Int32) ↔ ¬ a114 = a114 := ⟨fun z => absurd z hc146, fun z => absurd rfl z⟩
  have sg206 : own_V p e below T138 (mkF m 187 #[iv xp, iv xq, own_lv xs, .second, own_lv xu, .second, iv ra, iv rg, iv ri, iv rf, iv (1 : Int32), rv a108, rv a110, rv a112, rv a114, rv a116, rv a118, rv a120, rv s2122, rv s2130, rv s2138, rv a114, .unset, .unset, .unset, .unset, .unset, .unset, .unset, .unset, .unset, .unset] []) (mkF m 173 #[iv xp, iv xq, own_lv xs, .second, own_lv xu, .second, iv ra, iv rg, iv ri, iv rf, iv (1 : Int32), rv a108, rv a110, rv a112, rv a114, rv a116, rv a118, rv a120, rv s2122, rv s2130, rv s2138, .unset, .unset, .unset, .unset, .unset, .unset, .unset, .unset, .unset, .unset, .unset] []) := by
    intro t kt
    refine XS.aload X138.here hx rfl (hb hby at_173) rfl rfl ?_
    show own_S p e below T138 m 175 #[iv xp, iv xq, own_lv xs, .second, own_lv xu, .second, iv ra, iv rg, iv ri, iv rf, iv (1 : Int32), rv a108, rv a110, rv a112, rv a114, rv a116, rv a118, rv a120, rv s2122, rv s2130, rv s2138, .unset, .unset, .unset, .unset, .unset, .unset, .unset, .unset, .unset, .unset, .unset] [(.ref a114)] _
    refine XS.goto X138.here hx rfl (pc0 := 175) (pc' := 185) rfl (hb hby at_175) (by decide) (by decide) ?_
    show own_S p e below T138 m 185 #[iv xp, iv xq, own_lv xs, .second, own_lv xu, .second, iv ra, iv rg, iv ri, iv rf, iv (1 : Int32), rv a108, rv a110, rv a112, rv a114, rv a116, rv a118, rv a120, rv s2122, rv s2130, rv s2138, .unset, .unset, .unset, .unset, .unset, .unset, .unset, .unset, .unset, .unset, .unset] [(.ref a114)] _
    refine XS.astore X138.here hx rfl (hb hby at_185) rfl rfl (l' := #[iv xp, iv xq, own_lv xs, .second, own_lv xu, .second, iv ra, iv rg, iv ri, iv rf, iv (1 : Int32), rv a108, rv a110, rv a112, rv a114, rv a116, rv a118, rv a120, rv s2122, rv s2130, rv s2138, rv a114, .unset, .unset, .unset, .unset, .unset, .unset, .unset, .unset, .unset, .unset]) rfl ?_
    show own_S p e below T138 m 187 #[iv xp, iv xq, own_lv xs, .second, own_lv xu, .second, iv ra, iv rg, iv ri, iv rf, iv (1 : Int32), rv a108, rv a110, rv a112, rv a114, rv a116, rv a118, rv a120, rv s2122, rv s2130, rv s2138, rv a114, .unset, .unset, .unset, .unset, .unset, .unset, .unset, .unset, .unset, .unset] [] _
    exact kt
  refine own_st sg206 ?_
  have sg207 : own_V p e below T138 (mkF m 191 #[iv xp, iv xq, own_lv xs, .second, own_lv xu, .second, iv ra, iv rg, iv ri, iv rf, iv (1 : Int32), rv a108, rv a110, rv a112, rv a114, rv a116, rv a118, rv a120, rv s2122, rv s2130, rv s2138, rv a114, .unset, .unset, .unset, .unset, .unset, .unset, .unset, .unset, .unset, .unset] [(.int (xp &&& (8 : Int32)))]) (mkF m 187 #[iv xp, iv xq, own_lv xs, .second, own_lv xu, .second, iv ra, iv rg, iv ri, iv rf, iv (1 : Int32), rv a108, rv a110, rv a112, rv a114, rv a116, rv a118, rv a120, rv s2122, rv s2130, rv s2138, rv a114, .unset, .unset, .unset, .unset, .unset, .unset, .unset, .unset, .unset, .unset] []) := by
    intro t kt
    refine XS.iloadN X138.here hx rfl (hb hby at_187) rfl ?_
    show own_S p e below T138 m 188 #[iv xp, iv xq, own_lv xs, .second, own_lv xu, .second, iv ra, iv rg, iv ri, iv rf, iv (1 : Int32), rv a108, rv a110, rv a112, rv a114, rv a116, rv a118, rv a120, rv s2122, rv s2130, rv s2138, rv a114, .unset, .unset, .unset, .unset, .unset, .unset, .unset, .unset, .unset, .unset] [(.int xp)] _
    refine XS.bipush X138.here hx rfl (hb hby at_188) ?_
    show own_S p e below T138 m 190 #[iv xp, iv xq, own_lv xs, .second, own_lv xu, .second, iv ra, iv rg, iv ri, iv rf, iv (1 : Int32), rv a108, rv a110, rv a112, rv a114, rv a116, rv a118, rv a120, rv s2122, rv s2130, rv s2138, rv a114, .unset, .unset, .unset, .unset, .unset, .unset, .unset, .unset, .unset, .unset] [(.int (8 : Int32)), (.int xp)] _
    refine XS.iand X138.here hx rfl (hb hby at_190) rfl ?_
    show own_S p e below T138 m 191 #[iv xp, iv xq, own_lv xs, .second, own_lv xu, .second, iv ra, iv rg, iv ri, iv rf, iv (1 : Int32), rv a108, rv a110, rv a112, rv a114, rv a116, rv a118, rv a120, rv s2122, rv s2130, rv s2138, rv a114, .unset, .unset, .unset, .unset, .unset, .unset, .unset, .unset, .unset, .unset] [(.int (xp &&& (8 : Int32)))] _
    exact kt
  refine own_st sg207 ?_
  obtain ⟨T208, _, ⟨h208, L208, s2208, b2208, rfl, X208, e208, N208, Z208, K208, S208, Q208⟩, st208⟩ : own_Pk p e below (fun T' f' => ∃ (h' : Heap) (locs' : List Loc) (s2 : Nat) (b2 : Nat), f' = (mkF m 204 #[iv xp, iv xq, own_lv xs, .second, own_lv xu, .second, iv ra, iv rg, iv ri, iv rf, iv (1 : Int32), rv a108, rv a110, rv a112, rv a114, rv a116, rv a118, rv a120, rv s2122, rv s2130, rv s2138, rv a114, .unset, .unset, .unset, .unset, .unset, .unset, .unset, .unset, .unset, .unset] [(.ref s2)]) ∧ Stand p l e room_1 (s.setVm T114.vm) m #[(.int xp), (.int xq), (.long xs), (.long xu)] below meth c T' locs' 34 68 ∧ T'.heap = h' ∧ Fr n0 locs' ∧ n0 ≤ h'.size ∧ (Keep h138 h' [] ∧ own_Str Z h' s2 b2 1 (fun _ => own_txc ri) ∧ ((xp &&& (8 : Int32)) = (0 : Int32) ↔ ¬ a116 = s2))) T138 (mkF m 191 #[iv xp, iv xq, own_lv xs, .second, own_lv xu, .second, iv ra, iv rg, iv ri, iv rf, iv (1 : Int32), rv a108, rv a110, rv a112, rv a114, rv a116, rv a118, rv a120, rv s2122, rv s2130, rv s2138, rv a114, .unset, .unset, .unset, .unset, .unset, .unset, .unset, .unset, .unset, .unset] [(.int (xp &&& (8 : Int32)))]) := by
    by_cases hc209 : (xp &&& (8 : Int32)) = (0 : Int32)
    · skip
      have sg210 : own_V p e below T138 (mkF m 199 #[iv xp, iv xq, own_lv xs, .second, own_lv xu, .second, iv ra, iv rg, iv ri, iv rf, iv (1 : Int32), rv a108, rv a110, rv a112, rv a114, rv a116, rv a118, rv a120, rv s2122, rv s2130, rv s2138, rv a114, .unset, .unset, .unset, .unset, .unset, .unset, .unset, .unset, .unset, .unset] []) (mkF m 191 #[iv xp, iv xq, own_lv xs, .second, own_lv xu, .second, iv ra, iv rg, iv ri, iv rf, iv (1 : Int32), rv a108, rv a110, rv a112, rv a114, rv a116, rv a118, rv a120, rv s2122, rv s2130, rv s2138, rv a114, .unset, .unset, .unset, .unset, .unset, .unset, .unset, .unset, .unset, .unset] [(.int (xp &&& (8 : Int32)))]) := by
        intro t kt
        refine XS.ifYes X138.here hx rfl (pc0 := 191) (pc' := 199) rfl (hb hby at_191) rfl ((if0 _ _).trans (teq hc209).1) (by decide) (by decide) ?_
        exact kt
      refine own_sp sg210 ?_
      have sg211 : own_V p e below T138 (mkF m 201 #[iv xp, iv xq, own_lv xs, .second, own_lv xu, .second, iv ra, iv rg, iv ri, iv rf, iv (1 : Int32), rv a108, rv a110, rv a112, rv a114, rv a116, rv a118, rv a120, rv s2122, rv s2130, rv s2138, rv a114, .unset, .unset, .unset, .unset, .unset, .unset, .unset, .unset, .unset, .unset] [(.int ri)]) (mkF m 199 #[iv xp, iv xq, own_lv xs, .second, own_lv xu, .second, iv ra, iv rg, iv ri, iv rf, iv (1 : Int32), rv a108, rv a110, rv a112, rv a114, rv a116, rv a118, rv a120, rv s2122, rv s2130, rv s2138, rv a114, .unset, .unset, .unset, .unset, .unset, .unset, .unset, .unset, .unset, .unset] []) := by
        intro t kt
        refine XS.iload X138.here hx rfl (hb hby at_199) rfl ?_
        show own_S p e below T138 m 201 #[iv xp, iv xq, own_lv xs, .second, own_lv xu, .second, iv ra, iv rg, iv ri, iv rf, iv (1 : Int32), rv a108, rv a110, rv a112, rv a114, rv a116, rv a118, rv a120, rv s2122, rv s2130, rv s2138, rv a114, .unset, .unset, .unset, .unset, .unset, .unset, .unset, .unset, .unset, .unset] [(.int ri)] _
        exact kt
      refine own_sp sg211 ?_
      obtain ⟨_, T212, L212, X212, hQ212, st212⟩ := own_callS (y := (⟨"com/example/coverfold/coverfold/UsageSharesTextsOfKindPinLaw", "text", "(I)Ljava/lang/String;"⟩ : MethodName)) X138 hx hZ hown (hw _ (List.mem_of_getElem? (i := 0) rfl)) (hw _ (List.mem_of_getElem? (i := 1) rfl)) (hw _ (List.mem_of_getElem? (i := 2) rfl)) (hw _ (List.mem_of_getElem? (i := 3) rfl)) (by decide) (own_rmtx l Z a0 hw ri cc h138 n0 Z138 SC_138 hcc) e138 (g := (mkF m 201 #[iv xp, iv xq, own_lv xs, .second, own_lv xu, .second, iv ra, iv rg, iv ri, iv rf, iv (1 : Int32), rv a108, rv a110, rv a112, rv a114, rv a116, rv a118, rv a120, rv s2122, rv s2130, rv s2138, rv a114, .unset, .unset, .unset, .unset, .unset, .unset, .unset, .unset, .unset, .unset] [(.int ri)])) rfl (by rw [hml]; rfl) (argsL := [(.int ri)]) (rest := []) (lenOf own_pd14 rfl) rfl (W := 0) (by show 2 * 0 + _ ≤ _; exact Nat.le_of_eq rfl) (hb hby at_201) (by decide) (by decide) (by decide) (by decide)
      obtain ⟨a212, b212, rfl, Nq212, K212, sa212, sb212, S212⟩ := hQ212
      refine own_sp st212 ?_
      have Z212 : n0 ≤ T212.heap.size := Nat.le_trans Z138 K212.1
      have kk212 : T114.heap.size ≤ T212.heap.size := Nat.le_trans kk138 K212.1
      have N212 := Fr.app N138 Nq212
      show own_Pk p e below _ T212 (mkF m 204 #[iv xp, iv xq, own_lv xs, .second, own_lv xu, .second, iv ra, iv rg, iv ri, iv rf, iv (1 : Int32), rv a108, rv a110, rv a112, rv a114, rv a116, rv a118, rv a120, rv s2122, rv s2130, rv s2138, rv a114, .unset, .unset, .unset, .unset, .unset, .unset, .unset, .unset, .unset, .unset] [(.ref a212)])
      have SC_212 := own_Sta.keep SC_138 K212
      have T15_212 := T15_138.keep K212 nin0 nin0
      exact ⟨T212, _, ⟨_, _, a212, b212, rfl, X212, rfl, N212, Z212, ⟨K212, S212, ⟨fun _ => Nat.ne_of_lt (Nat.lt_of_lt_of_le T15_138.lt sa212), fun _ => hc209⟩⟩⟩, fun t k => k⟩
    have sg213 : own_V p e below T138 (mkF m 194 #[iv xp, iv xq, own_lv xs, .second, own_lv xu, .second, iv ra, iv rg, iv ri, iv rf, iv (1 : Int32), rv a108, rv a110, rv a112, rv a114, rv a116, rv a118, rv a120, rv s2122, rv s2130, rv s2138, rv a114, .unset, .unset, .unset, .unset, .unset, .unset, .unset, .unset, .unset, .unset] []) (mkF m 191 #[iv xp, iv xq, own_lv xs, .second, own_lv xu, .second, iv ra, iv rg, iv ri, iv rf, iv (1 : Int32), rv a108, rv a110, rv a112, rv a114, rv a116, rv a118, rv a120, rv s2122, rv s2130, rv s2138, rv a114, .unset, .unset, .unset, .unset, .unset, .unset, .unset, .unset, .unset, .unset] [(.int (xp &&& (8 : Int32)))]) := by
      intro t kt
      refine XS.ifNo X138.here hx rfl (hb hby at_191) rfl ((if0 _ _).trans (feq hc209).1) ?_
      exact kt
    refine own_sp sg213 ?_
    have sg214 : own_V p e below T138 (mkF m 204 #[iv xp, iv xq, own_lv xs, .second, own_lv xu, .second, iv ra, iv rg, iv ri, iv rf, iv (1 : Int32), rv a108, rv a110, rv a112, rv a114, rv a116, rv a118, rv a120, rv s2122, rv s2130, rv s2138, rv a114, .unset, .unset, .unset, .unset, .unset, .unset, .unset, .unset, .unset, .unset] [(.ref a116)]) (mkF m 194 #[iv xp, iv xq, own_lv xs, .second, own_lv xu, .second, iv ra, iv rg, iv ri, iv rf, iv (1 : Int32), rv a108, rv a110, rv a112, rv a114, rv a116, rv a118, rv a120, rv s2122, rv s2130, rv s2138, rv a114, .unset, .unset, .unset, .unset, .unset, .unset, .unset, .unset, .unset, .unset] []) := by
      intro t kt
      refine XS.aload X138.here hx rfl (hb hby at_194) rfl rfl ?_
      show own_S p e below T138 m 196 #[iv xp, iv xq, own_lv xs, .second, own_lv xu, .second, iv ra, iv rg, iv ri, iv rf, iv (1 : Int32), rv a108, rv a110, rv a112, rv a114, rv a116, rv a118, rv a120, rv s2122, rv s2130, rv s2138, rv a114, .unset, .unset, .unset, .unset, .unset, .unset, .unset, .unset, .unset, .unset] [(.ref a116)] _
      refine XS.goto X138.here hx rfl (pc0 := 196) (pc' := 204) rfl (hb hby at_196) (by decide) (by decide) ?_
      show own_S p e below T138 m 204 #[iv xp, iv xq, own_lv xs, .second, own_lv xu, .second, iv ra, iv rg, iv ri, iv rf, iv (1 : Int32), rv a108, rv a110, rv a112, rv a114, rv a116, rv a118, rv a120, rv s2122, rv s2130, rv s2138, rv a114, .unset, .unset, .unset, .unset, .unset, .unset, .unset, .unset, .unset, .unset] [(.ref a116)] _
      exact kt
    refine own_sp sg214 ?_
    have XM := X138.mono (cells' := 34) (slots' := 68) (by decide) (by decide)
    exact ⟨T138, _, ⟨_, _, a116, b116, rfl, XM, e138, N138, Z138, ⟨Keep.refl _ [], T15_138, ⟨fun z => absurd z hc209, fun z => absurd rfl z⟩⟩⟩, fun t k => k⟩
  refine own_st st208 ?_
  show own_Go p e below _ T208 (mkF m 204 #[iv xp, iv xq, own_lv xs, .second, own_lv xu, .second, iv ra, iv rg, iv ri, iv rf, iv (1 : Int32), rv a108, rv a110, rv a112, rv a114, rv a116, rv a118, rv a120, rv s2122, rv s2130, rv s2138, rv a114, .unset, .unset, .unset, .unset, .unset, .unset, .unset, .unset, .unset, .unset] [(.ref s2208)])
  have SC_208 := own_Sta.keep SC_138 K208
  have T11_208 := T11_138.keep K208 nin0 nin0
  have T12_208 := T12_138.keep K208 nin0 nin0
  have T13_208 := T13_138.keep K208 nin0 nin0
  have T14_208 := T14_138.keep K208 nin0 nin0
  have SL_208 := SL_138.keep K208 nin0 nin0
  have T15_208 := T15_138.keep K208 nin0 nin0
  have T16_208 := T16_138.keep K208 nin0 nin0
  have T17_208 := T17_138.keep K208 nin0 nin0
  have T11b_208 := T11b_138.keep K208 nin0 nin0
  have T12b_208 := T12b_138.keep K208 nin0 nin0
  have T13b_208 := S138.keep K208 nin0 nin0
  have kk208 : T114.heap.size ≤ h208.size := Nat.le_trans kk138 K208.1
  have sg215 : own_V p e below T208 (mkF m 210 #[iv xp, iv xq, own_lv xs, .second, own_lv xu, .second, iv ra, iv rg, iv ri, iv rf, iv (1 : Int32), rv a108, rv a110, rv a112, rv a114, rv a116, rv a118, rv a120, rv s2122, rv s2130, rv s2138, rv a114, rv s2208, .unset, .unset, .unset, .unset, .unset, .unset, .unset, .unset, .unset] [(.int (xp &&& (16 : Int32)))]) (mkF m 204 #[iv xp, iv xq, own_lv xs, .second, own_lv xu, .second, iv ra, iv rg, iv ri, iv rf, iv (1 : Int32), rv a108, rv a110, rv a112, rv a114, rv a116, rv a118, rv a120, rv s2122, rv s2130, rv s2138, rv a114, .unset, .unset, .unset, .unset, .unset, .unset, .unset, .unset, .unset, .unset] [(.ref s2208)]) := by
    intro t kt
    refine XS.astore X208.here hx rfl (hb hby at_204) rfl rfl (l' := #[iv xp, iv xq, own_lv xs, .second, own_lv xu, .second, iv ra, iv rg, iv ri, iv rf, iv (1 : Int32), rv a108, rv a110, rv a112, rv a114, rv a116, rv a118, rv a120, rv s2122, rv s2130, rv s2138, rv a114, rv s2208, .unset, .unset, .unset, .unset, .unset, .unset, .unset, .unset, .unset]) rfl ?_
    show own_S p e below T208 m 206 #[iv xp, iv xq, own_lv xs, .second, own_lv xu, .second, iv ra, iv rg, iv ri, iv rf, iv (1 : Int32), rv a108, rv a110, rv a112, rv a114, rv a116, rv a118, rv a120, rv s2122, rv s2130, rv s2138, rv a114, rv s2208, .unset, .unset, .unset, .unset, .unset, .unset, .unset, .unset, .unset] [] _
    refine XS.iloadN X208.here hx rfl (hb hby at_206) rfl ?_
    show own_S p e below T208 m 207 #[iv xp, iv xq, own_lv xs, .second, own_lv xu, .second, iv ra, iv rg, iv ri, iv rf, iv (1 : Int32), rv a108, rv a110, rv a112, rv a114, rv a116, rv a118, rv a120, rv s2122, rv s2130, rv s2138, rv a114, rv s2208, .unset, .unset, .unset, .unset, .unset, .unset, .unset, .unset, .unset] [(.int xp)] _
    refine XS.bipush X208.here hx rfl (hb hby at_207) ?_
    show own_S p e below T208 m 209 #[iv xp, iv xq, own_lv xs, .second, own_lv xu, .second, iv ra, iv rg, iv ri, iv rf, iv (1 : Int32), rv a108, rv a110, rv a112, rv a114, rv a116, rv a118, rv a120, rv s2122, rv s2130, rv s2138, rv a114, rv s2208, .unset, .unset, .unset, .unset, .unset, .unset, .unset, .unset, .unset] [(.int (16 : Int32)), (.int xp)] _
    refine XS.iand X208.here hx rfl (hb hby at_209) rfl ?_
    show own_S p e below T208 m 210 #[iv xp, iv xq, own_lv xs, .second, own_lv xu, .second, iv ra, iv rg, iv ri, iv rf, iv (1 : Int32), rv a108, rv a110, rv a112, rv a114, rv a116, rv a118, rv a120, rv s2122, rv s2130, rv s2138, rv a114, rv s2208, .unset, .unset, .unset, .unset, .unset, .unset, .unset, .unset, .unset] [(.int (xp &&& (16 : Int32)))] _
    exact kt
  refine own_st sg215 ?_
  obtain ⟨T216, _, ⟨h216, L216, s2216, b2216, rfl, X216, e216, N216, Z216, K216, S216, Q216⟩, st216⟩ : own_Pk p e below (fun T' f' => ∃ (h' : Heap) (locs' : List Loc) (s2 : Nat) (b2 : Nat), f' = (mkF m 223 #[iv xp, iv xq, own_lv xs, .second, own_lv xu, .second, iv ra, iv rg, iv ri, iv rf, iv (1 : Int32), rv a108, rv a110, rv a112, rv a114, rv a116, rv a118, rv a120, rv s2122, rv s2130, rv s2138, rv a114, rv s2208, .unset, .unset, .unset, .unset, .unset, .unset, .unset, .unset, .unset] [(.ref s2)]) ∧ Stand p l e room_1 (s.setVm T114.vm) m #[(.int xp), (.int xq), (.long xs), (.long xu)] below meth c T' locs' 37 74 ∧ T'.heap = h' ∧ Fr n0 locs' ∧ n0 ≤ h'.size ∧ (Keep h208 h' [] ∧ own_Str Z h' s2 b2 1 (fun _ => own_txc rf) ∧ ((xp &&& (16 : Int32)) = (0 : Int32) ↔ ¬ a118 = s2))) T208 (mkF m 210 #[iv xp, iv xq, own_lv xs, .second, own_lv xu, .second, iv ra, iv rg, iv ri, iv rf, iv (1 : Int32), rv a108, rv a110, rv a112, rv a114, rv a116, rv a118, rv a120, rv s2122, rv s2130, rv s2138, rv a114, rv s2208, .unset, .unset, .unset, .unset, .unset, .unset, .unset, .unset, .unset] [(.int (xp &&& (16 : Int32)))]) := by
    by_cases hc217 : (xp &&& (16 : Int32)) = (0 : Int32)
    · skip
      have sg218 : own_V p e below T208 (mkF m 218 #[iv xp, iv xq, own_lv xs, .second, own_lv xu, .second, iv ra, iv rg, iv ri, iv rf, iv (1 : Int32), rv a108, rv a110, rv a112, rv a114, rv a116, rv a118, rv a120, rv s2122, rv s2130, rv s2138, rv a114, rv s2208, .unset, .unset, .unset, .unset, .unset, .unset, .unset, .unset, .unset] []) (mkF m 210 #[iv xp, iv xq, own_lv xs, .second, own_lv xu, .second, iv ra, iv rg, iv ri, iv rf, iv (1 : Int32), rv a108, rv a110, rv a112, rv a114, rv a116, rv a118, rv a120, rv s2122, rv s2130, rv s2138, rv a114, rv s2208, .unset, .unset, .unset, .unset, .unset, .unset, .unset, .unset, .unset] [(.int (xp &&& (16 : Int32)))]) := by
        intro t kt
        refine XS.ifYes X208.here hx rfl (pc0 := 210) (pc' := 218) rfl (hb hby at_210) rfl ((if0 _ _).trans (teq hc217).1) (by decide) (by decide) ?_
        exact kt
      refine own_sp sg218 ?_
      have sg219 : own_V p e below T208 (mkF m 220 #[iv xp, iv xq, own_lv xs, .second, own_lv xu, .second, iv ra, iv rg, iv ri, iv rf, iv (1 : Int32), rv a108, rv a110, rv a112, rv a114, rv a116, rv a118, rv a120, rv s2122, rv s2130, rv s2138, rv a114, rv s2208, .unset, .unset, .unset, .unset, .unset, .unset, .unset, .unset, .unset] [(.int rf)]) (mkF m 218 #[iv xp, iv xq, own_lv xs, .second, own_lv xu, .second, iv ra, iv rg, iv ri, iv rf, iv (1 : Int32), rv a108, rv a110, rv a112, rv a114, rv a116, rv a118, rv a120, rv s2122, rv s2130, rv s2138, rv a114, rv s2208, .unset, .unset, .unset, .unset, .unset, .unset, .unset, .unset, .unset] []) := by
        intro t kt
        refine XS.iload X208.here hx rfl (hb hby at_218) rfl ?_
        show own_S p e below T208 m 220 #[iv xp, iv xq, own_lv xs, .second, own_lv xu, .second, iv ra, iv rg, iv ri, iv rf, iv (1 : Int32), rv a108, rv a110, rv a112, rv a114, rv a116, rv a118, rv a120, rv s2122, rv s2130, rv s2138, rv a114, rv s2208, .unset, .unset, .unset, .unset, .unset, .unset, .unset, .unset, .unset] [(.int rf)] _
        exact kt
      refine own_sp sg219 ?_
      obtain ⟨_, T220, L220, X220, hQ220, st220⟩ := own_callS (y := (⟨"com/example/coverfold/coverfold/UsageSharesTextsOfKindPinLaw", "text", "(I)Ljava/lang/String;"⟩ : MethodName)) X208 hx hZ hown (hw _ (List.mem_of_getElem? (i := 0) rfl)) (hw _ (List.mem_of_getElem? (i := 1) rfl)) (hw _ (List.mem_of_getElem? (i := 2) rfl)) (hw _ (List.mem_of_getElem? (i := 3) rfl)) (by decide) (own_rmtx l Z a0 hw rf cc h208 n0 Z208 SC_208 hcc) e208 (g := (mkF m 220 #[iv xp, iv xq, own_lv xs, .second, own_lv xu, .second, iv ra, iv rg, iv ri, iv rf, iv (1 : Int32), rv a108, rv a110, rv a112, rv a114, rv a116, rv a118, rv a120, rv s2122, rv s2130, rv s2138, rv a114, rv s2208, .unset, .unset, .unset, .unset, .unset, .unset, .unset, .unset, .unset] [(.int rf)])) rfl (by rw [hml]; rfl) (argsL := [(.int rf)]) (rest := []) (lenOf own_pd14 rfl) rfl (W := 0) (by show 2 * 0 + _ ≤ _; exact Nat.le_of_eq rfl) (hb hby at_220) (by decide) (by decide) (by decide) (by decide)
      obtain ⟨a220, b220, rfl, Nq220, K220, sa220, sb220, S220⟩ := hQ220
      refine own_sp st220 ?_
      have Z220 : n0 ≤ T220.heap.size := Nat.le_trans Z208 K220.1
      have kk220 : T114.heap.size ≤ T220.heap.size := Nat.le_trans kk208 K220.1
      have N220 := Fr.app N208 Nq220
      show own_Pk p e below _ T220 (mkF m 223 #[iv xp, iv xq, own_lv xs, .second, own_lv xu, .second, iv ra, iv rg, iv ri, iv rf, iv (1 : Int32), rv a108, rv a110, rv a112, rv a114, rv a116, rv a118, rv a120, rv s2122, rv s2130, rv s2138, rv a114, rv s2208, .unset, .unset, .unset, .unset, .unset, .unset, .unset, .unset, .unset] [(.ref a220)])
      have SC_220 := own_Sta.keep SC_208 K220
      have T16_220 := T16_208.keep K220 nin0 nin0
      exact ⟨T220, _, ⟨_, _, a220, b220, rfl, X220, rfl, N220, Z220, ⟨K220, S220, ⟨fun _ => Nat.ne_of_lt (Nat.lt_of_lt_of_le T16_208.lt sa220), fun _ => hc217⟩⟩⟩, fun t k => k⟩
    have sg221 : own_V p e below T208 (mkF m 213 #[iv xp, iv xq, own_lv xs, .second, own_lv xu, .second, iv ra, iv rg, iv ri, iv rf, iv (1 : Int32), rv a108, rv a110, rv a112, rv a114, rv a116, rv a118, rv a120, rv s2122, rv s2130, rv s2138, rv a114, rv s2208, .unset, .unset, .unset, .unset, .unset, .unset, .unset, .unset, .unset] []) (mkF m 210 #[iv xp, iv xq, own_lv xs, .second, own_lv xu, .second, iv ra, iv rg, iv ri, iv rf, iv (1 : Int32), rv a108, rv a110, rv a112, rv a114, rv a116, rv a118, rv a120, rv s2122, rv s2130, rv s2138, rv a114, rv s2208, .unset, .unset, .unset, .unset, .unset, .unset, .unset, .unset, .unset] [(.int (xp &&& (16 : Int32)))]) := by
      intro t kt
      refine XS.ifNo X208.here hx rfl (hb hby at_210) rfl ((if0 _ _).trans (feq hc217).1) ?_
      exact kt
    refine own_sp sg221 ?_
    have sg222 : own_V p e below T208 (mkF m 223 #[iv xp, iv xq, own_lv xs, .second, own_lv xu, .second, iv ra, iv rg, iv ri, iv rf, iv (1 : Int32), rv a108, rv a110, rv a112, rv a114, rv a116, rv a118, rv a120, rv s2122, rv s2130, rv s2138, rv a114, rv s2208, .unset, .unset, .unset, .unset, .unset, .unset, .unset, .unset, .unset] [(.ref a118)]) (mkF m 213 #[iv xp, iv xq, own_lv xs, .second, own_lv xu, .second, iv ra, iv rg, iv ri, iv rf, iv (1 : Int32), rv a108, rv a110, rv a112, rv a114, rv a116, rv a118, rv a120, rv s2122, rv s2130, rv s2138, rv a114, rv s2208, .unset, .unset, .unset, .unset, .unset, .unset, .unset, .unset, .unset] []) := by
      intro t kt
      refine XS.aload X208.here hx rfl (hb hby at_213) rfl rfl ?_
      show own_S p e below T208 m 215 #[iv xp, iv xq, own_lv xs, .second, own_lv xu, .second, iv ra, iv rg, iv ri, iv rf, iv (1 : Int32), rv a108, rv a110, rv a112, rv a114, rv a116, rv a118, rv a120, rv s2122, rv s2130, rv s2138, rv a114, rv s2208, .unset, .unset, .unset, .unset, .unset, .unset, .unset, .unset, .unset] [(.ref a118)] _
      refine XS.goto X208.here hx rfl (pc0 := 215) (pc' := 223) rfl (hb hby at_215) (by decide) (by decide) ?_
      show own_S p e below T208 m 223 #[iv xp, iv xq, own_lv xs, .second, own_lv xu, .second, iv ra, iv rg, iv ri, iv rf, iv (1 : Int32), rv a108, rv a110, rv a112, rv a114, rv a116, rv a118, rv a120, rv s2122, rv s2130, rv s2138, rv a114, rv s2208, .unset, .unset, .unset, .unset, .unset, .unset, .unset, .unset, .unset] [(.ref a118)] _
      exact kt
    refine own_sp sg222 ?_
    have XM := X208.mono (cells' := 37) (slots' := 74) (by decide) (by decide)
    exact ⟨T208, _, ⟨_, _, a118, b118, rfl, XM, e208, N208, Z208, ⟨Keep.refl _ [], T16_208, ⟨fun z => absurd z hc217, fun z => absurd rfl z⟩⟩⟩, fun t k => k⟩
  refine own_st st216 ?_
  show own_Go p e below _ T216 (mkF m 223 #[iv xp, iv xq, own_lv xs, .second, own_lv xu, .second, iv ra, iv rg, iv ri, iv rf, iv (1 : Int32), rv a108, rv a110, rv a112, rv a114, rv a116, rv a118, rv a120, rv s2122, rv s2130, rv s2138, rv a114, rv s2208, .unset, .unset, .unset, .unset, .unset, .unset, .unset, .unset, .unset] [(.ref s2216)])
  have SC_216 := own_Sta.keep SC_208 K216
  have T11_216 := T11_208.keep K216 nin0 nin0
  have T12_216 := T12_208.keep K216 nin0 nin0
  have T13_216 := T13_208.keep K216 nin0 nin0
  have T14_216 := T14_208.keep K216 nin0 nin0
  have SL_216 := SL_208.keep K216 nin0 nin0
  have T15_216 := T15_208.keep K216 nin0 nin0
  have T16_216 := T16_208.keep K216 nin0 nin0
  have T17_216 := T17_208.keep K216 nin0 nin0
  have T11b_216 := T11b_208.keep K216 nin0 nin0
  have T12b_216 := T12b_208.keep K216 nin0 nin0
  have T13b_216 := T13b_208.keep K216 nin0 nin0
  have T15b_216 := S208.keep K216 nin0 nin0
  have kk216 : T114.heap.size ≤ h216.size := Nat.le_trans kk208 K216.1
  have sg223 : own_V p e below T216 (mkF m 229 #[iv xp, iv xq, own_lv xs, .second, own_lv xu, .second, iv ra, iv rg, iv ri, iv rf, iv (1 : Int32), rv a108, rv a110, rv a112, rv a114, rv a116, rv a118, rv a120, rv s2122, rv s2130, rv s2138, rv a114, rv s2208, rv s2216, .unset, .unset, .unset, .unset, .unset, .unset, .unset, .unset] [(.int (xp &&& (32 : Int32)))]) (mkF m 223 #[iv xp, iv xq, own_lv xs, .second, own_lv xu, .second, iv ra, iv rg, iv ri, iv rf, iv (1 : Int32), rv a108, rv a110, rv a112, rv a114, rv a116, rv a118, rv a120, rv s2122, rv s2130, rv s2138, rv a114, rv s2208, .unset, .unset, .unset, .unset, .unset, .unset, .unset, .unset, .unset] [(.ref s2216)]) := by
    intro t kt
    refine XS.astore X216.here hx rfl (hb hby at_223) rfl rfl (l' := #[iv xp, iv xq, own_lv xs, .second, own_lv xu, .second, iv ra, iv rg, iv ri, iv rf, iv (1 : Int32), rv a108, rv a110, rv a112, rv a114, rv a116, rv a118, rv a120, rv s2122, rv s2130, rv s2138, rv a114, rv s2208, rv s2216, .unset, .unset, .unset, .unset, .unset, .unset, .unset, .unset]) rfl ?_
    show own_S p e below T216 m 225 #[iv xp, iv xq, own_lv xs, .second, own_lv xu, .second, iv ra, iv rg, iv ri, iv rf, iv (1 : Int32), rv a108, rv a110, rv a112, rv a114, rv a116, rv a118, rv a120, rv s2122, rv s2130, rv s2138, rv a114, rv s2208, rv s2216, .unset, .unset, .unset, .unset, .unset, .unset, .unset, .unset] [] _
    refine XS.iloadN X216.here hx rfl (hb hby at_225) rfl ?_
    show own_S p e below T216 m 226 #[iv xp, iv xq, own_lv xs, .second, own_lv xu, .second, iv ra, iv rg, iv ri, iv rf, iv (1 : Int32), rv a108, rv a110, rv a112, rv a114, rv a116, rv a118, rv a120, rv s2122, rv s2130, rv s2138, rv a114, rv s2208, rv s2216, .unset, .unset, .unset, .unset, .unset, .unset, .unset, .unset] [(.int xp)] _
    refine XS.bipush X216.here hx rfl (hb hby at_226) ?_
    show own_S p e below T216 m 228 #[iv xp, iv xq, own_lv xs, .second, own_lv xu, .second, iv ra, iv rg, iv ri, iv rf, iv (1 : Int32), rv a108, rv a110, rv a112, rv a114, rv a116, rv a118, rv a120, rv s2122, rv s2130, rv s2138, rv a114, rv s2208, rv s2216, .unset, .unset, .unset, .unset, .unset, .unset, .unset, .unset] [(.int (32 : Int32)), (.int xp)] _
    refine XS.iand X216.here hx rfl (hb hby at_228) rfl ?_
    show own_S p e below T216 m 229 #[iv xp, iv xq, own_lv xs, .second, own_lv xu, .second, iv ra, iv rg, iv ri, iv rf, iv (1 : Int32), rv a108, rv a110, rv a112, rv a114, rv a116, rv a118, rv a120, rv s2122, rv s2130, rv s2138, rv a114, rv s2208, rv s2216, .unset, .unset, .unset, .unset, .unset, .unset, .unset, .unset] [(.int (xp &&& (32 : Int32)))] _
    exact kt
  refine own_st sg223 ?_
  obtain ⟨T224, _, ⟨h224, L224, s2224, b2224, rfl, X224, e224, N224, Z224, K224, S224, Q224⟩, st224⟩ : own_Pk p e below (fun T' f' => ∃ (h' : Heap) (locs' : List Loc) (s2 : Nat) (b2 : Nat), f' = (mkF m 245 #[iv xp, iv xq, own_lv xs, .second, own_lv xu, .second, iv ra, iv rg, iv ri, iv rf, iv (1 : Int32), rv a108, rv a110, rv a112, rv a114, rv a116, rv a118, rv a120, rv s2122, rv s2130, rv s2138, rv a114, rv s2208, rv s2216, .unset, .unset, .unset, .unset, .unset, .unset, .unset, .unset] [(.ref s2)]) ∧ Stand p l e room_1 (s.setVm T114.vm) m #[(.int xp), (.int xq), (.long xs), (.long xu)] below meth c T' locs' 40 80 ∧ T'.heap = h' ∧ Fr n0 locs' ∧ n0 ≤ h'.size ∧ (Keep h216 h' [] ∧ own_Str Z h' s2 b2 1 (fun _ => own_txc (ra ^^^ rf)) ∧ ((xp &&& (32 : Int32)) = (0 : Int32) ↔ ¬ a120 = s2))) T216 (mkF m 229 #[iv xp, iv xq, own_lv xs, .second, own_lv xu, .second, iv ra, iv rg, iv ri, iv rf, iv (1 : Int32), rv a108, rv a110, rv a112, rv a114, rv a116, rv a118, rv a120, rv s2122, rv s2130, rv s2138, rv a114, rv s2208, rv s2216, .unset, .unset, .unset, .unset, .unset, .unset, .unset, .unset] [(.int (xp &&& (32 : Int32)))]) := by
    by_cases hc225 : (xp &&& (32 : Int32)) = (0 : Int32)
    · skip
      have sg226 : own_V p e below T216 (mkF m 237 #[iv xp, iv xq, own_lv xs, .second, own_lv xu, .second, iv ra, iv rg, iv ri, iv rf, iv (1 : Int32), rv a108, rv a110, rv a112, rv a114, rv a116, rv a118, rv a120, rv s2122, rv s2130, rv s2138, rv a114, rv s2208, rv s2216, .unset, .unset, .unset, .unset, .unset, .unset, .unset, .unset] []) (mkF m 229 #[iv xp, iv xq, own_lv xs, .second, own_lv xu, .second, iv ra, iv rg, iv ri, iv rf, iv (1 : Int32), rv a108, rv a110, rv a112, rv a114, rv a116, rv a118, rv a120, rv s2122, rv s2130, rv s2138, rv a114, rv s2208, rv s2216, .unset, .unset, .unset, .unset, .unset, .unset, .unset, .unset] [(.int (xp &&& (32 : Int32)))]) := by
        intro t kt
        refine XS.ifYes X216.here hx rfl (pc0 := 229) (pc' := 237) rfl (hb hby at_229) rfl ((if0 _ _).trans (teq hc225).1) (by decide) (by decide) ?_
        exact kt
      refine own_sp sg226 ?_
      have sg227 : own_V p e below T216 (mkF m 242 #[iv xp, iv xq, own_lv xs, .second, own_lv xu, .second, iv ra, iv rg, iv ri, iv rf, iv (1 : Int32), rv a108, rv a110, rv a112, rv a114, rv a116, rv a118, rv a120, rv s2122, rv s2130, rv s2138, rv a114, rv s2208, rv s2216, .unset, .unset, .unset, .unset, .unset, .unset, .unset, .unset] [(.int (ra ^^^ rf))]) (mkF m 237 #[iv xp, iv xq, own_lv xs, .second, own_lv xu, .second, iv ra, iv rg, iv ri, iv rf, iv (1 : Int32), rv a108, rv a110, rv a112, rv a114, rv a116, rv a118, rv a120, rv s2122, rv s2130, rv s2138, rv a114, rv s2208, rv s2216, .unset, .unset, .unset, .unset, .unset, .unset, .unset, .unset] []) := by
        intro t kt
        refine XS.iload X216.here hx rfl (hb hby at_237) rfl ?_
        show own_S p e below T216 m 239 #[iv xp, iv xq, own_lv xs, .second, own_lv xu, .second, iv ra, iv rg, iv ri, iv rf, iv (1 : Int32), rv a108, rv a110, rv a112, rv a114, rv a116, rv a118, rv a120, rv s2122, rv s2130, rv s2138, rv a114, rv s2208, rv s2216, .unset, .unset, .unset, .unset, .unset, .unset, .unset, .unset] [(.int ra)] _
        refine XS.iload X216.here hx rfl (hb hby at_239) rfl ?_
        show own_S p e below T216 m 241 #[iv xp, iv xq, own_lv xs, .second, own_lv xu, .second, iv ra, iv rg, iv ri, iv rf, iv (1 : Int32), rv a108, rv a110, rv a112, rv a114, rv a116, rv a118, rv a120, rv s2122, rv s2130, rv s2138, rv a114, rv s2208, rv s2216, .unset, .unset, .unset, .unset, .unset, .unset, .unset, .unset] [(.int rf), (.int ra)] _
        refine XS.ixor X216.here hx rfl (hb hby at_241) rfl ?_
        show own_S p e below T216 m 242 #[iv xp, iv xq, own_lv xs, .second, own_lv xu, .second, iv ra, iv rg, iv ri, iv rf, iv (1 : Int32), rv a108, rv a110, rv a112, rv a114, rv a116, rv a118, rv a120, rv s2122, rv s2130, rv s2138, rv a114, rv s2208, rv s2216, .unset, .unset, .unset, .unset, .unset, .unset, .unset, .unset] [(.int (ra ^^^ rf))] _
        exact kt
      refine own_sp sg227 ?_
      obtain ⟨_, T228, L228, X228, hQ228, st228⟩ := own_callS (y := (⟨"com/example/coverfold/coverfold/UsageSharesTextsOfKindPinLaw", "text", "(I)Ljava/lang/String;"⟩ : MethodName)) X216 hx hZ hown (hw _ (List.mem_of_getElem? (i := 0) rfl)) (hw _ (List.mem_of_getElem? (i := 1) rfl)) (hw _ (List.mem_of_getElem? (i := 2) rfl)) (hw _ (List.mem_of_getElem? (i := 3) rfl)) (by decide) (own_rmtx l Z a0 hw (ra ^^^ rf) cc h216 n0 Z216 SC_216 hcc) e216 (g := (mkF m 242 #[iv xp, iv xq, own_lv xs, .second, own_lv xu, .second, iv ra, iv rg, iv ri, iv rf, iv (1 : Int32), rv a108, rv a110, rv a112, rv a114, rv a116, rv a118, rv a120, rv s2122, rv s2130, rv s2138, rv a114, rv s2208, rv s2216, .unset, .unset, .unset, .unset, .unset, .unset, .unset, .unset] [(.int (ra ^^^ rf))])) rfl (by rw [hml]; rfl) (argsL := [(.int (ra ^^^ rf))]) (rest := []) (lenOf own_pd14 rfl) rfl (W := 0) (by show 2 * 0 + _ ≤ _; exact Nat.le_of_eq rfl) (hb hby at_242) (by decide) (by decide) (by decide) (by decide)
      obtain ⟨a228, b228, rfl, Nq228, K228, sa228, sb228, S228⟩ := hQ228
      refine own_sp st228 ?_
      have Z228 : n0 ≤ T228.heap.size := Nat.le_trans Z216 K228.1
      have kk228 : T114.heap.size ≤ T228.heap.size := Nat.le_trans kk216 K228.1
      have N228 := Fr.app N216 Nq228
      show own_Pk p e below _ T228 (mkF m 245 #[iv xp, iv xq, own_lv xs, .second, own_lv xu, .second, iv ra, iv rg, iv ri, iv rf, iv (1 : Int32), rv a108, rv a110, rv a112, rv a114, rv a116, rv a118, rv a120, rv s2122, rv s2130, rv s2138, rv a114, rv s2208, rv s2216, .unset, .unset, .unset, .unset, .unset, .unset, .unset, .unset] [(.ref a228)])
      have SC_228 := own_Sta.keep SC_216 K228
      have T17_228 := T17_216.keep K228 nin0 nin0
      exact ⟨T228, _, ⟨_, _, a228, b228, rfl, X228, rfl, N228, Z228, ⟨K228, S228, ⟨fun _ => Nat.ne_of_lt (Nat.lt_of_lt_of_le T17_216.lt sa228), fun _ => hc225⟩⟩⟩, fun t k => k⟩
    have sg229 : own_V p e below T216 (mkF m 232 #[iv xp, iv xq, own_lv xs, .second, own_lv xu, .second, iv ra, iv rg, iv ri, iv rf, iv (1 : Int32), rv a108, rv a110, rv a112, rv a114, rv a116, rv a118, rv a120, rv s2122, rv s2130, rv s2138, rv a114, rv s2208, rv s2216, .unset, .unset, .unset, .unset, .unset, .unset, .unset, .unset] []) (mkF m 229 #[iv xp, iv xq, own_lv xs, .second, own_lv xu, .second, iv ra, iv rg, iv ri, iv rf, iv (1 : Int32), rv a108, rv a110, rv a112, rv a114, rv a116, rv a118, rv a120, rv s2122, rv s2130, rv s2138, rv a114, rv s2208, rv s2216, .unset, .unset, .unset, .unset, .unset, .unset, .unset, .unset] [(.int (xp &&& (32 : Int32)))]) := by
      intro t kt
      refine XS.ifNo X216.here hx rfl (hb hby at_229) rfl ((if0 _ _).trans (feq hc225).1) ?_
      exact kt
    refine own_sp sg229 ?_
    have sg230 : own_V p e below T216 (mkF m 245 #[iv xp, iv xq, own_lv xs, .second, own_lv xu, .second, iv ra, iv rg, iv ri, iv rf, iv (1 : Int32), rv a108, rv a110, rv a112, rv a114, rv a116, rv a118, rv a120, rv s2122, rv s2130, rv s2138, rv a114, rv s2208, rv s2216, .unset, .unset, .unset, .unset, .unset, .unset, .unset, .unset] [(.ref a120)]) (mkF m 232 #[iv xp, iv xq, own_lv xs, .second, own_lv xu, .second, iv ra, iv rg, iv ri, iv rf, iv (1 : Int32), rv a108, rv a110, rv a112, rv a114, rv a116, rv a118, rv a120, rv s2122, rv s2130, rv s2138, rv a114, rv s2208, rv s2216, .unset, .unset, .unset, .unset, .unset, .unset, .unset, .unset] []) := by
      intro t kt
      refine XS.aload X216.here hx rfl (hb hby at_232) rfl rfl ?_
      show own_S p e below T216 m 234 #[iv xp, iv xq, own_lv xs, .second, own_lv xu, .second, iv ra, iv rg, iv ri, iv rf, iv (1 : Int32), rv a108, rv a110, rv a112, rv a114, rv a116, rv a118, rv a120, rv s2122, rv s2130, rv s2138, rv a114, rv s2208, rv s2216, .unset, .unset, .unset, .unset, .unset, .unset, .unset, .unset] [(.ref a120)] _
      refine XS.goto X216.here hx rfl (pc0 := 234) (pc' := 245) rfl (hb hby at_234) (by decide) (by decide) ?_
      show own_S p e below T216 m 245 #[iv xp, iv xq, own_lv xs, .second, own_lv xu, .second, iv ra, iv rg, iv ri, iv rf, iv (1 : Int32), rv a108, rv a110, rv a112, rv a114, rv a116, rv a118, rv a120, rv s2122, rv s2130, rv s2138, rv a114, rv s2208, rv s2216, .unset, .unset, .unset, .unset, .unset, .unset, .unset, .unset] [(.ref a120)] _
      exact kt
    refine own_sp sg230 ?_
    have XM := X216.mono (cells' := 40) (slots' := 80) (by decide) (by decide)
    exact ⟨T216, _, ⟨_, _, a120, b120, rfl, XM, e216, N216, Z216, ⟨Keep.refl _ [], T17_216, ⟨fun z => absurd z hc225, fun z => absurd rfl z⟩⟩⟩, fun t k => k⟩
  refine own_st st224 ?_
  show own_Go p e below _ T224 (mkF m 245 #[iv xp, iv xq, own_lv xs, .second, own_lv xu, .second, iv ra, iv rg, iv ri, iv rf, iv (1 : Int32), rv a108, rv a110, rv a112, rv a114, rv a116, rv a118, rv a120, rv s2122, rv s2130, rv s2138, rv a114, rv s2208, rv s2216, .unset, .unset, .unset, .unset, .unset, .unset, .unset, .unset] [(.ref s2224)])
  have SC_224 := own_Sta.keep SC_216 K224
  have T11_224 := T11_216.keep K224 nin0 nin0
  have T12_224 := T12_216.keep K224 nin0 nin0
  have T13_224 := T13_216.keep K224 nin0 nin0
  have T14_224 := T14_216.keep K224 nin0 nin0
  have SL_224 := SL_216.keep K224 nin0 nin0
  have T15_224 := T15_216.keep K224 nin0 nin0
  have T16_224 := T16_216.keep K224 nin0 nin0
  have T17_224 := T17_216.keep K224 nin0 nin0
  have T11b_224 := T11b_216.keep K224 nin0 nin0
  have T12b_224 := T12b_216.keep K224 nin0 nin0
  have T13b_224 := T13b_216.keep K224 nin0 nin0
  have T15b_224 := T15b_216.keep K224 nin0 nin0
  have T16b_224 := S216.keep K224 nin0 nin0
  have kk224 : T114.heap.size ≤ h224.size := Nat.le_trans kk216 K224.1
  have sg231 : own_V p e below T224 (mkF m 251 #[iv xp, iv xq, own_lv xs, .second, own_lv xu, .second, iv ra, iv rg, iv ri, iv rf, iv (1 : Int32), rv a108, rv a110, rv a112, rv a114, rv a116, rv a118, rv a120, rv s2122, rv s2130, rv s2138, rv a114, rv s2208, rv s2216, rv s2224, .unset, .unset, .unset, .unset, .unset, .unset, .unset] [(.long (9223372036854775806 : Int64)), (.long xs)]) (mkF m 245 #[iv xp, iv xq, own_lv xs, .second, own_lv xu, .second, iv ra, iv rg, iv ri, iv rf, iv (1 : Int32), rv a108, rv a110, rv a112, rv a114, rv a116, rv a118, rv a120, rv s2122, rv s2130, rv s2138, rv a114, rv s2208, rv s2216, .unset, .unset, .unset, .unset, .unset, .unset, .unset, .unset] [(.ref s2224)]) := by
    intro t kt
    refine XS.astore X224.here hx rfl (hb hby at_245) rfl rfl (l' := #[iv xp, iv xq, own_lv xs, .second, own_lv xu, .second, iv ra, iv rg, iv ri, iv rf, iv (1 : Int32), rv a108, rv a110, rv a112, rv a114, rv a116, rv a118, rv a120, rv s2122, rv s2130, rv s2138, rv a114, rv s2208, rv s2216, rv s2224, .unset, .unset, .unset, .unset, .unset, .unset, .unset]) rfl ?_
    show own_S p e below T224 m 247 #[iv xp, iv xq, own_lv xs, .second, own_lv xu, .second, iv ra, iv rg, iv ri, iv rf, iv (1 : Int32), rv a108, rv a110, rv a112, rv a114, rv a116, rv a118, rv a120, rv s2122, rv s2130, rv s2138, rv a114, rv s2208, rv s2216, rv s2224, .unset, .unset, .unset, .unset, .unset, .unset, .unset] [] _
    refine XS.lloadN X224.here hx rfl (hb hby at_247) rfl ?_
    show own_S p e below T224 m 248 #[iv xp, iv xq, own_lv xs, .second, own_lv xu, .second, iv ra, iv rg, iv ri, iv rf, iv (1 : Int32), rv a108, rv a110, rv a112, rv a114, rv a116, rv a118, rv a120, rv s2122, rv s2130, rv s2138, rv a114, rv s2208, rv s2216, rv s2224, .unset, .unset, .unset, .unset, .unset, .unset, .unset] [(.long xs)] _
    refine X224.ldc2Long hx hown (mvT hZ (hw _ (List.mem_of_getElem? (i := 37) rfl))) (g := (mkF m 248 #[iv xp, iv xq, own_lv xs, .second, own_lv xu, .second, iv ra, iv rg, iv ri, iv rf, iv (1 : Int32), rv a108, rv a110, rv a112, rv a114, rv a116, rv a118, rv a120, rv s2122, rv s2130, rv s2138, rv a114, rv s2208, rv s2216, rv s2224, .unset, .unset, .unset, .unset, .unset, .unset, .unset] [(.long xs)])) rfl (hb hby at_248) _ ?_
    show own_S p e below T224 m 251 #[iv xp, iv xq, own_lv xs, .second, own_lv xu, .second, iv ra, iv rg, iv ri, iv rf, iv (1 : Int32), rv a108, rv a110, rv a112, rv a114, rv a116, rv a118, rv a120, rv s2122, rv s2130, rv s2138, rv a114, rv s2208, rv s2216, rv s2224, .unset, .unset, .unset, .unset, .unset, .unset, .unset] [(.long (9223372036854775806 : Int64)), (.long xs)] _
    exact kt
  refine own_st sg231 ?_
  obtain ⟨_, T232, L232, X232, hQ232, st232⟩ := own_callS (y := (⟨"java/lang/Math", "min", "(JJ)J"⟩ : MethodName)) X224 hx hZ hown (hw _ (List.mem_of_getElem? (i := 38) rfl)) (hw _ (List.mem_of_getElem? (i := 39) rfl)) (hw _ (List.mem_of_getElem? (i := 40) rfl)) (hw _ (List.mem_of_getElem? (i := 41) rfl)) (by decide) (own_rmmin l Z a0 hw xs (9223372036854775806 : Int64) h224 n0 Z224) e224 (g := (mkF m 251 #[iv xp, iv xq, own_lv xs, .second, own_lv xu, .second, iv ra, iv rg, iv ri, iv rf, iv (1 : Int32), rv a108, rv a110, rv a112, rv a114, rv a116, rv a118, rv a120, rv s2122, rv s2130, rv s2138, rv a114, rv s2208, rv s2216, rv s2224, .unset, .unset, .unset, .unset, .unset, .unset, .unset] [(.long (9223372036854775806 : Int64)), (.long xs)])) rfl (by rw [hml]; rfl) (argsL := [(.long xs), (.long (9223372036854775806 : Int64))]) (rest := []) (lenOf own_pd16 rfl) rfl (W := 0) (by show 2 * 0 + _ ≤ _; exact Nat.le_of_eq rfl) (hb hby at_251) (by decide) (by decide) (by decide) (by decide)
  obtain ⟨rfl, Nq232, e232⟩ := hQ232
  refine own_st st232 ?_
  have N232 := Fr.app N224 Nq232
  show own_Go p e below _ T232 (mkF m 254 #[iv xp, iv xq, own_lv xs, .second, own_lv xu, .second, iv ra, iv rg, iv ri, iv rf, iv (1 : Int32), rv a108, rv a110, rv a112, rv a114, rv a116, rv a118, rv a120, rv s2122, rv s2130, rv s2138, rv a114, rv s2208, rv s2216, rv s2224, .unset, .unset, .unset, .unset, .unset, .unset, .unset] [(.long (own_min xs (9223372036854775806 : Int64)))])
  have sg233 : own_V p e below T232 (mkF m 261 #[iv xp, iv xq, own_lv xs, .second, own_lv xu, .second, iv ra, iv rg, iv ri, iv rf, iv (1 : Int32), rv a108, rv a110, rv a112, rv a114, rv a116, rv a118, rv a120, rv s2122, rv s2130, rv s2138, rv a114, rv s2208, rv s2216, rv s2224, own_lv (own_min xs (9223372036854775806 : Int64)), .second, .unset, .unset, .unset, .unset, .unset] [(.long (9223372036854775806 : Int64)), (.long xu)]) (mkF m 254 #[iv xp, iv xq, own_lv xs, .second, own_lv xu, .second, iv ra, iv rg, iv ri, iv rf, iv (1 : Int32), rv a108, rv a110, rv a112, rv a114, rv a116, rv a118, rv a120, rv s2122, rv s2130, rv s2138, rv a114, rv s2208, rv s2216, rv s2224, .unset, .unset, .unset, .unset, .unset, .unset, .unset] [(.long (own_min xs (9223372036854775806 : Int64)))]) := by
    intro t kt
    refine XS.lstore X232.here hx rfl (hb hby at_254) rfl (l' := #[iv xp, iv xq, own_lv xs, .second, own_lv xu, .second, iv ra, iv rg, iv ri, iv rf, iv (1 : Int32), rv a108, rv a110, rv a112, rv a114, rv a116, rv a118, rv a120, rv s2122, rv s2130, rv s2138, rv a114, rv s2208, rv s2216, rv s2224, own_lv (own_min xs (9223372036854775806 : Int64)), .second, .unset, .unset, .unset, .unset, .unset]) rfl ?_
    show own_S p e below T232 m 256 #[iv xp, iv xq, own_lv xs, .second, own_lv xu, .second, iv ra, iv rg, iv ri, iv rf, iv (1 : Int32), rv a108, rv a110, rv a112, rv a114, rv a116, rv a118, rv a120, rv s2122, rv s2130, rv s2138, rv a114, rv s2208, rv s2216, rv s2224, own_lv (own_min xs (9223372036854775806 : Int64)), .second, .unset, .unset, .unset, .unset, .unset] [] _
    refine XS.lload X232.here hx rfl (hb hby at_256) rfl ?_
    show own_S p e below T232 m 258 #[iv xp, iv xq, own_lv xs, .second, own_lv xu, .second, iv ra, iv rg, iv ri, iv rf, iv (1 : Int32), rv a108, rv a110, rv a112, rv a114, rv a116, rv a118, rv a120, rv s2122, rv s2130, rv s2138, rv a114, rv s2208, rv s2216, rv s2224, own_lv (own_min xs (9223372036854775806 : Int64)), .second, .unset, .unset, .unset, .unset, .unset] [(.long xu)] _
    refine X232.ldc2Long hx hown (mvT hZ (hw _ (List.mem_of_getElem? (i := 37) rfl))) (g := (mkF m 258 #[iv xp, iv xq, own_lv xs, .second, own_lv xu, .second, iv ra, iv rg, iv ri, iv rf, iv (1 : Int32), rv a108, rv a110, rv a112, rv a114, rv a116, rv a118, rv a120, rv s2122, rv s2130, rv s2138, rv a114, rv s2208, rv s2216, rv s2224, own_lv (own_min xs (9223372036854775806 : Int64)), .second, .unset, .unset, .unset, .unset, .unset] [(.long xu)])) rfl (hb hby at_258) _ ?_
    show own_S p e below T232 m 261 #[iv xp, iv xq, own_lv xs, .second, own_lv xu, .second, iv ra, iv rg, iv ri, iv rf, iv (1 : Int32), rv a108, rv a110, rv a112, rv a114, rv a116, rv a118, rv a120, rv s2122, rv s2130, rv s2138, rv a114, rv s2208, rv s2216, rv s2224, own_lv (own_min xs (9223372036854775806 : Int64)), .second, .unset, .unset, .unset, .unset, .unset] [(.long (9223372036854775806 : Int64)), (.long xu)] _
    exact kt
  refine own_st sg233 ?_
  obtain ⟨_, T234, L234, X234, hQ234, st234⟩ := own_callS (y := (⟨"java/lang/Math", "min", "(JJ)J"⟩ : MethodName)) X232 hx hZ hown (hw _ (List.mem_of_getElem? (i := 38) rfl)) (hw _ (List.mem_of_getElem? (i := 39) rfl)) (hw _ (List.mem_of_getElem? (i := 40) rfl)) (hw _ (List.mem_of_getElem? (i := 41) rfl)) (by decide) (own_rmmin l Z a0 hw xu (9223372036854775806 : Int64) h224 n0 Z224) e232 (g := (mkF m 261 #[iv xp, iv xq, own_lv xs, .second, own_lv xu, .second, iv ra, iv rg, iv ri, iv rf, iv (1 : Int32), rv a108, rv a110, rv a112, rv a114, rv a116, rv a118, rv a120, rv s2122, rv s2130, rv s2138, rv a114, rv s2208, rv s2216, rv s2224, own_lv (own_min xs (9223372036854775806 : Int64)), .second, .unset, .unset, .unset, .unset, .unset] [(.long (9223372036854775806 : Int64)), (.long xu)])) rfl (by rw [hml]; rfl) (argsL := [(.long xu), (.long (9223372036854775806 : Int64))]) (rest := []) (lenOf own_pd16 rfl) rfl (W := 0) (by show 2 * 0 + _ ≤ _; exact Nat.le_of_eq rfl) (hb hby at_261) (by decide) (by decide) (by decide) (by decide)
  obtain ⟨rfl, Nq234, e234⟩ := hQ234
  refine own_st st234 ?_
  have N234 := Fr.app N232 Nq234
  show own_Go p e below _ T234 (mkF m 264 #[iv xp, iv xq, own_lv xs, .second, own_lv xu, .second, iv ra, iv rg, iv ri, iv rf, iv (1 : Int32), rv a108, rv a110, rv a112, rv a114, rv a116, rv a118, rv a120, rv s2122, rv s2130, rv s2138, rv a114, rv s2208, rv s2216, rv s2224, own_lv (own_min xs (9223372036854775806 : Int64)), .second, .unset, .unset, .unset, .unset, .unset] [(.long (own_min xu (9223372036854775806 : Int64)))])
  have sg235 : own_V p e below T234 (mkF m 266 #[iv xp, iv xq, own_lv xs, .second, own_lv xu, .second, iv ra, iv rg, iv ri, iv rf, iv (1 : Int32), rv a108, rv a110, rv a112, rv a114, rv a116, rv a118, rv a120, rv s2122, rv s2130, rv s2138, rv a114, rv s2208, rv s2216, rv s2224, own_lv (own_min xs (9223372036854775806 : Int64)), .second, own_lv (own_min xu (9223372036854775806 : Int64)), .second, .unset, .unset, .unset] []) (mkF m 264 #[iv xp, iv xq, own_lv xs, .second, own_lv xu, .second, iv ra, iv rg, iv ri, iv rf, iv (1 : Int32), rv a108, rv a110, rv a112, rv a114, rv a116, rv a118, rv a120, rv s2122, rv s2130, rv s2138, rv a114, rv s2208, rv s2216, rv s2224, own_lv (own_min xs (9223372036854775806 : Int64)), .second, .unset, .unset, .unset, .unset, .unset] [(.long (own_min xu (9223372036854775806 : Int64)))]) := by
    intro t kt
    refine XS.lstore X234.here hx rfl (hb hby at_264) rfl (l' := #[iv xp, iv xq, own_lv xs, .second, own_lv xu, .second, iv ra, iv rg, iv ri, iv rf, iv (1 : Int32), rv a108, rv a110, rv a112, rv a114, rv a116, rv a118, rv a120, rv s2122, rv s2130, rv s2138, rv a114, rv s2208, rv s2216, rv s2224, own_lv (own_min xs (9223372036854775806 : Int64)), .second, own_lv (own_min xu (9223372036854775806 : Int64)), .second, .unset, .unset, .unset]) rfl ?_
    show own_S p e below T234 m 266 #[iv xp, iv xq, own_lv xs, .second, own_lv xu, .second, iv ra, iv rg, iv ri, iv rf, iv (1 : Int32), rv a108, rv a110, rv a112, rv a114, rv a116, rv a118, rv a120, rv s2122, rv s2130, rv s2138, rv a114, rv s2208, rv s2216, rv s2224, own_lv (own_min xs (9223372036854775806 : Int64)), .second, own_lv (own_min xu (9223372036854775806 : Int64)), .second, .unset, .unset, .unset] [] _
    exact kt
  refine own_st sg235 ?_
  obtain ⟨T236, h236, X236, e236, E236, A236, D236, -, st236⟩ := newO X234 hx hZ hown (hw _ (List.mem_of_getElem? (i := 42) rfl)) (hw _ (List.mem_of_getElem? (i := 43) rfl)) (hw _ (List.mem_of_getElem? (i := 44) rfl)) e234 (g := (mkF m 266 #[iv xp, iv xq, own_lv xs, .second, own_lv xu, .second, iv ra, iv rg, iv ri, iv rf, iv (1 : Int32), rv a108, rv a110, rv a112, rv a114, rv a116, rv a118, rv a120, rv s2122, rv s2130, rv s2138, rv a114, rv s2208, rv s2216, rv s2224, own_lv (own_min xs (9223372036854775806 : Int64)), .second, own_lv (own_min xu (9223372036854775806 : Int64)), .second, .unset, .unset, .unset] [])) rfl (hb hby at_266) (by decide) (by decide)
  obtain ⟨a236, g236⟩ : ∃ z, z = h224.size := ⟨_, rfl⟩
  rw [← g236] at A236 D236 st236
  refine own_st st236 ?_
  have g_a236 : n0 ≤ a236 := by rw [g236]; exact Z224
  have Z236 : n0 ≤ h236.size := Nat.le_trans Z224 E236.1
  have kk236 : T114.heap.size ≤ h236.size := Nat.le_trans kk224 E236.1
  show own_Go p e below _ T236 (mkF m 269 #[iv xp, iv xq, own_lv xs, .second, own_lv xu, .second, iv ra, iv rg, iv ri, iv rf, iv (1 : Int32), rv a108, rv a110, rv a112, rv a114, rv a116, rv a118, rv a120, rv s2122, rv s2130, rv s2138, rv a114, rv s2208, rv s2216, rv s2224, own_lv (own_min xs (9223372036854775806 : Int64)), .second, own_lv (own_min xu (9223372036854775806 : Int64)), .second, .unset, .unset, .unset] [(.ref a236)])
  have szu236 : h224.size ≤ a236 := Nat.le_of_eq g236.symm
  have KE236 : Keep h224 h236 [] := (Keep.refl h224 []).ext E236
  have SC_236 := own_Sta.keep SC_224 KE236
  have T11_236 := T11_224.keep KE236 nin0 nin0
  have T12_236 := T12_224.keep KE236 nin0 nin0
  have T13_236 := T13_224.keep KE236 nin0 nin0
  have T14_236 := T14_224.keep KE236 nin0 nin0
  have SL_236 := SL_224.keep KE236 nin0 nin0
  have T15_236 := T15_224.keep KE236 nin0 nin0
  have T16_236 := T16_224.keep KE236 nin0 nin0
  have T17_236 := T17_224.keep KE236 nin0 nin0
  have T11b_236 := T11b_224.keep KE236 nin0 nin0
  have T12b_236 := T12b_224.keep KE236 nin0 nin0
  have T13b_236 := T13b_224.keep KE236 nin0 nin0
  have T15b_236 := T15b_224.keep KE236 nin0 nin0
  have T16b_236 := T16b_224.keep KE236 nin0 nin0
  have T17b_236 := S224.keep KE236 nin0 nin0
  have FinstanceId236 : Fld Z h236 a236 "com/example/coverfold/coverfold/Usage" "instanceId" "Ljava/lang/String;" .null := D236 (Or.inr (hw _ (List.mem_of_getElem? (i := 90) rfl))) (ty := (.object "java/lang/String")) (by decide)
  have Faccount236 : Fld Z h236 a236 "com/example/coverfold/coverfold/Usage" "account" "Ljava/lang/String;" .null := D236 (Or.inr (hw _ (List.mem_of_getElem? (i := 92) rfl))) (ty := (.object "java/lang/String")) (by decide)
  have Fregion236 : Fld Z h236 a236 "com/example/coverfold/coverfold/Usage" "region" "Ljava/lang/String;" .null := D236 (Or.inr (hw _ (List.mem_of_getElem? (i := 94) rfl))) (ty := (.object "java/lang/String")) (by decide)
  have Fzone236 : Fld Z h236 a236 "com/example/coverfold/coverfold/Usage" "zone" "Ljava/lang/String;" .null := D236 (Or.inr (hw _ (List.mem_of_getElem? (i := 96) rfl))) (ty := (.object "java/lang/String")) (by decide)
  have FinstanceType236 : Fld Z h236 a236 "com/example/coverfold/coverfold/Usage" "instanceType" "Ljava/lang/String;" .null := D236 (Or.inr (hw _ (List.mem_of_getElem? (i := 98) rfl))) (ty := (.object "java/lang/String")) (by decide)
  have Fplatform236 : Fld Z h236 a236 "com/example/coverfold/coverfold/Usage" "platform" "Ljava/lang/String;" .null := D236 (Or.inr (hw _ (List.mem_of_getElem? (i := 100) rfl))) (ty := (.object "java/lang/String")) (by decide)
  have Ftenancy236 : Fld Z h236 a236 "com/example/coverfold/coverfold/Usage" "tenancy" "Ljava/lang/String;" .null := D236 (Or.inr (hw _ (List.mem_of_getElem? (i := 102) rfl))) (ty := (.object "java/lang/String")) (by decide)
  have Fstart236 : Fld Z h236 a236 "com/example/coverfold/coverfold/Usage" "start" "J" (.long (0 : Int64)) := D236 (Or.inr (hw _ (List.mem_of_getElem? (i := 104) rfl))) (ty := .long) (by decide)
  have Fend236 : Fld Z h236 a236 "com/example/coverfold/coverfold/Usage" "end" "J" (.long (0 : Int64)) := D236 (Or.inr (hw _ (List.mem_of_getElem? (i := 106) rfl))) (ty := .long) (by decide)
  have FpartSeconds236 : Fld Z h236 a236 "com/example/coverfold/coverfold/Usage" "partSeconds" "Lcom/example/coverfold/coverfold/Rational;" .null := D236 (Or.inr (hw _ (List.mem_of_getElem? (i := 108) rfl))) (ty := (.object "com/example/coverfold/coverfold/Rational")) (by decide)
  have sg237 : own_V p e below T236 (mkF m 290 #[iv xp, iv xq, own_lv xs, .second, own_lv xu, .second, iv ra, iv rg, iv ri, iv rf, iv (1 : Int32), rv a108, rv a110, rv a112, rv a114, rv a116, rv a118, rv a120, rv s2122, rv s2130, rv s2138, rv a114, rv s2208, rv s2216, rv s2224, own_lv (own_min xs (9223372036854775806 : Int64)), .second, own_lv (own_min xu (9223372036854775806 : Int64)), .second, .unset, .unset, .unset] [(.long ((own_min xs (9223372036854775806 : Int64)) + (1 : Int64))), (.long (own_min xs (9223372036854775806 : Int64))), (.ref a120), (.ref a118), (.ref a116), (.ref a114), (.ref a112), (.ref a110), (.ref a108), (.ref a236), (.ref a236)]) (mkF m 269 #[iv xp, iv xq, own_lv xs, .second, own_lv xu, .second, iv ra, iv rg, iv ri, iv rf, iv (1 : Int32), rv a108, rv a110, rv a112, rv a114, rv a116, rv a118, rv a120, rv s2122, rv s2130, rv s2138, rv a114, rv s2208, rv s2216, rv s2224, own_lv (own_min xs (9223372036854775806 : Int64)), .second, own_lv (own_min xu (9223372036854775806 : Int64)), .second, .unset, .unset, .unset] [(.ref a236)]) := by
    intro t kt
    refine XS.dup X236.here hx rfl (hb hby at_269) rfl rfl ?_
    show own_S p e below T236 m 270 #[iv xp, iv xq, own_lv xs, .second, own_lv xu, .second, iv ra, iv rg, iv ri, iv rf, iv (1 : Int32), rv a108, rv a110, rv a112, rv a114, rv a116, rv a118, rv a120, rv s2122, rv s2130, rv s2138, rv a114, rv s2208, rv s2216, rv s2224, own_lv (own_min xs (9223372036854775806 : Int64)), .second, own_lv (own_min xu (9223372036854775806 : Int64)), .second, .unset, .unset, .unset] [(.ref a236), (.ref a236)] _
    refine XS.aload X236.here hx rfl (hb hby at_270) rfl rfl ?_
    show own_S p e below T236 m 272 #[iv xp, iv xq, own_lv xs, .second, own_lv xu, .second, iv ra, iv rg, iv ri, iv rf, iv (1 : Int32), rv a108, rv a110, rv a112, rv a114, rv a116, rv a118, rv a120, rv s2122, rv s2130, rv s2138, rv a114, rv s2208, rv s2216, rv s2224, own_lv (own_min xs (9223372036854775806 : Int64)), .second, own_lv (own_min xu (9223372036854775806 : Int64)), .second, .unset, .unset, .unset] [(.ref a108), (.ref a236), (.ref a236)] _
    refine XS.aload X236.here hx rfl (hb hby at_272) rfl rfl ?_
    show own_S p e below T236 m 274 #[iv xp, iv xq, own_lv xs, .second, own_lv xu, .second, iv ra, iv rg, iv ri, iv rf, iv (1 : Int32), rv a108, rv a110, rv a112, rv a114, rv a116, rv a118, rv a120, rv s2122, rv s2130, rv s2138, rv a114, rv s2208, rv s2216, rv s2224, own_lv (own_min xs (9223372036854775806 : Int64)), .second, own_lv (own_min xu (9223372036854775806 : Int64)), .second, .unset, .unset, .unset] [(.ref a110), (.ref a108), (.ref a236), (.ref a236)] _
    refine XS.aload X236.here hx rfl (hb hby at_274) rfl rfl ?_
    show own_S p e below T236 m 276 #[iv xp, iv xq, own_lv xs, .second, own_lv xu, .second, iv ra, iv rg, iv ri, iv rf, iv (1 : Int32), rv a108, rv a110, rv a112, rv a114, rv a116, rv a118, rv a120, rv s2122, rv s2130, rv s2138, rv a114, rv s2208, rv s2216, rv s2224, own_lv (own_min xs (9223372036854775806 : Int64)), .second, own_lv (own_min xu (9223372036854775806 : Int64)), .second, .unset, .unset, .unset] [(.ref a112), (.ref a110), (.ref a108), (.ref a236), (.ref a236)] _
    refine XS.aload X236.here hx rfl (hb hby at_276) rfl rfl ?_
    show own_S p e below T236 m 278 #[iv xp, iv xq, own_lv xs, .second, own_lv xu, .second, iv ra, iv rg, iv ri, iv rf, iv (1 : Int32), rv a108, rv a110, rv a112, rv a114, rv a116, rv a118, rv a120, rv s2122, rv s2130, rv s2138, rv a114, rv s2208, rv s2216, rv s2224, own_lv (own_min xs (9223372036854775806 : Int64)), .second, own_lv (own_min xu (9223372036854775806 : Int64)), .second, .unset, .unset, .unset] [(.ref a114), (.ref a112), (.ref a110), (.ref a108), (.ref a236), (.ref a236)] _
    refine XS.aload X236.here hx rfl (hb hby at_278) rfl rfl ?_
    show own_S p e below T236 m 280 #[iv xp, iv xq, own_lv xs, .second, own_lv xu, .second, iv ra, iv rg, iv ri, iv rf, iv (1 : Int32), rv a108, rv a110, rv a112, rv a114, rv a116, rv a118, rv a120, rv s2122, rv s2130, rv s2138, rv a114, rv s2208, rv s2216, rv s2224, own_lv (own_min xs (9223372036854775806 : Int64)), .second, own_lv (own_min xu (9223372036854775806 : Int64)), .second, .unset, .unset, .unset] [(.ref a116), (.ref a114), (.ref a112), (.ref a110), (.ref a108), (.ref a236), (.ref a236)] _
    refine XS.aload X236.here hx rfl (hb hby at_280) rfl rfl ?_
    show own_S p e below T236 m 282 #[iv xp, iv xq, own_lv xs, .second, own_lv xu, .second, iv ra, iv rg, iv ri, iv rf, iv (1 : Int32), rv a108, rv a110, rv a112, rv a114, rv a116, rv a118, rv a120, rv s2122, rv s2130, rv s2138, rv a114, rv s2208, rv s2216, rv s2224, own_lv (own_min xs (9223372036854775806 : Int64)), .second, own_lv (own_min xu (9223372036854775806 : Int64)), .second, .unset, .unset, .unset] [(.ref a118), (.ref a116), (.ref a114), (.ref a112), (.ref a110), (.ref a108), (.ref a236), (.ref a236)] _
    refine XS.aload X236.here hx rfl (hb hby at_282) rfl rfl ?_
    show own_S p e below T236 m 284 #[iv xp, iv xq, own_lv xs, .second, own_lv xu, .second, iv ra, iv rg, iv ri, iv rf, iv (1 : Int32), rv a108, rv a110, rv a112, rv a114, rv a116, rv a118, rv a120, rv s2122, rv s2130, rv s2138, rv a114, rv s2208, rv s2216, rv s2224, own_lv (own_min xs (9223372036854775806 : Int64)), .second, own_lv (own_min xu (9223372036854775806 : Int64)), .second, .unset, .unset, .unset] [(.ref a120), (.ref a118), (.ref a116), (.ref a114), (.ref a112), (.ref a110), (.ref a108), (.ref a236), (.ref a236)] _
    refine XS.lload X236.here hx rfl (hb hby at_284) rfl ?_
    show own_S p e below T236 m 286 #[iv xp, iv xq, own_lv xs, .second, own_lv xu, .second, iv ra, iv rg, iv ri, iv rf, iv (1 : Int32), rv a108, rv a110, rv a112, rv a114, rv a116, rv a118, rv a120, rv s2122, rv s2130, rv s2138, rv a114, rv s2208, rv s2216, rv s2224, own_lv (own_min xs (9223372036854775806 : Int64)), .second, own_lv (own_min xu (9223372036854775806 : Int64)), .second, .unset, .unset, .unset] [(.long (own_min xs (9223372036854775806 : Int64))), (.ref a120), (.ref a118), (.ref a116), (.ref a114), (.ref a112), (.ref a110), (.ref a108), (.ref a236), (.ref a236)] _
    refine XS.lload X236.here hx rfl (hb hby at_286) rfl ?_
    show own_S p e below T236 m 288 #[iv xp, iv xq, own_lv xs, .second, own_lv xu, .second, iv ra, iv rg, iv ri, iv rf, iv (1 : Int32), rv a108, rv a110, rv a112, rv a114, rv a116, rv a118, rv a120, rv s2122, rv s2130, rv s2138, rv a114, rv s2208, rv s2216, rv s2224, own_lv (own_min xs (9223372036854775806 : Int64)), .second, own_lv (own_min xu (9223372036854775806 : Int64)), .second, .unset, .unset, .unset] [(.long (own_min xs (9223372036854775806 : Int64))), (.long (own_min xs (9223372036854775806 : Int64))), (.ref a120), (.ref a118), (.ref a116), (.ref a114), (.ref a112), (.ref a110), (.ref a108), (.ref a236), (.ref a236)] _
    refine XS.lconst X236.here hx rfl (hb hby at_288) ?_
    show own_S p e below T236 m 289 #[iv xp, iv xq, own_lv xs, .second, own_lv xu, .second, iv ra, iv rg, iv ri, iv rf, iv (1 : Int32), rv a108, rv a110, rv a112, rv a114, rv a116, rv a118, rv a120, rv s2122, rv s2130, rv s2138, rv a114, rv s2208, rv s2216, rv s2224, own_lv (own_min xs (9223372036854775806 : Int64)), .second, own_lv (own_min xu (9223372036854775806 : Int64)), .second, .unset, .unset, .unset] [(.long (1 : Int64)), (.long (own_min xs (9223372036854775806 : Int64))), (.long (own_min xs (9223372036854775806 : Int64))), (.ref a120), (.ref a118), (.ref a116), (.ref a114), (.ref a112), (.ref a110), (.ref a108), (.ref a236), (.ref a236)] _
    refine XS.ladd X236.here hx rfl (hb hby at_289) rfl ?_
    show own_S p e below T236 m 290 #[iv xp, iv xq, own_lv xs, .second, own_lv xu, .second, iv ra, iv rg, iv ri, iv rf, iv (1 : Int32), rv a108, rv a110, rv a112, rv a114, rv a116, rv a118, rv a120, rv s2122, rv s2130, rv s2138, rv a114, rv s2208, rv s2216, rv s2224, own_lv (own_min xs (9223372036854775806 : Int64)), .second, own_lv (own_min xu (9223372036854775806 : Int64)), .second, .unset, .unset, .unset] [(.long ((own_min xs (9223372036854775806 : Int64)) + (1 : Int64))), (.long (own_min xs (9223372036854775806 : Int64))), (.ref a120), (.ref a118), (.ref a116), (.ref a114), (.ref a112), (.ref a110), (.ref a108), (.ref a236), (.ref a236)] _
    exact kt
  refine own_st sg237 ?_
  obtain ⟨_, T238, L238, X238, hQ238, st238⟩ := own_callI (y := (⟨"com/example/coverfold/coverfold/Usage", "<init>", "(Ljava/lang/String;Ljava/lang/String;Ljava/lang/String;Ljava/lang/String;Ljava/lang/String;Ljava/lang/String;Ljava/lang/String;JJ)V"⟩ : MethodName)) (a := a236) X236 hx hZ hown rfl (hw _ (List.mem_of_getElem? (i := 45) rfl)) (hw _ (List.mem_of_getElem? (i := 46) rfl)) (hw _ (List.mem_of_getElem? (i := 44) rfl)) (hw _ (List.mem_of_getElem? (i := 47) rfl)) (by decide) (own_rmus9_0 l Z a0 hw a236 a108 a110 a112 a114 a116 a118 a120 (own_min xs (9223372036854775806 : Int64)) ((own_min xs (9223372036854775806 : Int64)) + (1 : Int64)) b114 (fun _ => 0) h236 n0 Z236 T14_236 A236 FinstanceId236 Faccount236 Fregion236 Fzone236 FinstanceType236 Fplatform236 Ftenancy236 Fstart236 Fend236 FpartSeconds236 g_a236 (own_min_lt xs)) e236 (g := (mkF m 290 #[iv xp, iv xq, own_lv xs, .second, own_lv xu, .second, iv ra, iv rg, iv ri, iv rf, iv (1 : Int32), rv a108, rv a110, rv a112, rv a114, rv a116, rv a118, rv a120, rv s2122, rv s2130, rv s2138, rv a114, rv s2208, rv s2216, rv s2224, own_lv (own_min xs (9223372036854775806 : Int64)), .second, own_lv (own_min xu (9223372036854775806 : Int64)), .second, .unset, .unset, .unset] [(.long ((own_min xs (9223372036854775806 : Int64)) + (1 : Int64))), (.long (own_min xs (9223372036854775806 : Int64))), (.ref a120), (.ref a118), (.ref a116), (.ref a114), (.ref a112), (.ref a110), (.ref a108), (.ref a236), (.ref a236)])) rfl (by rw [hml]; rfl) (argsL := [(.ref a108), (.ref a110), (.ref a112), (.ref a114), (.ref a116), (.ref a118), (.ref a120), (.long (own_min xs (9223372036854775806 : Int64))), (.long ((own_min xs (9223372036854775806 : Int64)) + (1 : Int64)))]) (rest := [(.ref a236)]) (lenOf own_pd17 rfl) rfl (W := 1) (by show 2 * 0 + _ ≤ _; exact Nat.le_of_eq rfl) (hb hby at_290) (by decide) (by decide) (by decide) (by decide)
  obtain ⟨rfl, Nq238, R238⟩ := hQ238
  refine own_st st238 ?_
  have Z238 : n0 ≤ T238.heap.size := Nat.le_trans Z236 R238.1.1
  have kk238 : T114.heap.size ≤ T238.heap.size := Nat.le_trans kk236 R238.1.1
  have N238 := Fr.app N234 Nq238
  show own_Go p e below _ T238 (mkF m 293 #[iv xp, iv xq, own_lv xs, .second, own_lv xu, .second, iv ra, iv rg, iv ri, iv rf, iv (1 : Int32), rv a108, rv a110, rv a112, rv a114, rv a116, rv a118, rv a120, rv s2122, rv s2130, rv s2138, rv a114, rv s2208, rv s2216, rv s2224, own_lv (own_min xs (9223372036854775806 : Int64)), .second, own_lv (own_min xu (9223372036854775806 : Int64)), .second, .unset, .unset, .unset] [(.ref a236)])
  have KU238 : Keep h224 T238.heap [] := KE236.trans R238.1 (allS (Or.inr szu236) all0)
  have SC_238 := own_Sta.keep SC_224 KU238
  have T11_238 := T11_224.keep KU238 nin0 nin0
  have T12_238 := T12_224.keep KU238 nin0 nin0
  have T13_238 := T13_224.keep KU238 nin0 nin0
  have T14_238 := T14_224.keep KU238 nin0 nin0
  have SL_238 := SL_224.keep KU238 nin0 nin0
  have T15_238 := T15_224.keep KU238 nin0 nin0
  have T16_238 := T16_224.keep KU238 nin0 nin0
  have T17_238 := T17_224.keep KU238 nin0 nin0
  have T11b_238 := T11b_224.keep KU238 nin0 nin0
  have T12b_238 := T12b_224.keep KU238 nin0 nin0
  have T13b_238 := T13b_224.keep KU238 nin0 nin0
  have T15b_238 := T15b_224.keep KU238 nin0 nin0
  have T16b_238 := T16b_224.keep KU238 nin0 nin0
  have T17b_238 := S224.keep KU238 nin0 nin0
  have sg239 : own_V p e below T238 (mkF m 295 #[iv xp, iv xq, own_lv xs, .second, own_lv xu, .second, iv ra, iv rg, iv ri, iv rf, iv (1 : Int32), rv a108, rv a110, rv a112, rv a114, rv a116, rv a118, rv a120, rv s2122, rv s2130, rv s2138, rv a114, rv s2208, rv s2216, rv s2224, own_lv (own_min xs (9223372036854775806 : Int64)), .second, own_lv (own_min xu (9223372036854775806 : Int64)), .second, rv a236, .unset, .unset] []) (mkF m 293 #[iv xp, iv xq, own_lv xs, .second, own_lv xu, .second, iv ra, iv rg, iv ri, iv rf, iv (1 : Int32), rv a108, rv a110, rv a112, rv a114, rv a116, rv a118, rv a120, rv s2122, rv s2130, rv s2138, rv a114, rv s2208, rv s2216, rv s2224, own_lv (own_min xs (9223372036854775806 : Int64)), .second, own_lv (own_min xu (9223372036854775806 : Int64)), .second, .unset, .unset, .unset] [(.ref a236)]) := by
    intro t kt
    refine XS.astore X238.here hx rfl (hb hby at_293) rfl rfl (l' := #[iv xp, iv xq, own_lv xs, .second, own_lv xu, .second, iv ra, iv rg, iv ri, iv rf, iv (1 : Int32), rv a108, rv a110, rv a112, rv a114, rv a116, rv a118, rv a120, rv s2122, rv s2130, rv s2138, rv a114, rv s2208, rv s2216, rv s2224, own_lv (own_min xs (9223372036854775806 : Int64)), .second, own_lv (own_min xu (9223372036854775806 : Int64)), .second, rv a236, .unset, .unset]) rfl ?_
    show own_S p e below T238 m 295 #[iv xp, iv xq, own_lv xs, .second, own_lv xu, .second, iv ra, iv rg, iv ri, iv rf, iv (1 : Int32), rv a108, rv a110, rv a112, rv a114, rv a116, rv a118, rv a120, rv s2122, rv s2130, rv s2138, rv a114, rv s2208, rv s2216, rv s2224, own_lv (own_min xs (9223372036854775806 : Int64)), .second, own_lv (own_min xu (9223372036854775806 : Int64)), .second, rv a236, .unset, .unset] [] _
    exact kt
  refine own_st sg239 ?_
  obtain ⟨T240, h240, X240, e240, E240, A240, D240, -, st240⟩ := newO X238 hx hZ hown (hw _ (List.mem_of_getElem? (i := 42) rfl)) (hw _ (List.mem_of_getElem? (i := 43) rfl)) (hw _ (List.mem_of_getElem? (i := 44) rfl)) rfl (g := (mkF m 295 #[iv xp, iv xq, own_lv xs, .second, own_lv xu, .second, iv ra, iv rg, iv ri, iv rf, iv (1 : Int32), rv a108, rv a110, rv a112, rv a114, rv a116, rv a118, rv a120, rv s2122, rv s2130, rv s2138, rv a114, rv s2208, rv s2216, rv s2224, own_lv (own_min xs (9223372036854775806 : Int64)), .second, own_lv (own_min xu (9223372036854775806 : Int64)), .second, rv a236, .unset, .unset] [])) rfl (hb hby at_295) (by decide) (by decide)
  obtain ⟨a240, g240⟩ : ∃ z, z = T238.heap.size := ⟨_, rfl⟩
  rw [← g240] at A240 D240 st240
  refine own_st st240 ?_
  have g_a240 : n0 ≤ a240 := by rw [g240]; exact Z238
  have Z240 : n0 ≤ h240.size := Nat.le_trans Z238 E240.1
  have kk240 : T114.heap.size ≤ h240.size := Nat.le_trans kk238 E240.1
  show own_Go p e below _ T240 (mkF m 298 #[iv xp, iv xq, own_lv xs, .second, own_lv xu, .second, iv ra, iv rg, iv ri, iv rf, iv (1 : Int32), rv a108, rv a110, rv a112, rv a114, rv a116, rv a118, rv a120, rv s2122, rv s2130, rv s2138, rv a114, rv s2208, rv s2216, rv s2224, own_lv (own_min xs (9223372036854775806 : Int64)), .second, own_lv (own_min xu (9223372036854775806 : Int64)), .second, rv a236, .unset, .unset] [(.ref a240)])
  have szu240 : T238.heap.size ≤ a240 := Nat.le_of_eq g240.symm
  have KE240 : Keep T238.heap h240 [] := (Keep.refl T238.heap []).ext E240
  have SC_240 := own_Sta.keep SC_238 KE240
  have T11_240 := T11_238.keep KE240 nin0 nin0
  have T12_240 := T12_238.keep KE240 nin0 nin0
  have T13_240 := T13_238.keep KE240 nin0 nin0
  have T14_240 := T14_238.keep KE240 nin0 nin0
  have SL_240 := SL_238.keep KE240 nin0 nin0
  have T15_240 := T15_238.keep KE240 nin0 nin0
  have T16_240 := T16_238.keep KE240 nin0 nin0
  have T17_240 := T17_238.keep KE240 nin0 nin0
  have T11b_240 := T11b_238.keep KE240 nin0 nin0
  have T12b_240 := T12b_238.keep KE240 nin0 nin0
  have T13b_240 := T13b_238.keep KE240 nin0 nin0
  have T15b_240 := T15b_238.keep KE240 nin0 nin0
  have T16b_240 := T16b_238.keep KE240 nin0 nin0
  have T17b_240 := T17b_238.keep KE240 nin0 nin0
  have U1_240 := R238.2.keep KE240 nin0
  have FinstanceId240 : Fld Z h240 a240 "com/example/coverfold/coverfold/Usage" "instanceId" "Ljava/lang/String;" .null := D240 (Or.inr (hw _ (List.mem_of_getElem? (i := 90) rfl))) (ty := (.object "java/lang/String")) (by decide)
  have Faccount240 : Fld Z h240 a240 "com/example/coverfold/coverfold/Usage" "account" "Ljava/lang/String;" .null := D240 (Or.inr (hw _ (List.mem_of_getElem? (i := 92) rfl))) (ty := (.object "java/lang/String")) (by decide)
  have Fregion240 : Fld Z h240 a240 "com/example/coverfold/coverfold/Usage" "region" "Ljava/lang/String;" .null := D240 (Or.inr (hw _ (List.mem_of_getElem? (i := 94) rfl))) (ty := (.object "java/lang/String")) (by decide)
  have Fzone240 : Fld Z h240 a240 "com/example/coverfold/coverfold/Usage" "zone" "Ljava/lang/String;" .null := D240 (Or.inr (hw _ (List.mem_of_getElem? (i := 96) rfl))) (ty := (.object "java/lang/String")) (by decide)
  have FinstanceType240 : Fld Z h240 a240 "com/example/coverfold/coverfold/Usage" "instanceType" "Ljava/lang/String;" .null := D240 (Or.inr (hw _ (List.mem_of_getElem? (i := 98) rfl))) (ty := (.object "java/lang/String")) (by decide)
  have Fplatform240 : Fld Z h240 a240 "com/example/coverfold/coverfold/Usage" "platform" "Ljava/lang/String;" .null := D240 (Or.inr (hw _ (List.mem_of_getElem? (i := 100) rfl))) (ty := (.object "java/lang/String")) (by decide)
  have Ftenancy240 : Fld Z h240 a240 "com/example/coverfold/coverfold/Usage" "tenancy" "Ljava/lang/String;" .null := D240 (Or.inr (hw _ (List.mem_of_getElem? (i := 102) rfl))) (ty := (.object "java/lang/String")) (by decide)
  have Fstart240 : Fld Z h240 a240 "com/example/coverfold/coverfold/Usage" "start" "J" (.long (0 : Int64)) := D240 (Or.inr (hw _ (List.mem_of_getElem? (i := 104) rfl))) (ty := .long) (by decide)
  have Fend240 : Fld Z h240 a240 "com/example/coverfold/coverfold/Usage" "end" "J" (.long (0 : Int64)) := D240 (Or.inr (hw _ (List.mem_of_getElem? (i := 106) rfl))) (ty := .long) (by decide)
  have FpartSeconds240 : Fld Z h240 a240 "com/example/coverfold/coverfold/Usage" "partSeconds" "Lcom/example/coverfold/coverfold/Rational;" .null := D240 (Or.inr (hw _ (List.mem_of_getElem? (i := 108) rfl))) (ty := (.object "com/example/coverfold/coverfold/Rational")) (by decide)
  have sg241 : own_V p e below T240 (mkF m 319 #[iv xp, iv xq, own_lv xs, .second, own_lv xu, .second, iv ra, iv rg, iv ri, iv rf, iv (1 : Int32), rv a108, rv a110, rv a112, rv a114, rv a116, rv a118, rv a120, rv s2122, rv s2130, rv s2138, rv a114, rv s2208, rv s2216, rv s2224, own_lv (own_min xs (9223372036854775806 : Int64)), .second, own_lv (own_min xu (9223372036854775806 : Int64)), .second, rv a236, .unset, .unset] [(.long ((own_min xu (9223372036854775806 : Int64)) + (1 : Int64))), (.long (own_min xu (9223372036854775806 : Int64))), (.ref s2224), (.ref s2216), (.ref s2208), (.ref a114), (.ref s2138), (.ref s2130), (.ref s2122), (.ref a240), (.ref a240)]) (mkF m 298 #[iv xp, iv xq, own_lv xs, .second, own_lv xu, .second, iv ra, iv rg, iv ri, iv rf, iv (1 : Int32), rv a108, rv a110, rv a112, rv a114, rv a116, rv a118, rv a120, rv s2122, rv s2130, rv s2138, rv a114, rv s2208, rv s2216, rv s2224, own_lv (own_min xs (9223372036854775806 : Int64)), .second, own_lv (own_min xu (9223372036854775806 : Int64)), .second, rv a236, .unset, .unset] [(.ref a240)]) := by
    intro t kt
    refine XS.dup X240.here hx rfl (hb hby at_298) rfl rfl ?_
    show own_S p e below T240 m 299 #[iv xp, iv xq, own_lv xs, .second, own_lv xu, .second, iv ra, iv rg, iv ri, iv rf, iv (1 : Int32), rv a108, rv a110, rv a112, rv a114, rv a116, rv a118, rv a120, rv s2122, rv s2130, rv s2138, rv a114, rv s2208, rv s2216, rv s2224, own_lv (own_min xs (9223372036854775806 : Int64)), .second, own_lv (own_min xu (9223372036854775806 : Int64)), .second, rv a236, .unset, .unset] [(.ref a240), (.ref a240)] _
    refine XS.aload X240.here hx rfl (hb hby at_299) rfl rfl ?_
    show own_S p e below T240 m 301 #[iv xp, iv xq, own_lv xs, .second, own_lv xu, .second, iv ra, iv rg, iv ri, iv rf, iv (1 : Int32), rv a108, rv a110, rv a112, rv a114, rv a116, rv a118, rv a120, rv s2122, rv s2130, rv s2138, rv a114, rv s2208, rv s2216, rv s2224, own_lv (own_min xs (9223372036854775806 : Int64)), .second, own_lv (own_min xu (9223372036854775806 : Int64)), .second, rv a236, .unset, .unset] [(.ref s2122), (.ref a240), (.ref a240)] _
    refine XS.aload X240.here hx rfl (hb hby at_301) rfl rfl ?_
    show own_S p e below T240 m 303 #[iv xp, iv xq, own_lv xs, .second, own_lv xu, .second, iv ra, iv rg, iv ri, iv rf, iv (1 : Int32), rv a108, rv a110, rv a112, rv a114, rv a116, rv a118, rv a120, rv s2122, rv s2130, rv s2138, rv a114, rv s2208, rv s2216, rv s2224, own_lv (own_min xs (9223372036854775806 : Int64)), .second, own_lv (own_min xu (9223372036854775806 : Int64)), .second, rv a236, .unset, .unset] [(.ref s2130), (.ref s2122), (.ref a240), (.ref a240)] _
    refine XS.aload X240.here hx rfl (hb hby at_303) rfl rfl ?_
    show own_S p e below T240 m 305 #[iv xp, iv xq, own_lv xs, .second, own_lv xu, .second, iv ra, iv rg, iv ri, iv rf, iv (1 : Int32), rv a108, rv a110, rv a112, rv a114, rv a116, rv a118, rv a120, rv s2122, rv s2130, rv s2138, rv a114, rv s2208, rv s2216, rv s2224, own_lv (own_min xs (9223372036854775806 : Int64)), .second, own_lv (own_min xu (9223372036854775806 : Int64)), .second, rv a236, .unset, .unset] [(.ref s2138), (.ref s2130), (.ref s2122), (.ref a240), (.ref a240)] _
    refine XS.aload X240.here hx rfl (hb hby at_305) rfl rfl ?_
    show own_S p e below T240 m 307 #[iv xp, iv xq, own_lv xs, .second, own_lv xu, .second, iv ra, iv rg, iv ri, iv rf, iv (1 : Int32), rv a108, rv a110, rv a112, rv a114, rv a116, rv a118, rv a120, rv s2122, rv s2130, rv s2138, rv a114, rv s2208, rv s2216, rv s2224, own_lv (own_min xs (9223372036854775806 : Int64)), .second, own_lv (own_min xu (9223372036854775806 : Int64)), .second, rv a236, .unset, .unset] [(.ref a114), (.ref s2138), (.ref s2130), (.ref s2122), (.ref a240), (.ref a240)] _
    refine XS.aload X240.here hx rfl (hb hby at_307) rfl rfl ?_
    show own_S p e below T240 m 309 #[iv xp, iv xq, own_lv xs, .second, own_lv xu, .second, iv ra, iv rg, iv ri, iv rf, iv (1 : Int32), rv a108, rv a110, rv a112, rv a114, rv a116, rv a118, rv a120, rv s2122, rv s2130, rv s2138, rv a114, rv s2208, rv s2216, rv s2224, own_lv (own_min xs (9223372036854775806 : Int64)), .second, own_lv (own_min xu (9223372036854775806 : Int64)), .second, rv a236, .unset, .unset] [(.ref s2208), (.ref a114), (.ref s2138), (.ref s2130), (.ref s2122), (.ref a240), (.ref a240)] _
    refine XS.aload X240.here hx rfl (hb hby at_309) rfl rfl ?_
    show own_S p e below T240 m 311 #[iv xp, iv xq, own_lv xs, .second, own_lv xu, .second, iv ra, iv rg, iv ri, iv rf, iv (1 : Int32), rv a108, rv a110, rv a112, rv a114, rv a116, rv a118, rv a120, rv s2122, rv s2130, rv s2138, rv a114, rv s2208, rv s2216, rv s2224, own_lv (own_min xs (9223372036854775806 : Int64)), .second, own_lv (own_min xu (9223372036854775806 : Int64)), .second, rv a236, .unset, .unset] [(.ref s2216), (.ref s2208), (.ref a114), (.ref s2138), (.ref s2130), (.ref s2122), (.ref a240), (.ref a240)] _
    refine XS.aload X240.here hx rfl (hb hby at_311) rfl rfl ?_
    show own_S p e below T240 m 313 #[iv xp, iv xq, own_lv xs, .second, own_lv xu, .second, iv ra, iv rg, iv ri, iv rf, iv (1 : Int32), rv a108, rv a110, rv a112, rv a114, rv a116, rv a118, rv a120, rv s2122, rv s2130, rv s2138, rv a114, rv s2208, rv s2216, rv s2224, own_lv (own_min xs (9223372036854775806 : Int64)), .second, own_lv (own_min xu (9223372036854775806 : Int64)), .second, rv a236, .unset, .unset] [(.ref s2224), (.ref s2216), (.ref s2208), (.ref a114), (.ref s2138), (.ref s2130), (.ref s2122), (.ref a240), (.ref a240)] _
    refine XS.lload X240.here hx rfl (hb hby at_313) rfl ?_
    show own_S p e below T240 m 315 #[iv xp, iv xq, own_lv xs, .second, own_lv xu, .second, iv ra, iv rg, iv ri, iv rf, iv (1 : Int32), rv a108, rv a110, rv a112, rv a114, rv a116, rv a118, rv a120, rv s2122, rv s2130, rv s2138, rv a114, rv s2208, rv s2216, rv s2224, own_lv (own_min xs (9223372036854775806 : Int64)), .second, own_lv (own_min xu (9223372036854775806 : Int64)), .second, rv a236, .unset, .unset] [(.long (own_min xu (9223372036854775806 : Int64))), (.ref s2224), (.ref s2216), (.ref s2208), (.ref a114), (.ref s2138), (.ref s2130), (.ref s2122), (.ref a240), (.ref a240)] _
    refine XS.lload X240.here hx rfl (hb hby at_315) rfl ?_
    show own_S p e below T240 m 317 #[iv xp, iv xq, own_lv xs, .second, own_lv xu, .second, iv ra, iv rg, iv ri, iv rf, iv (1 : Int32), rv a108, rv a110, rv a112, rv a114, rv a116, rv a118, rv a120, rv s2122, rv s2130, rv s2138, rv a114, rv s2208, rv s2216, rv s2224, own_lv (own_min xs (9223372036854775806 : Int64)), .second, own_lv (own_min xu (9223372036854775806 : Int64)), .second, rv a236, .unset, .unset] [(.long (own_min xu (9223372036854775806 : Int64))), (.long (own_min xu (9223372036854775806 : Int64))), (.ref s2224), (.ref s2216), (.ref s2208), (.ref a114), (.ref s2138), (.ref s2130), (.ref s2122), (.ref a240), (.ref a240)] _
    refine XS.lconst X240.here hx rfl (hb hby at_317) ?_
    show own_S p e below T240 m 318 #[iv xp, iv xq, own_lv xs, .second, own_lv xu, .second, iv ra, iv rg, iv ri, iv rf, iv (1 : Int32), rv a108, rv a110, rv a112, rv a114, rv a116, rv a118, rv a120, rv s2122, rv s2130, rv s2138, rv a114, rv s2208, rv s2216, rv s2224, own_lv (own_min xs (9223372036854775806 : Int64)), .second, own_lv (own_min xu (9223372036854775806 : Int64)), .second, rv a236, .unset, .unset] [(.long (1 : Int64)), (.long (own_min xu (9223372036854775806 : Int64))), (.long (own_min xu (9223372036854775806 : Int64))), (.ref s2224), (.ref s2216), (.ref s2208), (.ref a114), (.ref s2138), (.ref s2130), (.ref s2122), (.ref a240), (.ref a240)] _
    refine XS.ladd X240.here hx rfl (hb hby at_318) rfl ?_
    show own_S p e below T240 m 319 #[iv xp, iv xq, own_lv xs, .second, own_lv xu, .second, iv ra, iv rg, iv ri, iv rf, iv (1 : Int32), rv a108, rv a110, rv a112, rv a114, rv a116, rv a118, rv a120, rv s2122, rv s2130, rv s2138, rv a114, rv s2208, rv s2216, rv s2224, own_lv (own_min xs (9223372036854775806 : Int64)), .second, own_lv (own_min xu (9223372036854775806 : Int64)), .second, rv a236, .unset, .unset] [(.long ((own_min xu (9223372036854775806 : Int64)) + (1 : Int64))), (.long (own_min xu (9223372036854775806 : Int64))), (.ref s2224), (.ref s2216), (.ref s2208), (.ref a114), (.ref s2138), (.ref s2130), (.ref s2122), (.ref a240), (.ref a240)] _
    exact kt
  refine own_st sg241 ?_
  obtain ⟨_, T242, L242, X242, hQ242, st242⟩ := own_callI (y := (⟨"com/example/coverfold/coverfold/Usage", "<init>", "(Ljava/lang/String;Ljava/lang/String;Ljava/lang/String;Ljava/lang/String;Ljava/lang/String;Ljava/lang/String;Ljava/lang/String;JJ)V"⟩ : MethodName)) (a := a240) X240 hx hZ hown rfl (hw _ (List.mem_of_getElem? (i := 45) rfl)) (hw _ (List.mem_of_getElem? (i := 46) rfl)) (hw _ (List.mem_of_getElem? (i := 44) rfl)) (hw _ (List.mem_of_getElem? (i := 47) rfl)) (by decide) (own_rmus9_0 l Z a0 hw a240 s2122 s2130 s2138 a114 s2208 s2216 s2224 (own_min xu (9223372036854775806 : Int64)) ((own_min xu (9223372036854775806 : Int64)) + (1 : Int64)) b114 (fun _ => 0) h240 n0 Z240 T14_240 A240 FinstanceId240 Faccount240 Fregion240 Fzone240 FinstanceType240 Fplatform240 Ftenancy240 Fstart240 Fend240 FpartSeconds240 g_a240 (own_min_lt xu)) e240 (g := (mkF m 319 #[iv xp, iv xq, own_lv xs, .second, own_lv xu, .second, iv ra, iv rg, iv ri, iv rf, iv (1 : Int32), rv a108, rv a110, rv a112, rv a114, rv a116, rv a118, rv a120, rv s2122, rv s2130, rv s2138, rv a114, rv s2208, rv s2216, rv s2224, own_lv (own_min xs (9223372036854775806 : Int64)), .second, own_lv (own_min xu (9223372036854775806 : Int64)), .second, rv a236, .unset, .unset] [(.long ((own_min xu (9223372036854775806 : Int64)) + (1 : Int64))), (.long (own_min xu (9223372036854775806 : Int64))), (.ref s2224), (.ref s2216), (.ref s2208), (.ref a114), (.ref s2138), (.ref s2130), (.ref s2122), (.ref a240), (.ref a240)])) rfl (by rw [hml]; rfl) (argsL := [(.ref s2122), (.ref s2130), (.ref s2138), (.ref a114), (.ref s2208), (.ref s2216), (.ref s2224), (.long (own_min xu (9223372036854775806 : Int64))), (.long ((own_min xu (9223372036854775806 : Int64)) + (1 : Int64)))]) (rest := [(.ref a240)]) (lenOf own_pd17 rfl) rfl (W := 1) (by show 2 * 0 + _ ≤ _; exact Nat.le_of_eq rfl) (hb hby at_319) (by decide) (by decide) (by decide) (by decide)
  obtain ⟨rfl, Nq242, R242⟩ := hQ242
  refine own_st st242 ?_
  have Z242 : n0 ≤ T242.heap.size := Nat.le_trans Z240 R242.1.1
  have kk242 : T114.heap.size ≤ T242.heap.size := Nat.le_trans kk240 R242.1.1
  have N242 := Fr.app N238 Nq242
  show own_Go p e below _ T242 (mkF m 322 #[iv xp, iv xq, own_lv xs, .second, own_lv xu, .second, iv ra, iv rg, iv ri, iv rf, iv (1 : Int32), rv a108, rv a110, rv a112, rv a114, rv a116, rv a118, rv a120, rv s2122, rv s2130, rv s2138, rv a114, rv s2208, rv s2216, rv s2224, own_lv (own_min xs (9223372036854775806 : Int64)), .second, own_lv (own_min xu (9223372036854775806 : Int64)), .second, rv a236, .unset, .unset] [(.ref a240)])
  have KU242 : Keep T238.heap T242.heap [] := KE240.trans R242.1 (allS (Or.inr szu240) all0)
  have SC_242 := own_Sta.keep SC_238 KU242
  have T11_242 := T11_238.keep KU242 nin0 nin0
  have T12_242 := T12_238.keep KU242 nin0 nin0
  have T13_242 := T13_238.keep KU242 nin0 nin0
  have T14_242 := T14_238.keep KU242 nin0 nin0
  have SL_242 := SL_238.keep KU242 nin0 nin0
  have T15_242 := T15_238.keep KU242 nin0 nin0
  have T16_242 := T16_238.keep KU242 nin0 nin0
  have T17_242 := T17_238.keep KU242 nin0 nin0
  have T11b_242 := T11b_238.keep KU242 nin0 nin0
  have T12b_242 := T12b_238.keep KU242 nin0 nin0
  have T13b_242 := T13b_238.keep KU242 nin0 nin0
  have T15b_242 := T15b_238.keep KU242 nin0 nin0
  have T16b_242 := T16b_238.keep KU242 nin0 nin0
  have T17b_242 := T17b_238.keep KU242 nin0 nin0
  have U1_242 := R238.2.keep KU242 nin0
  have sg243 : own_V p e below T242 (mkF m 324 #[iv xp, iv xq, own_lv xs, .second, own_lv xu, .second, iv ra, iv rg, iv ri, iv rf, iv (1 : Int32), rv a108, rv a110, rv a112, rv a114, rv a116, rv a118, rv a120, rv s2122, rv s2130, rv s2138, rv a114, rv s2208, rv s2216, rv s2224, own_lv (own_min xs (9223372036854775806 : Int64)), .second, own_lv (own_min xu (9223372036854775806 : Int64)), .second, rv a236, rv a240, .unset] []) (mkF m 322 #[iv xp, iv xq, own_lv xs, .second, own_lv xu, .second, iv ra, iv rg, iv ri, iv rf, iv (1 : Int32), rv a108, rv a110, rv a112, rv a114, rv a116, rv a118, rv a120, rv s2122, rv s2130, rv s2138, rv a114, rv s2208, rv s2216, rv s2224, own_lv (own_min xs (9223372036854775806 : Int64)), .second, own_lv (own_min xu (9223372036854775806 : Int64)), .second, rv a236, .unset, .unset] [(.ref a240)]) := by
    intro t kt
    refine XS.astore X242.here hx rfl (hb hby at_322) rfl rfl (l' := #[iv xp, iv xq, own_lv xs, .second, own_lv xu, .second, iv ra, iv rg, iv ri, iv rf, iv (1 : Int32), rv a108, rv a110, rv a112, rv a114, rv a116, rv a118, rv a120, rv s2122, rv s2130, rv s2138, rv a114, rv s2208, rv s2216, rv s2224, own_lv (own_min xs (9223372036854775806 : Int64)), .second, own_lv (own_min xu (9223372036854775806 : Int64)), .second, rv a236, rv a240, .unset]) rfl ?_
    show own_S p e below T242 m 324 #[iv xp, iv xq, own_lv xs, .second, own_lv xu, .second, iv ra, iv rg, iv ri, iv rf, iv (1 : Int32), rv a108, rv a110, rv a112, rv a114, rv a116, rv a118, rv a120, rv s2122, rv s2130, rv s2138, rv a114, rv s2208, rv s2216, rv s2224, own_lv (own_min xs (9223372036854775806 : Int64)), .second, own_lv (own_min xu (9223372036854775806 : Int64)), .second, rv a236, rv a240, .unset] [] _
    exact kt
  refine own_st sg243 ?_
  obtain ⟨al, hal⟩ : ∃ z : Int32, z = (if (xp &&& (63 : Int32)) = (63 : Int32) then (1 : Int32) else (0 : Int32)) := ⟨_, rfl⟩
  have sg245 : own_V p e below T242 (mkF m 338 #[iv xp, iv xq, own_lv xs, .second, own_lv xu, .second, iv ra, iv rg, iv ri, iv rf, iv (1 : Int32), rv a108, rv a110, rv a112, rv a114, rv a116, rv a118, rv a120, rv s2122, rv s2130, rv s2138, rv a114, rv s2208, rv s2216, rv s2224, own_lv (own_min xs (9223372036854775806 : Int64)), .second, own_lv (own_min xu (9223372036854775806 : Int64)), .second, rv a236, rv a240, .unset] [(.int al)]) (mkF m 324 #[iv xp, iv xq, own_lv xs, .second, own_lv xu, .second, iv ra, iv rg, iv ri, iv rf, iv (1 : Int32), rv a108, rv a110, rv a112, rv a114, rv a116, rv a118, rv a120, rv s2122, rv s2130, rv s2138, rv a114, rv s2208, rv s2216, rv s2224, own_lv (own_min xs (9223372036854775806 : Int64)), .second, own_lv (own_min xu (9223372036854775806 : Int64)), .second, rv a236, rv a240, .unset] []) := by
    intro t kt
    refine XS.iloadN X242.here hx rfl (hb hby at_324) rfl ?_
    show own_S p e below T242 m 325 #[iv xp, iv xq, own_lv xs, .second, own_lv xu, .second, iv ra, iv rg, iv ri, iv rf, iv (1 : Int32), rv a108, rv a110, rv a112, rv a114, rv a116, rv a118, rv a120, rv s2122, rv s2130, rv s2138, rv a114, rv s2208, rv s2216, rv s2224, own_lv (own_min xs (9223372036854775806 : Int64)), .second, own_lv (own_min xu (9223372036854775806 : Int64)), .second, rv a236, rv a240, .unset] [(.int xp)] _
    refine XS.bipush X242.here hx rfl (hb hby at_325) ?_
    show own_S p e below T242 m 327 #[iv xp, iv xq, own_lv xs, .second, own_lv xu, .second, iv ra, iv rg, iv ri, iv rf, iv (1 : Int32), rv a108, rv a110, rv a112, rv a114, rv a116, rv a118, rv a120, rv s2122, rv s2130, rv s2138, rv a114, rv s2208, rv s2216, rv s2224, own_lv (own_min xs (9223372036854775806 : Int64)), .second, own_lv (own_min xu (9223372036854775806 : Int64)), .second, rv a236, rv a240, .unset] [(.int (63 : Int32)), (.int xp)] _
    refine XS.iand X242.here hx rfl (hb hby at_327) rfl ?_
    show own_S p e below T242 m 328 #[iv xp, iv xq, own_lv xs, .second, own_lv xu, .second, iv ra, iv rg, iv ri, iv rf, iv (1 : Int32), rv a108, rv a110, rv a112, rv a114, rv a116, rv a118, rv a120, rv s2122, rv s2130, rv s2138, rv a114, rv s2208, rv s2216, rv s2224, own_lv (own_min xs (9223372036854775806 : Int64)), .second, own_lv (own_min xu (9223372036854775806 : Int64)), .second, rv a236, rv a240, .unset] [(.int (xp &&& (63 : Int32)))] _
    refine XS.bipush X242.here hx rfl (hb hby at_328) ?_
    show own_S p e below T242 m 330 #[iv xp, iv xq, own_lv xs, .second, own_lv xu, .second, iv ra, iv rg, iv ri, iv rf, iv (1 : Int32), rv a108, rv a110, rv a112, rv a114, rv a116, rv a118, rv a120, rv s2122, rv s2130, rv s2138, rv a114, rv s2208, rv s2216, rv s2224, own_lv (own_min xs (9223372036854775806 : Int64)), .second, own_lv (own_min xu (9223372036854775806 : Int64)), .second, rv a236, rv a240, .unset] [(.int (63 : Int32)), (.int (xp &&& (63 : Int32)))] _
    by_cases hc244 : (xp &&& (63 : Int32)) = (63 : Int32)
    · refine XS.icmpNo X242.here hx rfl (hb hby at_330) rfl (teq hc244).2 ?_
      show own_S p e below T242 m 333 #[iv xp, iv xq, own_lv xs, .second, own_lv xu, .second, iv ra, iv rg, iv ri, iv rf, iv (1 : Int32), rv a108, rv a110, rv a112, rv a114, rv a116, rv a118, rv a120, rv s2122, rv s2130, rv s2138, rv a114, rv s2208, rv s2216, rv s2224, own_lv (own_min xs (9223372036854775806 : Int64)), .second, own_lv (own_min xu (9223372036854775806 : Int64)), .second, rv a236, rv a240, .unset] [] _
      refine XS.iconst X242.here hx rfl (hb hby at_333) ?_
      show own_S p e below T242 m 334 #[iv xp, iv xq, own_lv xs, .second, own_lv xu, .second, iv ra, iv rg, iv ri, iv rf, iv (1 : Int32), rv a108, rv a110, rv a112, rv a114, rv a116, rv a118, rv a120, rv s2122, rv s2130, rv s2138, rv a114, rv s2208, rv s2216, rv s2224, own_lv (own_min xs (9223372036854775806 : Int64)), .second, own_lv (own_min xu (9223372036854775806 : Int64)), .second, rv a236, rv a240, .unset] [(.int (1 : Int32))] _
      refine XS.goto X242.here hx rfl (pc0 := 334) (pc' := 338) rfl (hb hby at_334) (by decide) (by decide) ?_
      show own_S p e below T242 m 338 #[iv xp, iv xq, own_lv xs, .second, own_lv xu, .second, iv ra, iv rg, iv ri, iv rf, iv (1 : Int32), rv a108, rv a110, rv a112, rv a114, rv a116, rv a118, rv a120, rv s2122, rv s2130, rv s2138, rv a114, rv s2208, rv s2216, rv s2224, own_lv (own_min xs (9223372036854775806 : Int64)), .second, own_lv (own_min xu (9223372036854775806 : Int64)), .second, rv a236, rv a240, .unset] [(.int (1 : Int32))] _
      rw [show al = (1 : Int32) from by rw [hal, if_pos hc244]] at kt
      exact kt
    · refine XS.icmpYes X242.here hx rfl (pc0 := 330) (pc' := 337) rfl (hb hby at_330) rfl (feq hc244).2 (by decide) (by decide) ?_
      show own_S p e below T242 m 337 #[iv xp, iv xq, own_lv xs, .second, own_lv xu, .second, iv ra, iv rg, iv ri, iv rf, iv (1 : Int32), rv a108, rv a110, rv a112, rv a114, rv a116, rv a118, rv a120, rv s2122, rv s2130, rv s2138, rv a114, rv s2208, rv s2216, rv s2224, own_lv (own_min xs (9223372036854775806 : Int64)), .second, own_lv (own_min xu (9223372036854775806 : Int64)), .second, rv a236, rv a240, .unset] [] _
      refine XS.iconst X242.here hx rfl (hb hby at_337) ?_
      show own_S p e below T242 m 338 #[iv xp, iv xq, own_lv xs, .second, own_lv xu, .second, iv ra, iv rg, iv ri, iv rf, iv (1 : Int32), rv a108, rv a110, rv a112, rv a114, rv a116, rv a118, rv a120, rv s2122, rv s2130, rv s2138, rv a114, rv s2208, rv s2216, rv s2224, own_lv (own_min xs (9223372036854775806 : Int64)), .second, own_lv (own_min xu (9223372036854775806 : Int64)), .second, rv a236, rv a240, .unset] [(.int (0 : Int32))] _
      rw [show al = (0 : Int32) from by rw [hal, if_neg hc244]] at kt
      exact kt
  refine own_st sg245 ?_
  have sg246 : own_V p e below T242 (mkF m 344 #[iv xp, iv xq, own_lv xs, .second, own_lv xu, .second, iv ra, iv rg, iv ri, iv rf, iv (1 : Int32), rv a108, rv a110, rv a112, rv a114, rv a116, rv a118, rv a120, rv s2122, rv s2130, rv s2138, rv a114, rv s2208, rv s2216, rv s2224, own_lv (own_min xs (9223372036854775806 : Int64)), .second, own_lv (own_min xu (9223372036854775806 : Int64)), .second, rv a236, rv a240, iv al] [(.ref a240), (.ref a236)]) (mkF m 338 #[iv xp, iv xq, own_lv xs, .second, own_lv xu, .second, iv ra, iv rg, iv ri, iv rf, iv (1 : Int32), rv a108, rv a110, rv a112, rv a114, rv a116, rv a118, rv a120, rv s2122, rv s2130, rv s2138, rv a114, rv s2208, rv s2216, rv s2224, own_lv (own_min xs (9223372036854775806 : Int64)), .second, own_lv (own_min xu (9223372036854775806 : Int64)), .second, rv a236, rv a240, .unset] [(.int al)]) := by
    intro t kt
    refine XS.istore X242.here hx rfl (hb hby at_338) rfl (l' := #[iv xp, iv xq, own_lv xs, .second, own_lv xu, .second, iv ra, iv rg, iv ri, iv rf, iv (1 : Int32), rv a108, rv a110, rv a112, rv a114, rv a116, rv a118, rv a120, rv s2122, rv s2130, rv s2138, rv a114, rv s2208, rv s2216, rv s2224, own_lv (own_min xs (9223372036854775806 : Int64)), .second, own_lv (own_min xu (9223372036854775806 : Int64)), .second, rv a236, rv a240, iv al]) rfl ?_
    show own_S p e below T242 m 340 #[iv xp, iv xq, own_lv xs, .second, own_lv xu, .second, iv ra, iv rg, iv ri, iv rf, iv (1 : Int32), rv a108, rv a110, rv a112, rv a114, rv a116, rv a118, rv a120, rv s2122, rv s2130, rv s2138, rv a114, rv s2208, rv s2216, rv s2224, own_lv (own_min xs (9223372036854775806 : Int64)), .second, own_lv (own_min xu (9223372036854775806 : Int64)), .second, rv a236, rv a240, iv al] [] _
    refine XS.aload X242.here hx rfl (hb hby at_340) rfl rfl ?_
    show own_S p e below T242 m 342 #[iv xp, iv xq, own_lv xs, .second, own_lv xu, .second, iv ra, iv rg, iv ri, iv rf, iv (1 : Int32), rv a108, rv a110, rv a112, rv a114, rv a116, rv a118, rv a120, rv s2122, rv s2130, rv s2138, rv a114, rv s2208, rv s2216, rv s2224, own_lv (own_min xs (9223372036854775806 : Int64)), .second, own_lv (own_min xu (9223372036854775806 : Int64)), .second, rv a236, rv a240, iv al] [(.ref a236)] _
    refine XS.aload X242.here hx rfl (hb hby at_342) rfl rfl ?_
    show own_S p e below T242 m 344 #[iv xp, iv xq, own_lv xs, .second, own_lv xu, .second, iv ra, iv rg, iv ri, iv rf, iv (1 : Int32), rv a108, rv a110, rv a112, rv a114, rv a116, rv a118, rv a120, rv s2122, rv s2130, rv s2138, rv a114, rv s2208, rv s2216, rv s2224, own_lv (own_min xs (9223372036854775806 : Int64)), .second, own_lv (own_min xu (9223372036854775806 : Int64)), .second, rv a236, rv a240, iv al] [(.ref a240), (.ref a236)] _
    exact kt
  refine own_st sg246 ?_
  obtain ⟨_, T247, L247, X247, hQ247, st247⟩ := own_callV (y := (⟨"com/example/coverfold/coverfold/Usage", "sharesTextsOfKind", "(Lcom/example/coverfold/coverfold/Usage;)Z"⟩ : MethodName)) (y0 := (⟨"com/example/coverfold/coverfold/Usage", "sharesTextsOfKind", "(Lcom/example/coverfold/coverfold/Usage;)Z"⟩ : MethodName)) (a := a236) (C := "com/example/coverfold/coverfold/Usage") X242 hx hZ hown U1_242.1 (hw _ (List.mem_of_getElem? (i := 109) rfl)) (hw _ (List.mem_of_getElem? (i := 110) rfl)) (hw _ (List.mem_of_getElem? (i := 112) rfl)) (notFace_of_selects (args := #[]) (mvT hZ (hw _ (List.mem_of_getElem? (i := 112) rfl)))) (hw _ (List.mem_of_getElem? (i := 111) rfl)) (hw _ (List.mem_of_getElem? (i := 44) rfl)) (hw _ (List.mem_of_getElem? (i := 113) rfl)) (by decide) (own_rmshr l Z a0 hw a236 a240 a110 a112 a114 a116 a118 a120 s2130 s2138 a114 s2208 s2216 s2224 T242.heap n0 Z242 U1_242 R242.2) rfl (g := (mkF m 344 #[iv xp, iv xq, own_lv xs, .second, own_lv xu, .second, iv ra, iv rg, iv ri, iv rf, iv (1 : Int32), rv a108, rv a110, rv a112, rv a114, rv a116, rv a118, rv a120, rv s2122, rv s2130, rv s2138, rv a114, rv s2208, rv s2216, rv s2224, own_lv (own_min xs (9223372036854775806 : Int64)), .second, own_lv (own_min xu (9223372036854775806 : Int64)), .second, rv a236, rv a240, iv al] [(.ref a240), (.ref a236)])) rfl (by rw [hml]; rfl) (argsL := [(.ref a240)]) (rest := []) (lenOf own_pd18 rfl) rfl (W := 0) (by show 2 * 0 + _ ≤ _; exact Nat.le_of_eq rfl) (hb hby at_344) (by decide) (by decide) (by decide) (by decide)
  obtain ⟨rfl, Nq247, e247⟩ := hQ247
  refine own_st st247 ?_
  have N247 := Fr.app N242 Nq247
  show own_Go p e below _ T247 (mkF m 347 #[iv xp, iv xq, own_lv xs, .second, own_lv xu, .second, iv ra, iv rg, iv ri, iv rf, iv (1 : Int32), rv a108, rv a110, rv a112, rv a114, rv a116, rv a118, rv a120, rv s2122, rv s2130, rv s2138, rv a114, rv s2208, rv s2216, rv s2224, own_lv (own_min xs (9223372036854775806 : Int64)), .second, own_lv (own_min xu (9223372036854775806 : Int64)), .second, rv a236, rv a240, iv al] [(.int (if a110 = s2130 ∧ a112 = s2138 ∧ a114 = a114 ∧ a116 = s2208 ∧ a118 = s2216 ∧ a120 = s2224 then (1 : Int32) else (0 : Int32)))])
  have sg248 : own_V p e below T247 (mkF m 349 #[iv xp, iv xq, own_lv xs, .second, own_lv xu, .second, iv ra, iv rg, iv ri, iv rf, iv (1 : Int32), rv a108, rv a110, rv a112, rv a114, rv a116, rv a118, rv a120, rv s2122, rv s2130, rv s2138, rv a114, rv s2208, rv s2216, rv s2224, own_lv (own_min xs (9223372036854775806 : Int64)), .second, own_lv (own_min xu (9223372036854775806 : Int64)), .second, rv a236, rv a240, iv al] [(.int al), (.int (if a110 = s2130 ∧ a112 = s2138 ∧ a114 = a114 ∧ a116 = s2208 ∧ a118 = s2216 ∧ a120 = s2224 then (1 : Int32) else (0 : Int32)))]) (mkF m 347 #[iv xp, iv xq, own_lv xs, .second, own_lv xu, .second, iv ra, iv rg, iv ri, iv rf, iv (1 : Int32), rv a108, rv a110, rv a112, rv a114, rv a116, rv a118, rv a120, rv s2122, rv s2130, rv s2138, rv a114, rv s2208, rv s2216, rv s2224, own_lv (own_min xs (9223372036854775806 : Int64)), .second, own_lv (own_min xu (9223372036854775806 : Int64)), .second, rv a236, rv a240, iv al] [(.int (if a110 = s2130 ∧ a112 = s2138 ∧ a114 = a114 ∧ a116 = s2208 ∧ a118 = s2216 ∧ a120 = s2224 then (1 : Int32) else (0 : Int32)))]) := by
    intro t kt
    refine XS.iload X247.here hx rfl (hb hby at_347) rfl ?_
    show own_S p e below T247 m 349 #[iv xp, iv xq, own_lv xs, .second, own_lv xu, .second, iv ra, iv rg, iv ri, iv rf, iv (1 : Int32), rv a108, rv a110, rv a112, rv a114, rv a116, rv a118, rv a120, rv s2122, rv s2130, rv s2138, rv a114, rv s2208, rv s2216, rv s2224, own_lv (own_min xs (9223372036854775806 : Int64)), .second, own_lv (own_min xu (9223372036854775806 : Int64)), .second, rv a236, rv a240, iv al] [(.int al), (.int (if a110 = s2130 ∧ a112 = s2138 ∧ a114 = a114 ∧ a116 = s2208 ∧ a118 = s2216 ∧ a120 = s2224 then (1 : Int32) else (0 : Int32)))] _
    exact kt
  refine own_st sg248 ?_
  have hc249 : (if a110 = s2130 ∧ a112 = s2138 ∧ a114 = a114 ∧ a116 = s2208 ∧ a118 = s2216 ∧ a120 = s2224 then (1 : Int32) else (0 : Int32)) = al := own_l6 hal Q130 Q138 Qz Q208 Q216 Q224
  have sg250 : own_V p e below T247 (mkF m 352 #[iv xp, iv xq, own_lv xs, .second, own_lv xu, .second, iv ra, iv rg, iv ri, iv rf, iv (1 : Int32), rv a108, rv a110, rv a112, rv a114, rv a116, rv a118, rv a120, rv s2122, rv s2130, rv s2138, rv a114, rv s2208, rv s2216, rv s2224, own_lv (own_min xs (9223372036854775806 : Int64)), .second, own_lv (own_min xu (9223372036854775806 : Int64)), .second, rv a236, rv a240, iv al] []) (mkF m 349 #[iv xp, iv xq, own_lv xs, .second, own_lv xu, .second, iv ra, iv rg, iv ri, iv rf, iv (1 : Int32), rv a108, rv a110, rv a112, rv a114, rv a116, rv a118, rv a120, rv s2122, rv s2130, rv s2138, rv a114, rv s2208, rv s2216, rv s2224, own_lv (own_min xs (9223372036854775806 : Int64)), .second, own_lv (own_min xu (9223372036854775806 : Int64)), .second, rv a236, rv a240, iv al] [(.int al), (.int (if a110 = s2130 ∧ a112 = s2138 ∧ a114 = a114 ∧ a116 = s2208 ∧ a118 = s2216 ∧ a120 = s2224 then (1 : Int32) else (0 : Int32)))]) := by
    intro t kt
    refine XS.icmpNo X247.here hx rfl (hb hby at_349) rfl (teq hc249).2 ?_
    exact kt
  refine own_st sg250 ?_
  have sg251 : own_V p e below T247 (mkF m 356 #[iv xp, iv xq, own_lv xs, .second, own_lv xu, .second, iv ra, iv rg, iv ri, iv rf, iv (1 : Int32), rv a108, rv a110, rv a112, rv a114, rv a116, rv a118, rv a120, rv s2122, rv s2130, rv s2138, rv a114, rv s2208, rv s2216, rv s2224, own_lv (own_min xs (9223372036854775806 : Int64)), .second, own_lv (own_min xu (9223372036854775806 : Int64)), .second, rv a236, rv a240, iv al] [(.ref a236), (.ref a240)]) (mkF m 352 #[iv xp, iv xq, own_lv xs, .second, own_lv xu, .second, iv ra, iv rg, iv ri, iv rf, iv (1 : Int32), rv a108, rv a110, rv a112, rv a114, rv a116, rv a118, rv a120, rv s2122, rv s2130, rv s2138, rv a114, rv s2208, rv s2216, rv s2224, own_lv (own_min xs (9223372036854775806 : Int64)), .second, own_lv (own_min xu (9223372036854775806 : Int64)), .second, rv a236, rv a240, iv al] []) := by
    intro t kt
    refine XS.aload X247.here hx rfl (hb hby at_352) rfl rfl ?_
    show own_S p e below T247 m 354 #[iv xp, iv xq, own_lv xs, .second, own_lv xu, .second, iv ra, iv rg, iv ri, iv rf, iv (1 : Int32), rv a108, rv a110, rv a112, rv a114, rv a116, rv a118, rv a120, rv s2122, rv s2130, rv s2138, rv a114, rv s2208, rv s2216, rv s2224, own_lv (own_min xs (9223372036854775806 : Int64)), .second, own_lv (own_min xu (9223372036854775806 : Int64)), .second, rv a236, rv a240, iv al] [(.ref a240)] _
    refine XS.aload X247.here hx rfl (hb hby at_354) rfl rfl ?_
    show own_S p e below T247 m 356 #[iv xp, iv xq, own_lv xs, .second, own_lv xu, .second, iv ra, iv rg, iv ri, iv rf, iv (1 : Int32), rv a108, rv a110, rv a112, rv a114, rv a116, rv a118, rv a120, rv s2122, rv s2130, rv s2138, rv a114, rv s2208, rv s2216, rv s2224, own_lv (own_min xs (9223372036854775806 : Int64)), .second, own_lv (own_min xu (9223372036854775806 : Int64)), .second, rv a236, rv a240, iv al] [(.ref a236), (.ref a240)] _
    exact kt
  refine own_st sg251 ?_
  obtain ⟨_, T252, L252, X252, hQ252, st252⟩ := own_callV (y := (⟨"com/example/coverfold/coverfold/Usage", "sharesTextsOfKind", "(Lcom/example/coverfold/coverfold/Usage;)Z"⟩ : MethodName)) (y0 := (⟨"com/example/coverfold/coverfold/Usage", "sharesTextsOfKind", "(Lcom/example/coverfold/coverfold/Usage;)Z"⟩ : MethodName)) (a := a240) (C := "com/example/coverfold/coverfold/Usage") X247 hx hZ hown R242.2.1 (hw _ (List.mem_of_getElem? (i := 109) rfl)) (hw _ (List.mem_of_getElem? (i := 110) rfl)) (hw _ (List.mem_of_getElem? (i := 112) rfl)) (notFace_of_selects (args := #[]) (mvT hZ (hw _ (List.mem_of_getElem? (i := 112) rfl)))) (hw _ (List.mem_of_getElem? (i := 111) rfl)) (hw _ (List.mem_of_getElem? (i := 44) rfl)) (hw _ (List.mem_of_getElem? (i := 113) rfl)) (by decide) (own_rmshr l Z a0 hw a240 a236 s2130 s2138 a114 s2208 s2216 s2224 a110 a112 a114 a116 a118 a120 T242.heap n0 Z242 R242.2 U1_242) e247 (g := (mkF m 356 #[iv xp, iv xq, own_lv xs, .second, own_lv xu, .second, iv ra, iv rg, iv ri, iv rf, iv (1 : Int32), rv a108, rv a110, rv a112, rv a114, rv a116, rv a118, rv a120, rv s2122, rv s2130, rv s2138, rv a114, rv s2208, rv s2216, rv s2224, own_lv (own_min xs (9223372036854775806 : Int64)), .second, own_lv (own_min xu (9223372036854775806 : Int64)), .second, rv a236, rv a240, iv al] [(.ref a236), (.ref a240)])) rfl (by rw [hml]; rfl) (argsL := [(.ref a236)]) (rest := []) (lenOf own_pd18 rfl) rfl (W := 0) (by show 2 * 0 + _ ≤ _; exact Nat.le_of_eq rfl) (hb hby at_356) (by decide) (by decide) (by decide) (by decide)
  obtain ⟨rfl, Nq252, e252⟩ := hQ252
  refine own_st st252 ?_
  have N252 := Fr.app N247 Nq252
  show own_Go p e below _ T252 (mkF m 359 #[iv xp, iv xq, own_lv xs, .second, own_lv xu, .second, iv ra, iv rg, iv ri, iv rf, iv (1 : Int32), rv a108, rv a110, rv a112, rv a114, rv a116, rv a118, rv a120, rv s2122, rv s2130, rv s2138, rv a114, rv s2208, rv s2216, rv s2224, own_lv (own_min xs (9223372036854775806 : Int64)), .second, own_lv (own_min xu (9223372036854775806 : Int64)), .second, rv a236, rv a240, iv al] [(.int (if s2130 = a110 ∧ s2138 = a112 ∧ a114 = a114 ∧ s2208 = a116 ∧ s2216 = a118 ∧ s2224 = a120 then (1 : Int32) else (0 : Int32)))])
  have sg253 : own_V p e below T252 (mkF m 361 #[iv xp, iv xq, own_lv xs, .second, own_lv xu, .second, iv ra, iv rg, iv ri, iv rf, iv (1 : Int32), rv a108, rv a110, rv a112, rv a114, rv a116, rv a118, rv a120, rv s2122, rv s2130, rv s2138, rv a114, rv s2208, rv s2216, rv s2224, own_lv (own_min xs (9223372036854775806 : Int64)), .second, own_lv (own_min xu (9223372036854775806 : Int64)), .second, rv a236, rv a240, iv al] [(.int al), (.int (if s2130 = a110 ∧ s2138 = a112 ∧ a114 = a114 ∧ s2208 = a116 ∧ s2216 = a118 ∧ s2224 = a120 then (1 : Int32) else (0 : Int32)))]) (mkF m 359 #[iv xp, iv xq, own_lv xs, .second, own_lv xu, .second, iv ra, iv rg, iv ri, iv rf, iv (1 : Int32), rv a108, rv a110, rv a112, rv a114, rv a116, rv a118, rv a120, rv s2122, rv s2130, rv s2138, rv a114, rv s2208, rv s2216, rv s2224, own_lv (own_min xs (9223372036854775806 : Int64)), .second, own_lv (own_min xu (9223372036854775806 : Int64)), .second, rv a236, rv a240, iv al] [(.int (if s2130 = a110 ∧ s2138 = a112 ∧ a114 = a114 ∧ s2208 = a116 ∧ s2216 = a118 ∧ s2224 = a120 then (1 : Int32) else (0 : Int32)))]) := by
    intro t kt
    refine XS.iload X252.here hx rfl (hb hby at_359) rfl ?_
    show own_S p e below T252 m 361 #[iv xp, iv xq, own_lv xs, .second, own_lv xu, .second, iv ra, iv rg, iv ri, iv rf, iv (1 : Int32), rv a108, rv a110, rv a112, rv a114, rv a116, rv a118, rv a120, rv s2122, rv s2130, rv s2138, rv a114, rv s2208, rv s2216, rv s2224, own_lv (own_min xs (9223372036854775806 : Int64)), .second, own_lv (own_min xu (9223372036854775806 : Int64)), .second, rv a236, rv a240, iv al] [(.int al), (.int (if s2130 = a110 ∧ s2138 = a112 ∧ a114 = a114 ∧ s2208 = a116 ∧ s2216 = a118 ∧ s2224 = a120 then (1 : Int32) else (0 : Int32)))] _
    exact kt
  refine own_st sg253 ?_
  have hc254 : (if s2130 = a110 ∧ s2138 = a112 ∧ a114 = a114 ∧ s2208 = a116 ∧ s2216 = a118 ∧ s2224 = a120 then (1 : Int32) else (0 : Int32)) = al := own_l6' hal Q130 Q138 Qz Q208 Q216 Q224
  have sg255 : own_V p e below T252 (mkF m 364 #[iv xp, iv xq, own_lv xs, .second, own_lv xu, .second, iv ra, iv rg, iv ri, iv rf, iv (1 : Int32), rv a108, rv a110, rv a112, rv a114, rv a116, rv a118, rv a120, rv s2122, rv s2130, rv s2138, rv a114, rv s2208, rv s2216, rv s2224, own_lv (own_min xs (9223372036854775806 : Int64)), .second, own_lv (own_min xu (9223372036854775806 : Int64)), .second, rv a236, rv a240, iv al] []) (mkF m 361 #[iv xp, iv xq, own_lv xs, .second, own_lv xu, .second, iv ra, iv rg, iv ri, iv rf, iv (1 : Int32), rv a108, rv a110, rv a112, rv a114, rv a116, rv a118, rv a120, rv s2122, rv s2130, rv s2138, rv a114, rv s2208, rv s2216, rv s2224, own_lv (own_min xs (9223372036854775806 : Int64)), .second, own_lv (own_min xu (9223372036854775806 : Int64)), .second, rv a236, rv a240, iv al] [(.int al), (.int (if s2130 = a110 ∧ s2138 = a112 ∧ a114 = a114 ∧ s2208 = a116 ∧ s2216 = a118 ∧ s2224 = a120 then (1 : Int32) else (0 : Int32)))]) := by
    intro t kt
    refine XS.icmpNo X252.here hx rfl (hb hby at_361) rfl (teq hc254).2 ?_
    exact kt
  refine own_st sg255 ?_
  have sg256 : own_V p e below T252 (mkF m 368 #[iv xp, iv xq, own_lv xs, .second, own_lv xu, .second, iv ra, iv rg, iv ri, iv rf, iv (1 : Int32), rv a108, rv a110, rv a112, rv a114, rv a116, rv a118, rv a120, rv s2122, rv s2130, rv s2138, rv a114, rv s2208, rv s2216, rv s2224, own_lv (own_min xs (9223372036854775806 : Int64)), .second, own_lv (own_min xu (9223372036854775806 : Int64)), .second, rv a236, rv a240, iv al] [(.ref a236), (.ref a236)]) (mkF m 364 #[iv xp, iv xq, own_lv xs, .second, own_lv xu, .second, iv ra, iv rg, iv ri, iv rf, iv (1 : Int32), rv a108, rv a110, rv a112, rv a114, rv a116, rv a118, rv a120, rv s2122, rv s2130, rv s2138, rv a114, rv s2208, rv s2216, rv s2224, own_lv (own_min xs (9223372036854775806 : Int64)), .second, own_lv (own_min xu (9223372036854775806 : Int64)), .second, rv a236, rv a240, iv al] []) := by
    intro t kt
    refine XS.aload X252.here hx rfl (hb hby at_364) rfl rfl ?_
    show own_S p e below T252 m 366 #[iv xp, iv xq, own_lv xs, .second, own_lv xu, .second, iv ra, iv rg, iv ri, iv rf, iv (1 : Int32), rv a108, rv a110, rv a112, rv a114, rv a116, rv a118, rv a120, rv s2122, rv s2130, rv s2138, rv a114, rv s2208, rv s2216, rv s2224, own_lv (own_min xs (9223372036854775806 : Int64)), .second, own_lv (own_min xu (9223372036854775806 : Int64)), .second, rv a236, rv a240, iv al] [(.ref a236)] _
    refine XS.aload X252.here hx rfl (hb hby at_366) rfl rfl ?_
    show own_S p e below T252 m 368 #[iv xp, iv xq, own_lv xs, .second, own_lv xu, .second, iv ra, iv rg, iv ri, iv rf, iv (1 : Int32), rv a108, rv a110, rv a112, rv a114, rv a116, rv a118, rv a120, rv s2122, rv s2130, rv s2138, rv a114, rv s2208, rv s2216, rv s2224, own_lv (own_min xs (9223372036854775806 : Int64)), .second, own_lv (own_min xu (9223372036854775806 : Int64)), .second, rv a236, rv a240, iv al] [(.ref a236), (.ref a236)] _
    exact kt
  refine own_st sg256 ?_
  obtain ⟨_, T257, L257, X257, hQ257, st257⟩ := own_callV (y := (⟨"com/example/coverfold/coverfold/Usage", "sharesTextsOfKind", "(Lcom/example/coverfold/coverfold/Usage;)Z"⟩ : MethodName)) (y0 := (⟨"com/example/coverfold/coverfold/Usage", "sharesTextsOfKind", "(Lcom/example/coverfold/coverfold/Usage;)Z"⟩ : MethodName)) (a := a236) (C := "com/example/coverfold/coverfold/Usage") X252 hx hZ hown U1_242.1 (hw _ (List.mem_of_getElem? (i := 109) rfl)) (hw _ (List.mem_of_getElem? (i := 110) rfl)) (hw _ (List.mem_of_getElem? (i := 112) rfl)) (notFace_of_selects (args := #[]) (mvT hZ (hw _ (List.mem_of_getElem? (i := 112) rfl)))) (hw _ (List.mem_of_getElem? (i := 111) rfl)) (hw _ (List.mem_of_getElem? (i := 44) rfl)) (hw _ (List.mem_of_getElem? (i := 113) rfl)) (by decide) (own_rmshr l Z a0 hw a236 a236 a110 a112 a114 a116 a118 a120 a110 a112 a114 a116 a118 a120 T242.heap n0 Z242 U1_242 U1_242) e252 (g := (mkF m 368 #[iv xp, iv xq, own_lv xs, .second, own_lv xu, .second, iv ra, iv rg, iv ri, iv rf, iv (1 : Int32), rv a108, rv a110, rv a112, rv a114, rv a116, rv a118, rv a120, rv s2122, rv s2130, rv s2138, rv a114, rv s2208, rv s2216, rv s2224, own_lv (own_min xs (9223372036854775806 : Int64)), .second, own_lv (own_min xu (9223372036854775806 : Int64)), .second, rv a236, rv a240, iv al] [(.ref a236), (.ref a236)])) rfl (by rw [hml]; rfl) (argsL := [(.ref a236)]) (rest := []) (lenOf own_pd18 rfl) rfl (W := 0) (by show 2 * 0 + _ ≤ _; exact Nat.le_of_eq rfl) (hb hby at_368) (by decide) (by decide) (by decide) (by decide)
  obtain ⟨rfl, Nq257, e257⟩ := hQ257
  refine own_st st257 ?_
  have N257 := Fr.app N252 Nq257
  show own_Go p e below _ T257 (mkF m 371 #[iv xp, iv xq, own_lv xs, .second, own_lv xu, .second, iv ra, iv rg, iv ri, iv rf, iv (1 : Int32), rv a108, rv a110, rv a112, rv a114, rv a116, rv a118, rv a120, rv s2122, rv s2130, rv s2138, rv a114, rv s2208, rv s2216, rv s2224, own_lv (own_min xs (9223372036854775806 : Int64)), .second, own_lv (own_min xu (9223372036854775806 : Int64)), .second, rv a236, rv a240, iv al] [(.int (if a110 = a110 ∧ a112 = a112 ∧ a114 = a114 ∧ a116 = a116 ∧ a118 = a118 ∧ a120 = a120 then (1 : Int32) else (0 : Int32)))])
  have hc258 : ¬ (if a110 = a110 ∧ a112 = a112 ∧ a114 = a114 ∧ a116 = a116 ∧ a118 = a118 ∧ a120 = a120 then (1 : Int32) else (0 : Int32)) = (0 : Int32) := by rw [if_pos ⟨rfl, rfl, rfl, rfl, rfl, rfl⟩]; decide
  have sg259 : own_V p e below T257 (mkF m 374 #[iv xp, iv xq, own_lv xs, .second, own_lv xu, .second, iv ra, iv rg, iv ri, iv rf, iv (1 : Int32), rv a108, rv a110, rv a112, rv a114, rv a116, rv a118, rv a120, rv s2122, rv s2130, rv s2138, rv a114, rv s2208, rv s2216, rv s2224, own_lv (own_min xs (9223372036854775806 : Int64)), .second, own_lv (own_min xu (9223372036854775806 : Int64)), .second, rv a236, rv a240, iv al] []) (mkF m 371 #[iv xp, iv xq, own_lv xs, .second, own_lv xu, .second, iv ra, iv rg, iv ri, iv rf, iv (1 : Int32), rv a108, rv a110, rv a112, rv a114, rv a116, rv a118, rv a120, rv s2122, rv s2130, rv s2138, rv a114, rv s2208, rv s2216, rv s2224, own_lv (own_min xs (9223372036854775806 : Int64)), .second, own_lv (own_min xu (9223372036854775806 : Int64)), .second, rv a236, rv a240, iv al] [(.int (if a110 = a110 ∧ a112 = a112 ∧ a114 = a114 ∧ a116 = a116 ∧ a118 = a118 ∧ a120 = a120 then (1 : Int32) else (0 : Int32)))]) := by
    intro t kt
    refine XS.ifNo X257.here hx rfl (hb hby at_371) rfl ((if0 _ _).trans (feq hc258).1) ?_
    exact kt
  refine own_st sg259 ?_
  have sg260 : own_V p e below T257 (mkF m 379 #[iv xp, iv xq, own_lv xs, .second, own_lv xu, .second, iv ra, iv rg, iv ri, iv rf, iv (1 : Int32), rv a108, rv a110, rv a112, rv a114, rv a116, rv a118, rv a120, rv s2122, rv s2130, rv s2138, rv a114, rv s2208, rv s2216, rv s2224, own_lv (own_min xs (9223372036854775806 : Int64)), .second, own_lv (own_min xu (9223372036854775806 : Int64)), .second, rv a236, rv a240, iv al] [(.int (1 : Int32))]) (mkF m 374 #[iv xp, iv xq, own_lv xs, .second, own_lv xu, .second, iv ra, iv rg, iv ri, iv rf, iv (1 : Int32), rv a108, rv a110, rv a112, rv a114, rv a116, rv a118, rv a120, rv s2122, rv s2130, rv s2138, rv a114, rv s2208, rv s2216, rv s2224, own_lv (own_min xs (9223372036854775806 : Int64)), .second, own_lv (own_min xu (9223372036854775806 : Int64)), .second, rv a236, rv a240, iv al] []) := by
    intro t kt
    refine XS.iconst X257.here hx rfl (hb hby at_374) ?_
    show own_S p e below T257 m 375 #[iv xp, iv xq, own_lv xs, .second, own_lv xu, .second, iv ra, iv rg, iv ri, iv rf, iv (1 : Int32), rv a108, rv a110, rv a112, rv a114, rv a116, rv a118, rv a120, rv s2122, rv s2130, rv s2138, rv a114, rv s2208, rv s2216, rv s2224, own_lv (own_min xs (9223372036854775806 : Int64)), .second, own_lv (own_min xu (9223372036854775806 : Int64)), .second, rv a236, rv a240, iv al] [(.int (1 : Int32))] _
    refine XS.goto X257.here hx rfl (pc0 := 375) (pc' := 379) rfl (hb hby at_375) (by decide) (by decide) ?_
    show own_S p e below T257 m 379 #[iv xp, iv xq, own_lv xs, .second, own_lv xu, .second, iv ra, iv rg, iv ri, iv rf, iv (1 : Int32), rv a108, rv a110, rv a112, rv a114, rv a116, rv a118, rv a120, rv s2122, rv s2130, rv s2138, rv a114, rv s2208, rv s2216, rv s2224, own_lv (own_min xs (9223372036854775806 : Int64)), .second, own_lv (own_min xu (9223372036854775806 : Int64)), .second, rv a236, rv a240, iv al] [(.int (1 : Int32))] _
    exact kt
  refine own_st sg260 ?_
  exact own_retZJ (s := s) (vm1 := T114.vm) X257 hx I114 kk242 Bd.notSynchronized Bd.returns (hb hby at_379) (by decide) (by decide) (by decide) e257 ⟨rfl, N257⟩
set_option maxRecDepth 65536 in
set_option maxHeartbeats 40000000 in
theorem comes_1 {Post : Tables → Env → Array Value → State → Outcome → State → Prop} (hpost : ∀ tb e args s v u, (limb_1_1.after args s (.returned v) u = true ∧ limb_1_2.after args s (.returned v) u = true ∧ True) → ReturnedEndW s (.returned v) u (Jvm.fieldLocs frame_1_writes args s ++ Jvm.arrayLocs frame_1_arrays args s ++ Jvm.staticLocs frame_1_statics s) 104 1344 → Post tb e args s (.returned v) u) :
    ArmFor flags0 classFile x code maxLocals ret World_1 tables_1 room_1 Calls_1 rest_1 Pre_1 Post := by
  intro l hfl _ _ p e ha hc hk s m args below hf hA hF happ hP
  obtain ⟨hcalls, hrest, hpre⟩ := hP
  obtain ⟨-, -, -, hnamed, -, -, -, hat⟩ := (Spec.applies_iff hf).mp happ
  obtain ⟨hg, hn⟩ := and_e (Cond.before_iff.mp (show (Jvm.Cond.and given_1 narrow_1).before args s = true from hpre))
  obtain ⟨g1, g2⟩ := and_e hg
  obtain ⟨g3, g4⟩ := and_e g2
  obtain ⟨g5, g6⟩ := and_e g4
  obtain ⟨g7, g8⟩ := and_e g6
  obtain ⟨w0, w1, w2, w3, rfl⟩ : ∃ w0 w1 w2 w3 : Value, args = #[w0, w1, w2, w3] := by
    have hs : args.size = 4 := by simpa [Cond.value, given_1] using g1
    obtain ⟨L⟩ := args
    match L, hs with
    | [w0, w1, w2, w3], _ => exact ⟨w0, w1, w2, w3, rfl⟩
  have hw := fun d (hd : d ∈ tables_1) => atoms_spec (ws := Jvm.Cond.code x code maxLocals ret :: tables_1) hat d (List.mem_cons_of_mem _ hd)
  have hfit : Fit s := fun {y c} hc i hi => by
    obtain ⟨ha, rfl⟩ := Array.getElem?_eq_some_iff.mp hc
    have q := List.all_eq_true.mp ((Array.all_eq_true_iff_forall_mem.mp hF) _ (Array.getElem_mem ha)) i (List.mem_range.mpr hi)
    simpa [Array.getElem?_eq_getElem hi] using q
  obtain ⟨hsets, hown0⟩ := atoms_of _ (rest_1_c_eq ▸ (show rest_1_c.before _ s = true from hrest))
  have hr0 := Cond.before_iff.mp hown0
  obtain ⟨i0, ei0⟩ := is_v g3
  obtain rfl : w0 = (.int i0) := Option.some.inj ei0
  obtain ⟨i1, ei1⟩ := is_v g5
  obtain rfl : w1 = (.int i1) := Option.some.inj ei1
  obtain ⟨i2, ei2⟩ := isL_v g7
  obtain rfl : w2 = (.long i2) := Option.some.inj ei2
  obtain ⟨i3, ei3⟩ := isL_v g8
  obtain rfl : w3 = (.long i3) := Option.some.inj ei3
  have ss1 := Cond.before_iff.mp (hsets _ (List.mem_of_getElem? (i := 1) rfl))
  obtain ⟨cc, ecc⟩ := is_v ss1
  have SC := Sta.start ecc (Or.inl (hsets _ (List.mem_of_getElem? (i := 0) rfl)))
  have hcw : Jvm.Lit.compactW.before _ s = true := hsets _ (List.mem_of_getElem? (i := 2) rfl)
  have hcc : ¬ cc = 0 := fun z => by
    have q := not_v (Cond.before_iff.mp hcw)
    rw [Cond.eq_ints ecc (Term.int_eval 0)] at q
    simp [z] at q
  have hh : Jvm.Lit.constHeld s "java/lang/String" 7 := hcalls.1 _ (List.mem_of_getElem? (i := 0) rfl)
  obtain ⟨n, o, h1, h2, h3, _, L, rfl, ⟨rfl, N⟩, hq⟩ := own_rmlaw l s _ hw i0 i1 i2 i3 cc s.heap s.heap.size (Nat.le_refl _) SC hcc rfl hh hcw p e ha hc hk s m _ below hf ((Spec.applies_iff_loose hf).mp happ).1 ⟨rfl, State.Warmed39.refl s, rfl, rfl⟩ trivial
  refine ⟨n, _, h1, h2, h3, hpost _ _ _ _ _ _ ⟨Cond.after_iff.mpr rfl, Cond.after_iff.mpr (eq_i res_at (Term.int_eval (1)) rfl), trivial⟩ ⟨hq.1, hq.2.1, hq.2.2.1, (hq.2.2.2.sift fun y hy => Or.inr (N y hy)).mono (by decide) (by decide)⟩⟩
theorem main_1_1 : Claimed_1_1 := comes_1 fun _ _ _ _ _ _ h hF => ⟨h.1, hF⟩
theorem main_1_2 : Claimed_1_2 := comes_1 fun _ _ _ _ _ _ h hF => ⟨h.2.1, hF⟩
end Jvm.Pilot.@@N@@
namespace Jvm.Pilot.@@N@@
open Jvm Jvm.ClassFile Sem Op Lib Jvm.Free Jvm.Stand Jvm.Pilot.@@N@@.Jvm.D
/-! MADE BY PROGRAM (witnessworld.py) out of the Statement's table words and the real class files: 23 classes; the members and pool entries that the words name. The judged class is class 1, her method 3. -/
namespace start1
open Jvm.ClassFile
def u (s : String) : CpInfo := .utf8 (stringToUtf16 s)
/-- a pool by its gaps: so many unusable entries, then the entry; so many at the end -/
def gap : Nat → List CpInfo → List CpInfo
  | 0, r => r
  | n + 1, r => .unusable :: gap n r
def poolList (es : List (Nat × CpInfo)) (last : Nat) : List CpInfo := es.foldr (fun e r => gap e.1 (e.2 :: r)) (gap last [])
def pool (es : List (Nat × CpInfo)) (last : Nat) : Array CpInfo := ⟨poolList es last⟩
def fileOf (pool : Array CpInfo) (this : Nat) (attrs : Array Attribute := #[]) (ms : Array MethodInfo := #[]) (fl : Nat := 33) (sup : Nat := 0) (ifs : Array Nat := #[]) (fds : Array FieldInfo := #[]) : ClassFile where
  minorVersion := 0
  majorVersion := 65
  constantPool := pool
  accessFlags := fl
  thisClass := this
  superClass := sup
  interfaces := ifs
  fields := fds
  methods := ms
  attributes := attrs
def plain (name : String) (sup : Option ClassId) : Class where
  name := name
  kind := .ordinary
  loader := none
  accessFlags := 33
  super := sup
  interfaces := #[]
  cf := none
  fields := #[]
  methods := #[]
  instanceTypes := #[]
  staticTypes := #[]
  resolved := #[]
  callSites := []
  init := .initialized
  statics := none
  mirror := none

def pool0 : Array CpInfo := pool [(5, u "<init>"), (0, u "()V"), (1, .class_ 10), (1, u "java/lang/Object")] 113

def k0c0 : Code := { maxStack := 0, maxLocals := 1, code := object_method_1_code, exceptionTable := #[], attributes := #[] }
def k0m0 : Method := { name := "<init>", desc := "()V", sig := { parameters := [], returnType := none }, accessFlags := 1, code := some k0c0 }
/-- java/lang/Object -/
def k0 : Class := { plain "java/lang/Object" none with
  accessFlags := 33
  interfaces := #[]
  cf := some (fileOf pool0 8 #[] #[{ accessFlags := 1, nameIndex := 5, descriptorIndex := 6, attributes := #[] }] 33 0 #[] #[])
  fields := #[]
  methods := #[k0m0]
  instanceTypes := #[]
  staticTypes := #[]
  resolved := Array.replicate 124 none
  statics := none }

def pool1 : Array CpInfo := pool [(2, .class_ 4), (1, u "java/lang/Object"), (0, u "<init>"), (0, u "()V"), (0, .class_ 8), (0, u "java/lang/String"), (0, .methodref 7 10), (0, .nameAndType 5 11), (0, u "([C)V"), (0, .methodref 13 14), (0, .class_ 15), (0, .nameAndType 16 17), (0, u "com/example/coverfold/coverfold/UsageSharesTextsOfKindPinLaw"), (0, u "text"), (0, u "(I)Ljava/lang/String;"), (0, .methodref 13 19), (0, .nameAndType 20 21), (0, u "zoneText"), (0, u "(ZI)Ljava/lang/String;"), (2, .long 9223372036854775806), (1, .methodref 27 28), (0, .class_ 29), (0, .nameAndType 30 31), (0, u "java/lang/Math"), (0, u "min"), (0, u "(JJ)J"), (0, .class_ 33), (0, u "com/example/coverfold/coverfold/Usage"), (0, .methodref 32 35), (0, .nameAndType 5 36), (0, u "(Ljava/lang/String;Ljava/lang/String;Ljava/lang/String;Ljava/lang/String;Ljava/lang/String;Ljava/lang/String;Ljava/lang/String;JJ)V"), (0, .methodref 32 38), (0, .nameAndType 39 40), (0, u "sharesTextsOfKind"), (0, u "(Lcom/example/coverfold/coverfold/Usage;)Z"), (3, u "law"), (0, u "(IIJJ)Z")] 2

def k1m0 : Method := { name := "<init>", desc := "()V", sig := { parameters := [], returnType := none }, accessFlags := 1, code := none }
def k1c1 : Code := { maxStack := 4, maxLocals := 2, code := method_2_code, exceptionTable := #[], attributes := #[] }
def k1m1 : Method := { name := "text", desc := "(I)Ljava/lang/String;", sig := { parameters := [.int], returnType := some (.object "java/lang/String") }, accessFlags := 10, code := some k1c1 }
def k1c2 : Code := { maxStack := 3, maxLocals := 2, code := method_3_code, exceptionTable := #[], attributes := #[] }
def k1m2 : Method := { name := "zoneText", desc := "(ZI)Ljava/lang/String;", sig := { parameters := [.boolean, .int], returnType := some (.object "java/lang/String") }, accessFlags := 10, code := some k1c2 }
def k1c3 : Code := { maxStack := 15, maxLocals := 32, code := code, exceptionTable := #[], attributes := #[] }
def k1m3 : Method := { name := "law", desc := "(IIJJ)Z", sig := { parameters := [.int, .int, .long, .long], returnType := some .boolean }, accessFlags := 9, code := some k1c3 }
/-- com/example/coverfold/coverfold/UsageSharesTextsOfKindPinLaw -/
def k1 : Class := { plain "com/example/coverfold/coverfold/UsageSharesTextsOfKindPinLaw" (some 0) with
  accessFlags := 49
  interfaces := #[]
  cf := some (fileOf pool1 13 #[] #[{ accessFlags := 1, nameIndex := 5, descriptorIndex := 6, attributes := #[] }, { accessFlags := 10, nameIndex := 16, descriptorIndex := 17, attributes := #[] }, { accessFlags := 10, nameIndex := 20, descriptorIndex := 21, attributes := #[] }, { accessFlags := 9, nameIndex := 44, descriptorIndex := 45, attributes := #[] }] 49 2 #[] #[])
  fields := #[]
  methods := #[k1m0, k1m1, k1m2, k1m3]
  instanceTypes := #[]
  staticTypes := #[]
  resolved := Array.replicate 48 none
  statics := none }

def pool2 : Array CpInfo := pool [(1, .class_ 2), (0, u "java/io/Serializable"), (0, .class_ 4), (0, u "java/lang/Object")] 2

/-- java/io/Serializable -/
def k2 : Class := { plain "java/io/Serializable" (some 0) with
  accessFlags := 1537
  interfaces := #[]
  cf := some (fileOf pool2 1 #[] #[] 1537 3 #[] #[])
  fields := #[]
  methods := #[]
  instanceTypes := #[]
  staticTypes := #[]
  resolved := Array.replicate 7 none
  statics := none }

def pool3 : Array CpInfo := pool [(1, .class_ 2), (0, u "java/lang/Comparable"), (0, .class_ 4), (0, u "java/lang/Object")] 7

/-- java/lang/Comparable -/
def k3 : Class := { plain "java/lang/Comparable" (some 0) with
  accessFlags := 1537
  interfaces := #[]
  cf := some (fileOf pool3 1 #[] #[] 1537 3 #[] #[])
  fields := #[]
  methods := #[]
  instanceTypes := #[]
  staticTypes := #[]
  resolved := Array.replicate 12 none
  statics := none }

def pool4 : Array CpInfo := pool [(2, .class_ 4), (1, u "java/lang/CharSequence"), (42, .class_ 48), (0, u "java/lang/CharSequence$1CodePointIterator"), (10, .class_ 60), (0, u "java/lang/CharSequence$1CharIterator"), (5, .class_ 67), (0, u "java/lang/Object")] 63

/-- java/lang/CharSequence -/
def k4 : Class := { plain "java/lang/CharSequence" (some 0) with
  accessFlags := 1537
  interfaces := #[]
  cf := some (fileOf pool4 2 #[.nestMembers #[47, 59]] #[] 1537 66 #[] #[])
  fields := #[]
  methods := #[]
  instanceTypes := #[]
  staticTypes := #[]
  resolved := Array.replicate 131 none
  statics := none }

def pool5 : Array CpInfo := pool [(1, .class_ 2), (0, u "java/lang/constant/Constable"), (0, .class_ 4), (0, u "java/lang/Object")] 6

/-- java/lang/constant/Constable -/
def k5 : Class := { plain "java/lang/constant/Constable" (some 0) with
  accessFlags := 1537
  interfaces := #[]
  cf := some (fileOf pool5 1 #[] #[] 1537 3 #[] #[])
  fields := #[]
  methods := #[]
  instanceTypes := #[]
  staticTypes := #[]
  resolved := Array.replicate 11 none
  statics := none }

def pool6 : Array CpInfo := pool [(1, .class_ 2), (0, u "java/lang/constant/ConstantDesc"), (0, .class_ 4), (0, u "java/lang/Object")] 32

/-- java/lang/constant/ConstantDesc -/
def k6 : Class := { plain "java/lang/constant/ConstantDesc" (some 0) with
  accessFlags := 1537
  interfaces := #[]
  cf := some (fileOf pool6 1 #[] #[] 1537 3 #[] #[])
  fields := #[]
  methods := #[]
  instanceTypes := #[]
  staticTypes := #[]
  resolved := Array.replicate 37 none
  statics := none }

def pool7 : Array CpInfo := pool [(1, .methodref 2 3), (0, .class_ 4), (0, .nameAndType 5 6), (0, u "java/lang/Object"), (0, u "<init>"), (0, u "()V"), (0, .string 8), (0, u ""), (0, .fieldref 10 11), (0, .class_ 12), (0, .nameAndType 13 14), (0, u "java/lang/String"), (0, u "value"), (0, u "[B"), (0, .fieldref 10 16), (0, .nameAndType 17 18), (0, u "coder"), (0, u "B"), (2, u "hash"), (0, u "I"), (2, u "hashIsZero"), (0, u "Z"), (0, .methodref 10 28), (0, .nameAndType 5 29), (0, u "([CIILjava/lang/Void;)V"), (8, .fieldref 10 39), (0, .nameAndType 40 26), (0, u "COMPACT_STRINGS"), (1, .class_ 44), (1, u "java/lang/StringUTF16"), (0, u "compress"), (1, .methodref 42 48), (0, .nameAndType 49 50), (0, u "coderFromArrayLen"), (0, u "([BI)B"), (91, u "()Z"), (34, .methodref 42 178), (0, .nameAndType 45 179), (0, u "([CII)[B"), (154, u "()I"), (0, .methodref 10 336), (0, .nameAndType 17 337), (0, u "()B"), (38, u "([BI[BII)I"), (128, .methodref 10 506), (0, .nameAndType 507 334), (0, u "length"), (51, .class_ 561), (1, u "jdk/internal/util/ArraysSupport"), (0, u "mismatch"), (12, .class_ 576), (0, u "java/lang/CharSequence"), (22, u "CASE_INSENSITIVE_ORDER"), (0, u "Ljava/util/Comparator;"), (6, .methodref 559 608), (0, .nameAndType 562 376), (15, .methodref 10 625), (0, .nameAndType 626 627), (0, u "startsWith"), (0, u "(Ljava/lang/String;I)Z"), (64, u "isEmpty"), (317, u "([C)V"), (90, u "serialPersistentFields"), (0, u "[Ljava/io/ObjectStreamField;"), (0, .class_ 1104), (0, u "java/lang/String$CaseInsensitiveComparator"), (1, .class_ 1107), (0, u "java/io/Serializable"), (0, .class_ 1109), (0, u "java/lang/Comparable"), (0, .class_ 1111), (0, u "java/lang/constant/Constable"), (0, .class_ 1113), (0, u "java/lang/constant/ConstantDesc"), (2, u "serialVersionUID"), (0, u "J"), (3, u "REPL"), (0, u "C"), (2, u "LATIN1"), (1, u "UTF16"), (129, u "(Ljava/lang/String;)Z")] 193

def k7m0 : Method := { name := "<init>", desc := "()V", sig := { parameters := [], returnType := none }, accessFlags := 1, code := none }
def k7c1 : Code := { maxStack := 5, maxLocals := 2, code := jdk_42_method_3_code, exceptionTable := #[], attributes := #[] }
def k7m1 : Method := { name := "<init>", desc := "([C)V", sig := { parameters := [(.array .char)], returnType := none }, accessFlags := 1, code := some k7c1 }
def k7c2 : Code := { maxStack := 2, maxLocals := 1, code := jdk_42_method_54_code, exceptionTable := #[], attributes := #[] }
def k7m2 : Method := { name := "length", desc := "()I", sig := { parameters := [], returnType := some .int }, accessFlags := 1, code := some k7c2 }
def k7c3 : Code := { maxStack := 1, maxLocals := 1, code := jdk_42_method_55_code, exceptionTable := #[], attributes := #[] }
def k7m3 : Method := { name := "isEmpty", desc := "()Z", sig := { parameters := [], returnType := some .boolean }, accessFlags := 1, code := some k7c3 }
def k7c4 : Code := { maxStack := 5, maxLocals := 8, code := jdk_42_method_75_code, exceptionTable := #[], attributes := #[] }
def k7m4 : Method := { name := "startsWith", desc := "(Ljava/lang/String;I)Z", sig := { parameters := [(.object "java/lang/String"), .int], returnType := some .boolean }, accessFlags := 1, code := some k7c4 }
def k7c5 : Code := { maxStack := 3, maxLocals := 2, code := jdk_42_method_76_code, exceptionTable := #[], attributes := #[] }
def k7m5 : Method := { name := "startsWith", desc := "(Ljava/lang/String;)Z", sig := { parameters := [(.object "java/lang/String")], returnType := some .boolean }, accessFlags := 1, code := some k7c5 }
def k7c6 : Code := { maxStack := 4, maxLocals := 6, code := jdk_42_method_149_code, exceptionTable := #[], attributes := #[] }
def k7m6 : Method := { name := "<init>", desc := "([CIILjava/lang/Void;)V", sig := { parameters := [(.array .char), .int, .int, (.object "java/lang/Void")], returnType := none }, accessFlags := 2, code := some k7c6 }
def k7c7 : Code := { maxStack := 1, maxLocals := 1, code := jdk_42_method_152_code, exceptionTable := #[], attributes := #[] }
def k7m7 : Method := { name := "coder", desc := "()B", sig := { parameters := [], returnType := some .byte }, accessFlags := 0, code := some k7c7 }
/-- java/lang/String -/
def k7 : Class := { plain "java/lang/String" (some 0) with
  accessFlags := 49
  interfaces := #[2, 3, 4, 5, 6]
  cf := some (fileOf pool7 10 #[.nestMembers #[1103]] #[{ accessFlags := 1, nameIndex := 5, descriptorIndex := 6, attributes := #[] }, { accessFlags := 1, nameIndex := 5, descriptorIndex := 1010, attributes := #[] }, { accessFlags := 1, nameIndex := 507, descriptorIndex := 334, attributes := #[] }, { accessFlags := 1, nameIndex := 692, descriptorIndex := 142, attributes := #[] }, { accessFlags := 1, nameIndex := 626, descriptorIndex := 627, attributes := #[] }, { accessFlags := 1, nameIndex := 626, descriptorIndex := 1257, attributes := #[] }, { accessFlags := 2, nameIndex := 5, descriptorIndex := 29, attributes := #[] }, { accessFlags := 0, nameIndex := 17, descriptorIndex := 337, attributes := #[] }] 49 2 #[1106, 1108, 575, 1110, 1112] #[{ accessFlags := 18, nameIndex := 13, descriptorIndex := 14, attributes := #[] }, { accessFlags := 18, nameIndex := 17, descriptorIndex := 18, attributes := #[] }, { accessFlags := 2, nameIndex := 21, descriptorIndex := 22, attributes := #[] }, { accessFlags := 2, nameIndex := 25, descriptorIndex := 26, attributes := #[] }, { accessFlags := 26, nameIndex := 1116, descriptorIndex := 1117, attributes := #[] }, { accessFlags := 24, nameIndex := 40, descriptorIndex := 26, attributes := #[] }, { accessFlags := 26, nameIndex := 1101, descriptorIndex := 1102, attributes := #[] }, { accessFlags := 26, nameIndex := 1121, descriptorIndex := 1122, attributes := #[] }, { accessFlags := 25, nameIndex := 599, descriptorIndex := 600, attributes := #[] }, { accessFlags := 24, nameIndex := 1125, descriptorIndex := 18, attributes := #[] }, { accessFlags := 24, nameIndex := 1127, descriptorIndex := 18, attributes := #[] }])
  fields := #[{ name := "value", type := (.array .byte), accessFlags := 18, slot := 0, constantValue := 0 }, { name := "coder", type := .byte, accessFlags := 18, slot := 1, constantValue := 0 }, { name := "hash", type := .int, accessFlags := 2, slot := 2, constantValue := 0 }, { name := "hashIsZero", type := .boolean, accessFlags := 2, slot := 3, constantValue := 0 }, { name := "serialVersionUID", type := .long, accessFlags := 26, slot := 0, constantValue := 0 }, { name := "COMPACT_STRINGS", type := .boolean, accessFlags := 24, slot := 1, constantValue := 0 }, { name := "serialPersistentFields", type := (.array (.object "java/io/ObjectStreamField")), accessFlags := 26, slot := 2, constantValue := 0 }, { name := "REPL", type := .char, accessFlags := 26, slot := 3, constantValue := 0 }, { name := "CASE_INSENSITIVE_ORDER", type := (.object "java/util/Comparator"), accessFlags := 25, slot := 4, constantValue := 0 }, { name := "LATIN1", type := .byte, accessFlags := 24, slot := 5, constantValue := 0 }, { name := "UTF16", type := .byte, accessFlags := 24, slot := 6, constantValue := 0 }]
  methods := #[k7m0, k7m1, k7m2, k7m3, k7m4, k7m5, k7m6, k7m7]
  instanceTypes := #[(.array .byte), .byte, .int, .boolean]
  staticTypes := #[.long, .boolean, (.array (.object "java/io/ObjectStreamField")), .char, (.object "java/util/Comparator"), .byte, .byte]
  resolved := Array.replicate 1451 none
  statics := some 0 }

def pool8 : Array CpInfo := pool [(6, .class_ 8), (1, u "java/lang/Object"), (0, u "<init>"), (0, u "()V"), (1, .class_ 14), (1, u "java/lang/StringUTF16"), (31, u "$assertionsDisabled"), (0, u "Z"), (13, u "HI_BYTE_SHIFT"), (0, u "I"), (2, u "LO_BYTE_SHIFT"), (49, .methodref 12 116), (0, .nameAndType 117 118), (0, u "compress"), (0, u "([CI[BII)I"), (3, u "([CII)[B"), (138, u "coderFromArrayLen"), (0, u "([BI)B"), (106, .class_ 371), (1, u "java/lang/StringUTF16$LinesSpliterator"), (58, u "MAX_LENGTH"), (196, .class_ 628), (0, u "java/lang/StringUTF16$CodePointsSpliterator"), (0, .class_ 630), (0, u "java/lang/StringUTF16$CharsSpliterator")] 4

def k8m0 : Method := { name := "<init>", desc := "()V", sig := { parameters := [], returnType := none }, accessFlags := 0, code := none }
def k8c1 : Code := { maxStack := 2, maxLocals := 2, code := jdk_52_method_15_code, exceptionTable := #[], attributes := #[] }
def k8m1 : Method := { name := "coderFromArrayLen", desc := "([BI)B", sig := { parameters := [(.array .byte), .int], returnType := some .byte }, accessFlags := 8, code := some k8c1 }
def k8c2 : Code := { maxStack := 5, maxLocals := 6, code := jdk_52_method_16_code, exceptionTable := #[], attributes := #[] }
def k8m2 : Method := { name := "compress", desc := "([CII)[B", sig := { parameters := [(.array .char), .int, .int], returnType := some (.array .byte) }, accessFlags := 9, code := some k8c2 }
def k8c3 : Code := { maxStack := 3, maxLocals := 7, code := jdk_52_method_21_code, exceptionTable := #[], attributes := #[] }
def k8m3 : Method := { name := "compress", desc := "([CI[BII)I", sig := { parameters := [(.array .char), .int, (.array .byte), .int, .int], returnType := some .int }, accessFlags := 9, code := some k8c3 }
/-- java/lang/StringUTF16 -/
def k8 : Class := { plain "java/lang/StringUTF16" (some 0) with
  accessFlags := 48
  interfaces := #[]
  cf := some (fileOf pool8 12 #[.nestMembers #[627, 629, 369]] #[{ accessFlags := 0, nameIndex := 9, descriptorIndex := 10, attributes := #[] }, { accessFlags := 8, nameIndex := 261, descriptorIndex := 262, attributes := #[] }, { accessFlags := 9, nameIndex := 117, descriptorIndex := 122, attributes := #[] }, { accessFlags := 9, nameIndex := 117, descriptorIndex := 118, attributes := #[] }] 48 6 #[] #[{ accessFlags := 26, nameIndex := 61, descriptorIndex := 62, attributes := #[] }, { accessFlags := 26, nameIndex := 65, descriptorIndex := 62, attributes := #[] }, { accessFlags := 24, nameIndex := 430, descriptorIndex := 62, attributes := #[] }, { accessFlags := 4120, nameIndex := 46, descriptorIndex := 47, attributes := #[] }])
  fields := #[{ name := "HI_BYTE_SHIFT", type := .int, accessFlags := 26, slot := 0, constantValue := 0 }, { name := "LO_BYTE_SHIFT", type := .int, accessFlags := 26, slot := 1, constantValue := 0 }, { name := "MAX_LENGTH", type := .int, accessFlags := 24, slot := 2, constantValue := 0 }, { name := "$assertionsDisabled", type := .boolean, accessFlags := 4120, slot := 3, constantValue := 0 }]
  methods := #[k8m0, k8m1, k8m2, k8m3]
  instanceTypes := #[]
  staticTypes := #[.int, .int, .int, .boolean]
  resolved := Array.replicate 635 none
  statics := none }

def pool9 : Array CpInfo := pool [(1, .class_ 2), (0, u "java/lang/Math"), (1, .class_ 6), (1, u "java/lang/Object"), (0, u "<init>"), (0, u "()V"), (89, .class_ 100), (1, u "java/lang/Math$RandomNumberGeneratorHolder"), (20, u "(JJ)J"), (50, u "negativeZeroFloatBits"), (0, u "J"), (2, u "negativeZeroDoubleBits"), (24, u "min"), (43, u "$assertionsDisabled"), (0, u "Z"), (91, u "twoToTheDoubleScaleDown"), (0, u "D"), (4, u "twoToTheDoubleScaleUp"), (9, u "E"), (3, u "PI"), (2, u "TAU"), (2, u "DEGREES_TO_RADIANS"), (0, u "RADIANS_TO_DEGREES")] 94

def k9m0 : Method := { name := "<init>", desc := "()V", sig := { parameters := [], returnType := none }, accessFlags := 2, code := none }
def k9c1 : Code := { maxStack := 4, maxLocals := 4, code := jdk_29_method_70_code, exceptionTable := #[], attributes := #[] }
def k9m1 : Method := { name := "min", desc := "(JJ)J", sig := { parameters := [.long, .long], returnType := some .long }, accessFlags := 9, code := some k9c1 }
/-- java/lang/Math -/
def k9 : Class := { plain "java/lang/Math" (some 0) with
  accessFlags := 49
  interfaces := #[]
  cf := some (fileOf pool9 1 #[.nestMembers #[98]] #[{ accessFlags := 2, nameIndex := 7, descriptorIndex := 8, attributes := #[] }, { accessFlags := 9, nameIndex := 201, descriptorIndex := 121, attributes := #[] }] 49 4 #[] #[{ accessFlags := 25, nameIndex := 354, descriptorIndex := 339, attributes := #[] }, { accessFlags := 25, nameIndex := 358, descriptorIndex := 339, attributes := #[] }, { accessFlags := 25, nameIndex := 361, descriptorIndex := 339, attributes := #[] }, { accessFlags := 26, nameIndex := 364, descriptorIndex := 339, attributes := #[] }, { accessFlags := 26, nameIndex := 365, descriptorIndex := 339, attributes := #[] }, { accessFlags := 26, nameIndex := 172, descriptorIndex := 173, attributes := #[] }, { accessFlags := 26, nameIndex := 176, descriptorIndex := 173, attributes := #[] }, { accessFlags := 8, nameIndex := 344, descriptorIndex := 339, attributes := #[] }, { accessFlags := 8, nameIndex := 338, descriptorIndex := 339, attributes := #[] }, { accessFlags := 4120, nameIndex := 245, descriptorIndex := 246, attributes := #[] }])
  fields := #[{ name := "E", type := .double, accessFlags := 25, slot := 0, constantValue := 0 }, { name := "PI", type := .double, accessFlags := 25, slot := 1, constantValue := 0 }, { name := "TAU", type := .double, accessFlags := 25, slot := 2, constantValue := 0 }, { name := "DEGREES_TO_RADIANS", type := .double, accessFlags := 26, slot := 3, constantValue := 0 }, { name := "RADIANS_TO_DEGREES", type := .double, accessFlags := 26, slot := 4, constantValue := 0 }, { name := "negativeZeroFloatBits", type := .long, accessFlags := 26, slot := 5, constantValue := 0 }, { name := "negativeZeroDoubleBits", type := .long, accessFlags := 26, slot := 6, constantValue := 0 }, { name := "twoToTheDoubleScaleUp", type := .double, accessFlags := 8, slot := 7, constantValue := 0 }, { name := "twoToTheDoubleScaleDown", type := .double, accessFlags := 8, slot := 8, constantValue := 0 }, { name := "$assertionsDisabled", type := .boolean, accessFlags := 4120, slot := 9, constantValue := 0 }]
  methods := #[k9m0, k9m1]
  instanceTypes := #[]
  staticTypes := #[.double, .double, .double, .double, .double, .long, .long, .double, .double, .boolean]
  resolved := Array.replicate 460 none
  statics := none }

def pool10 : Array CpInfo := pool [(1, .methodref 2 3), (0, .class_ 4), (0, .nameAndType 5 6), (0, u "com/example/coverfold/coverfold/Usage"), (0, u "<init>"), (0, u "(Ljava/lang/String;Ljava/lang/String;Ljava/lang/String;Ljava/lang/String;Ljava/lang/String;Ljava/lang/String;Ljava/lang/String;JJLcom/example/coverfold/coverfold/Rational;)V"), (0, .methodref 8 9), (0, .class_ 10), (0, .nameAndType 5 11), (0, u "java/lang/Object"), (0, u "()V"), (0, .methodref 13 14), (0, .class_ 15), (0, .nameAndType 16 17), (0, u "com/example/coverfold/coverfold/Zones"), (0, u "checkInRegion"), (0, u "(Ljava/lang/String;Ljava/lang/String;)V"), (0, .methodref 19 20), (0, .class_ 21), (0, .nameAndType 22 23), (0, u "com/example/coverfold/coverfold/Timestamps"), (0, u "checkInterval"), (0, u "(JJ)V"), (0, .fieldref 2 25), (0, .nameAndType 26 27), (0, u "instanceId"), (0, u "Ljava/lang/String;"), (0, .fieldref 2 29), (0, .nameAndType 30 27), (0, u "account"), (0, .fieldref 2 32), (0, .nameAndType 33 27), (0, u "region"), (0, .fieldref 2 35), (0, .nameAndType 36 27), (0, u "zone"), (0, .fieldref 2 38), (0, .nameAndType 39 27), (0, u "instanceType"), (0, .fieldref 2 41), (0, .nameAndType 42 27), (0, u "platform"), (0, .fieldref 2 44), (0, .nameAndType 45 27), (0, u "tenancy"), (0, .fieldref 2 47), (0, .nameAndType 48 49), (0, u "start"), (0, u "J"), (0, .fieldref 2 51), (0, .nameAndType 52 49), (0, u "end"), (0, .fieldref 2 54), (0, .nameAndType 55 56), (0, u "partSeconds"), (0, u "Lcom/example/coverfold/coverfold/Rational;"), (81, u "(Ljava/lang/String;Ljava/lang/String;Ljava/lang/String;Ljava/lang/String;Ljava/lang/String;Ljava/lang/String;Ljava/lang/String;JJ)V"), (15, u "(Lcom/example/coverfold/coverfold/Usage;)Z"), (0, u "sharesTextsOfKind")] 29

def k10c0 : Code := { maxStack := 13, maxLocals := 12, code := prog_99_method_1_code, exceptionTable := #[], attributes := #[] }
def k10m0 : Method := { name := "<init>", desc := "(Ljava/lang/String;Ljava/lang/String;Ljava/lang/String;Ljava/lang/String;Ljava/lang/String;Ljava/lang/String;Ljava/lang/String;JJ)V", sig := { parameters := [(.object "java/lang/String"), (.object "java/lang/String"), (.object "java/lang/String"), (.object "java/lang/String"), (.object "java/lang/String"), (.object "java/lang/String"), (.object "java/lang/String"), .long, .long], returnType := none }, accessFlags := 1, code := some k10c0 }
def k10c1 : Code := { maxStack := 4, maxLocals := 13, code := prog_99_method_2_code, exceptionTable := #[], attributes := #[] }
def k10m1 : Method := { name := "<init>", desc := "(Ljava/lang/String;Ljava/lang/String;Ljava/lang/String;Ljava/lang/String;Ljava/lang/String;Ljava/lang/String;Ljava/lang/String;JJLcom/example/coverfold/coverfold/Rational;)V", sig := { parameters := [(.object "java/lang/String"), (.object "java/lang/String"), (.object "java/lang/String"), (.object "java/lang/String"), (.object "java/lang/String"), (.object "java/lang/String"), (.object "java/lang/String"), .long, .long, (.object "com/example/coverfold/coverfold/Rational")], returnType := none }, accessFlags := 2, code := some k10c1 }
def k10c2 : Code := { maxStack := 2, maxLocals := 2, code := prog_99_method_14_code, exceptionTable := #[], attributes := #[] }
def k10m2 : Method := { name := "sharesTextsOfKind", desc := "(Lcom/example/coverfold/coverfold/Usage;)Z", sig := { parameters := [(.object "com/example/coverfold/coverfold/Usage")], returnType := some .boolean }, accessFlags := 0, code := some k10c2 }
/-- com/example/coverfold/coverfold/Usage -/
def k10 : Class := { plain "com/example/coverfold/coverfold/Usage" (some 0) with
  accessFlags := 33
  interfaces := #[]
  cf := some (fileOf pool10 2 #[] #[{ accessFlags := 1, nameIndex := 5, descriptorIndex := 138, attributes := #[] }, { accessFlags := 2, nameIndex := 5, descriptorIndex := 6, attributes := #[] }, { accessFlags := 0, nameIndex := 155, descriptorIndex := 154, attributes := #[] }] 33 8 #[] #[{ accessFlags := 18, nameIndex := 26, descriptorIndex := 27, attributes := #[] }, { accessFlags := 18, nameIndex := 30, descriptorIndex := 27, attributes := #[] }, { accessFlags := 18, nameIndex := 33, descriptorIndex := 27, attributes := #[] }, { accessFlags := 18, nameIndex := 36, descriptorIndex := 27, attributes := #[] }, { accessFlags := 18, nameIndex := 39, descriptorIndex := 27, attributes := #[] }, { accessFlags := 18, nameIndex := 42, descriptorIndex := 27, attributes := #[] }, { accessFlags := 18, nameIndex := 45, descriptorIndex := 27, attributes := #[] }, { accessFlags := 18, nameIndex := 48, descriptorIndex := 49, attributes := #[] }, { accessFlags := 18, nameIndex := 52, descriptorIndex := 49, attributes := #[] }, { accessFlags := 18, nameIndex := 55, descriptorIndex := 56, attributes := #[] }])
  fields := #[{ name := "instanceId", type := (.object "java/lang/String"), accessFlags := 18, slot := 0, constantValue := 0 }, { name := "account", type := (.object "java/lang/String"), accessFlags := 18, slot := 1, constantValue := 0 }, { name := "region", type := (.object "java/lang/String"), accessFlags := 18, slot := 2, constantValue := 0 }, { name := "zone", type := (.object "java/lang/String"), accessFlags := 18, slot := 3, constantValue := 0 }, { name := "instanceType", type := (.object "java/lang/String"), accessFlags := 18, slot := 4, constantValue := 0 }, { name := "platform", type := (.object "java/lang/String"), accessFlags := 18, slot := 5, constantValue := 0 }, { name := "tenancy", type := (.object "java/lang/String"), accessFlags := 18, slot := 6, constantValue := 0 }, { name := "start", type := .long, accessFlags := 18, slot := 7, constantValue := 0 }, { name := "end", type := .long, accessFlags := 18, slot := 8, constantValue := 0 }, { name := "partSeconds", type := (.object "com/example/coverfold/coverfold/Rational"), accessFlags := 18, slot := 9, constantValue := 0 }]
  methods := #[k10m0, k10m1, k10m2]
  instanceTypes := #[(.object "java/lang/String"), (.object "java/lang/String"), (.object "java/lang/String"), (.object "java/lang/String"), (.object "java/lang/String"), (.object "java/lang/String"), (.object "java/lang/String"), .long, .long, (.object "com/example/coverfold/coverfold/Rational")]
  staticTypes := #[]
  resolved := Array.replicate 185 none
  statics := none }

def pool11 : Array CpInfo := pool [(2, .class_ 4), (1, u "java/lang/Object"), (0, u "<init>"), (0, u "()V"), (0, .methodref 8 9), (0, .class_ 10), (0, .nameAndType 11 12), (0, u "java/lang/String"), (0, u "isEmpty"), (0, u "()Z"), (0, .methodref 8 14), (0, .nameAndType 15 16), (0, u "startsWith"), (0, u "(Ljava/lang/String;)Z"), (9, .class_ 27), (0, u "com/example/coverfold/coverfold/Zones"), (2, u "checkInRegion"), (0, u "(Ljava/lang/String;Ljava/lang/String;)V")] 18

def k11m0 : Method := { name := "<init>", desc := "()V", sig := { parameters := [], returnType := none }, accessFlags := 2, code := none }
def k11c1 : Code := { maxStack := 4, maxLocals := 2, code := prog_105_method_2_code, exceptionTable := #[], attributes := #[] }
def k11m1 : Method := { name := "checkInRegion", desc := "(Ljava/lang/String;Ljava/lang/String;)V", sig := { parameters := [(.object "java/lang/String"), (.object "java/lang/String")], returnType := none }, accessFlags := 8, code := some k11c1 }
/-- com/example/coverfold/coverfold/Zones -/
def k11 : Class := { plain "com/example/coverfold/coverfold/Zones" (some 0) with
  accessFlags := 32
  interfaces := #[]
  cf := some (fileOf pool11 26 #[] #[{ accessFlags := 2, nameIndex := 5, descriptorIndex := 6, attributes := #[] }, { accessFlags := 8, nameIndex := 30, descriptorIndex := 31, attributes := #[] }] 32 2 #[] #[])
  fields := #[]
  methods := #[k11m0, k11m1]
  instanceTypes := #[]
  staticTypes := #[]
  resolved := Array.replicate 50 none
  statics := none }

def pool12 : Array CpInfo := pool [(9, u "<init>"), (6, .class_ 18), (1, u "java/lang/Object"), (0, u "()V"), (1, .class_ 23), (1, u "jdk/internal/util/ArraysSupport"), (0, u "LOG2_ARRAY_LONG_INDEX_SCALE"), (0, u "I"), (2, u "U"), (0, u "Ljdk/internal/misc/Unsafe;"), (8, u "BIG_ENDIAN"), (0, u "Z"), (8, u "LOG2_BYTE_BIT_SIZE"), (4, u "LOG2_ARRAY_INT_INDEX_SCALE"), (54, u "JLA"), (0, u "Ljdk/internal/access/JavaLangAccess;"), (11, u "LOG2_ARRAY_BOOLEAN_INDEX_SCALE"), (9, u "LOG2_ARRAY_BYTE_INDEX_SCALE"), (5, u "LOG2_ARRAY_CHAR_INDEX_SCALE"), (5, u "LOG2_ARRAY_SHORT_INDEX_SCALE"), (5, u "mismatch"), (12, u "LOG2_ARRAY_FLOAT_INDEX_SCALE"), (24, u "LOG2_ARRAY_DOUBLE_INDEX_SCALE"), (89, u "T_BOOLEAN"), (2, u "T_CHAR"), (1, u "T_FLOAT"), (1, u "T_DOUBLE"), (1, u "T_BYTE"), (1, u "T_SHORT"), (1, u "T_INT"), (1, u "T_LONG"), (1, u "SOFT_MAX_ARRAY_LENGTH"), (42, u "([BI[BII)I")] 40

def k12m0 : Method := { name := "<init>", desc := "()V", sig := { parameters := [], returnType := none }, accessFlags := 2, code := none }
def k12c1 : Code := { maxStack := 8, maxLocals := 8, code := jdk_48_method_14_code, exceptionTable := #[], attributes := #[] }
def k12m1 : Method := { name := "mismatch", desc := "([BI[BII)I", sig := { parameters := [(.array .byte), .int, (.array .byte), .int, .int], returnType := some .int }, accessFlags := 9, code := some k12c1 }
/-- jdk/internal/util/ArraysSupport -/
def k12 : Class := { plain "jdk/internal/util/ArraysSupport" (some 0) with
  accessFlags := 33
  interfaces := #[]
  cf := some (fileOf pool12 21 #[] #[{ accessFlags := 2, nameIndex := 9, descriptorIndex := 19, attributes := #[] }, { accessFlags := 9, nameIndex := 149, descriptorIndex := 337, attributes := #[] }] 33 16 #[] #[{ accessFlags := 24, nameIndex := 28, descriptorIndex := 29, attributes := #[] }, { accessFlags := 26, nameIndex := 38, descriptorIndex := 39, attributes := #[] }, { accessFlags := 25, nameIndex := 121, descriptorIndex := 25, attributes := #[] }, { accessFlags := 25, nameIndex := 131, descriptorIndex := 25, attributes := #[] }, { accessFlags := 25, nameIndex := 137, descriptorIndex := 25, attributes := #[] }, { accessFlags := 25, nameIndex := 143, descriptorIndex := 25, attributes := #[] }, { accessFlags := 25, nameIndex := 53, descriptorIndex := 25, attributes := #[] }, { accessFlags := 25, nameIndex := 24, descriptorIndex := 25, attributes := #[] }, { accessFlags := 25, nameIndex := 162, descriptorIndex := 25, attributes := #[] }, { accessFlags := 25, nameIndex := 187, descriptorIndex := 25, attributes := #[] }, { accessFlags := 26, nameIndex := 48, descriptorIndex := 25, attributes := #[] }, { accessFlags := 25, nameIndex := 277, descriptorIndex := 25, attributes := #[] }, { accessFlags := 25, nameIndex := 280, descriptorIndex := 25, attributes := #[] }, { accessFlags := 25, nameIndex := 282, descriptorIndex := 25, attributes := #[] }, { accessFlags := 25, nameIndex := 284, descriptorIndex := 25, attributes := #[] }, { accessFlags := 25, nameIndex := 286, descriptorIndex := 25, attributes := #[] }, { accessFlags := 25, nameIndex := 288, descriptorIndex := 25, attributes := #[] }, { accessFlags := 25, nameIndex := 290, descriptorIndex := 25, attributes := #[] }, { accessFlags := 25, nameIndex := 292, descriptorIndex := 25, attributes := #[] }, { accessFlags := 26, nameIndex := 108, descriptorIndex := 109, attributes := #[] }, { accessFlags := 25, nameIndex := 294, descriptorIndex := 25, attributes := #[] }])
  fields := #[{ name := "U", type := (.object "jdk/internal/misc/Unsafe"), accessFlags := 24, slot := 0, constantValue := 0 }, { name := "BIG_ENDIAN", type := .boolean, accessFlags := 26, slot := 1, constantValue := 0 }, { name := "LOG2_ARRAY_BOOLEAN_INDEX_SCALE", type := .int, accessFlags := 25, slot := 2, constantValue := 0 }, { name := "LOG2_ARRAY_BYTE_INDEX_SCALE", type := .int, accessFlags := 25, slot := 3, constantValue := 0 }, { name := "LOG2_ARRAY_CHAR_INDEX_SCALE", type := .int, accessFlags := 25, slot := 4, constantValue := 0 }, { name := "LOG2_ARRAY_SHORT_INDEX_SCALE", type := .int, accessFlags := 25, slot := 5, constantValue := 0 }, { name := "LOG2_ARRAY_INT_INDEX_SCALE", type := .int, accessFlags := 25, slot := 6, constantValue := 0 }, { name := "LOG2_ARRAY_LONG_INDEX_SCALE", type := .int, accessFlags := 25, slot := 7, constantValue := 0 }, { name := "LOG2_ARRAY_FLOAT_INDEX_SCALE", type := .int, accessFlags := 25, slot := 8, constantValue := 0 }, { name := "LOG2_ARRAY_DOUBLE_INDEX_SCALE", type := .int, accessFlags := 25, slot := 9, constantValue := 0 }, { name := "LOG2_BYTE_BIT_SIZE", type := .int, accessFlags := 26, slot := 10, constantValue := 0 }, { name := "T_BOOLEAN", type := .int, accessFlags := 25, slot := 11, constantValue := 0 }, { name := "T_CHAR", type := .int, accessFlags := 25, slot := 12, constantValue := 0 }, { name := "T_FLOAT", type := .int, accessFlags := 25, slot := 13, constantValue := 0 }, { name := "T_DOUBLE", type := .int, accessFlags := 25, slot := 14, constantValue := 0 }, { name := "T_BYTE", type := .int, accessFlags := 25, slot := 15, constantValue := 0 }, { name := "T_SHORT", type := .int, accessFlags := 25, slot := 16, constantValue := 0 }, { name := "T_INT", type := .int, accessFlags := 25, slot := 17, constantValue := 0 }, { name := "T_LONG", type := .int, accessFlags := 25, slot := 18, constantValue := 0 }, { name := "JLA", type := (.object "jdk/internal/access/JavaLangAccess"), accessFlags := 26, slot := 19, constantValue := 0 }, { name := "SOFT_MAX_ARRAY_LENGTH", type := .int, accessFlags := 25, slot := 20, constantValue := 0 }]
  methods := #[k12m0, k12m1]
  instanceTypes := #[]
  staticTypes := #[(.object "jdk/internal/misc/Unsafe"), .boolean, .int, .int, .int, .int, .int, .int, .int, .int, .int, .int, .int, .int, .int, .int, .int, .int, .int, (.object "jdk/internal/access/JavaLangAccess"), .int]
  resolved := Array.replicate 378 none
  statics := none }

def pool13 : Array CpInfo := pool [(2, .class_ 4), (1, u "java/lang/Object"), (0, u "<init>"), (0, u "()V"), (1, .class_ 10), (1, u "com/example/coverfold/coverfold/Timestamps"), (0, u "ONE_LAYOUT"), (0, u "Ljava/util/List;"), (6, u "EXPORT_LAYOUTS"), (84, u "EARLIEST"), (0, u "J"), (2, u "LATEST"), (62, u "HOUR"), (0, u "Lcom/example/coverfold/coverfold/Rational;"), (27, u "DIGIT_PLACES"), (0, u "[Z"), (23, u "SECONDS_PER_HOUR"), (1, u "LAYOUT"), (0, u "Ljava/lang/String;"), (0, u "OFFSET_LAYOUT"), (0, u "DIGITS"), (2, u "MONTHS"), (0, u "I"), (1, u "HOURS_PER_DAY"), (1, u "SECONDS_PER_MINUTE"), (1, u "SECONDS_PER_DAY"), (0, u "DAYS_PER_ERA"), (0, u "MARCH_0000_TO_1970"), (10, u "checkInterval"), (0, u "(JJ)V")] 27

def k13m0 : Method := { name := "<init>", desc := "()V", sig := { parameters := [], returnType := none }, accessFlags := 2, code := none }
def k13c1 : Code := { maxStack := 5, maxLocals := 4, code := prog_97_method_14_code, exceptionTable := #[], attributes := #[] }
def k13m1 : Method := { name := "checkInterval", desc := "(JJ)V", sig := { parameters := [.long, .long], returnType := none }, accessFlags := 8, code := some k13c1 }
/-- com/example/coverfold/coverfold/Timestamps -/
def k13 : Class := { plain "com/example/coverfold/coverfold/Timestamps" (some 0) with
  accessFlags := 33
  interfaces := #[]
  cf := some (fileOf pool13 8 #[] #[{ accessFlags := 2, nameIndex := 5, descriptorIndex := 6, attributes := #[] }, { accessFlags := 8, nameIndex := 253, descriptorIndex := 254, attributes := #[] }] 33 2 #[] #[{ accessFlags := 25, nameIndex := 225, descriptorIndex := 105, attributes := #[] }, { accessFlags := 24, nameIndex := 171, descriptorIndex := 172, attributes := #[] }, { accessFlags := 26, nameIndex := 227, descriptorIndex := 228, attributes := #[] }, { accessFlags := 26, nameIndex := 229, descriptorIndex := 228, attributes := #[] }, { accessFlags := 26, nameIndex := 230, descriptorIndex := 228, attributes := #[] }, { accessFlags := 26, nameIndex := 200, descriptorIndex := 201, attributes := #[] }, { accessFlags := 26, nameIndex := 11, descriptorIndex := 12, attributes := #[] }, { accessFlags := 26, nameIndex := 19, descriptorIndex := 12, attributes := #[] }, { accessFlags := 26, nameIndex := 233, descriptorIndex := 234, attributes := #[] }, { accessFlags := 26, nameIndex := 236, descriptorIndex := 234, attributes := #[] }, { accessFlags := 26, nameIndex := 238, descriptorIndex := 234, attributes := #[] }, { accessFlags := 26, nameIndex := 240, descriptorIndex := 105, attributes := #[] }, { accessFlags := 26, nameIndex := 241, descriptorIndex := 105, attributes := #[] }, { accessFlags := 26, nameIndex := 242, descriptorIndex := 105, attributes := #[] }, { accessFlags := 26, nameIndex := 104, descriptorIndex := 105, attributes := #[] }, { accessFlags := 26, nameIndex := 108, descriptorIndex := 105, attributes := #[] }])
  fields := #[{ name := "SECONDS_PER_HOUR", type := .long, accessFlags := 25, slot := 0, constantValue := 0 }, { name := "HOUR", type := (.object "com/example/coverfold/coverfold/Rational"), accessFlags := 24, slot := 1, constantValue := 0 }, { name := "LAYOUT", type := (.object "java/lang/String"), accessFlags := 26, slot := 2, constantValue := 0 }, { name := "OFFSET_LAYOUT", type := (.object "java/lang/String"), accessFlags := 26, slot := 3, constantValue := 0 }, { name := "DIGITS", type := (.object "java/lang/String"), accessFlags := 26, slot := 4, constantValue := 0 }, { name := "DIGIT_PLACES", type := (.array .boolean), accessFlags := 26, slot := 5, constantValue := 0 }, { name := "ONE_LAYOUT", type := (.object "java/util/List"), accessFlags := 26, slot := 6, constantValue := 0 }, { name := "EXPORT_LAYOUTS", type := (.object "java/util/List"), accessFlags := 26, slot := 7, constantValue := 0 }, { name := "MONTHS", type := .int, accessFlags := 26, slot := 8, constantValue := 0 }, { name := "HOURS_PER_DAY", type := .int, accessFlags := 26, slot := 9, constantValue := 0 }, { name := "SECONDS_PER_MINUTE", type := .int, accessFlags := 26, slot := 10, constantValue := 0 }, { name := "SECONDS_PER_DAY", type := .long, accessFlags := 26, slot := 11, constantValue := 0 }, { name := "DAYS_PER_ERA", type := .long, accessFlags := 26, slot := 12, constantValue := 0 }, { name := "MARCH_0000_TO_1970", type := .long, accessFlags := 26, slot := 13, constantValue := 0 }, { name := "EARLIEST", type := .long, accessFlags := 26, slot := 14, constantValue := 0 }, { name := "LATEST", type := .long, accessFlags := 26, slot := 15, constantValue := 0 }]
  methods := #[k13m0, k13m1]
  instanceTypes := #[]
  staticTypes := #[.long, (.object "com/example/coverfold/coverfold/Rational"), (.object "java/lang/String"), (.object "java/lang/String"), (.object "java/lang/String"), (.array .boolean), (.object "java/util/List"), (.object "java/util/List"), .int, .int, .int, .long, .long, .long, .long, .long]
  resolved := Array.replicate 282 none
  statics := none }

def pool14 : Array CpInfo := pool [(4, .class_ 6), (1, u "java/lang/Object"), (0, u "<init>"), (0, u "()V"), (5, .class_ 16), (1, u "java/lang/StringLatin1"), (104, u "$assertionsDisabled"), (0, u "Z"), (98, .class_ 223), (1, u "java/lang/StringLatin1$LinesSpliterator"), (166, .class_ 391), (0, u "java/lang/StringLatin1$CharsSpliterator")] 3

def k14m0 : Method := { name := "<init>", desc := "()V", sig := { parameters := [], returnType := none }, accessFlags := 0, code := none }
/-- java/lang/StringLatin1 -/
def k14 : Class := { plain "java/lang/StringLatin1" (some 0) with
  accessFlags := 48
  interfaces := #[]
  cf := some (fileOf pool14 14 #[.nestMembers #[390, 221]] #[{ accessFlags := 0, nameIndex := 7, descriptorIndex := 8, attributes := #[] }] 48 4 #[] #[{ accessFlags := 4120, nameIndex := 121, descriptorIndex := 122, attributes := #[] }])
  fields := #[{ name := "$assertionsDisabled", type := .boolean, accessFlags := 4120, slot := 0, constantValue := 0 }]
  methods := #[k14m0]
  instanceTypes := #[]
  staticTypes := #[.boolean]
  resolved := Array.replicate 395 none
  statics := none }

def pool15 : Array CpInfo := pool [(2, .class_ 4), (1, u "java/lang/Object"), (0, u "<init>"), (0, u "()V"), (17, .class_ 26), (1, u "jdk/internal/util/Preconditions"), (28, .class_ 56), (0, u "jdk/internal/util/Preconditions$4"), (57, .class_ 115), (0, u "jdk/internal/util/Preconditions$1"), (7, u "SIOOBE_FORMATTER"), (0, u "Ljava/util/function/BiFunction;"), (0, .class_ 126), (0, u "jdk/internal/util/Preconditions$2"), (3, u "AIOOBE_FORMATTER"), (0, .class_ 132), (0, u "jdk/internal/util/Preconditions$3"), (3, u "IOOBE_FORMATTER")] 57

def k15m0 : Method := { name := "<init>", desc := "()V", sig := { parameters := [], returnType := none }, accessFlags := 1, code := none }
/-- jdk/internal/util/Preconditions -/
def k15 : Class := { plain "jdk/internal/util/Preconditions" (some 0) with
  accessFlags := 33
  interfaces := #[]
  cf := some (fileOf pool15 24 #[.nestMembers #[55, 131, 125, 114]] #[{ accessFlags := 1, nameIndex := 5, descriptorIndex := 6, attributes := #[] }] 33 2 #[] #[{ accessFlags := 25, nameIndex := 123, descriptorIndex := 124, attributes := #[] }, { accessFlags := 25, nameIndex := 130, descriptorIndex := 124, attributes := #[] }, { accessFlags := 25, nameIndex := 136, descriptorIndex := 124, attributes := #[] }])
  fields := #[{ name := "SIOOBE_FORMATTER", type := (.object "java/util/function/BiFunction"), accessFlags := 25, slot := 0, constantValue := 0 }, { name := "AIOOBE_FORMATTER", type := (.object "java/util/function/BiFunction"), accessFlags := 25, slot := 1, constantValue := 0 }, { name := "IOOBE_FORMATTER", type := (.object "java/util/function/BiFunction"), accessFlags := 25, slot := 2, constantValue := 0 }]
  methods := #[k15m0]
  instanceTypes := #[]
  staticTypes := #[(.object "java/util/function/BiFunction"), (.object "java/util/function/BiFunction"), (.object "java/util/function/BiFunction")]
  resolved := Array.replicate 194 none
  statics := some 1 }

def pool16 : Array CpInfo := pool [(1, u "java/lang/Cloneable"), (0, .class_ 1), (0, u "java/lang/Object"), (0, .class_ 3)] 3

/-- java/lang/Cloneable -/
def k16 : Class := { plain "java/lang/Cloneable" (some 0) with
  accessFlags := 1537
  interfaces := #[]
  cf := some (fileOf pool16 2 #[] #[] 1537 4 #[] #[])
  fields := #[]
  methods := #[]
  instanceTypes := #[]
  staticTypes := #[]
  resolved := Array.replicate 8 none
  statics := none }

/-- the primitive byte -/
def k17 : Class := { plain "byte" none with kind := .primitive 'B', accessFlags := 0x411 }
/-- [B -/
def k18 : Class := { plain "[B" (some 0) with kind := .array 17 .byte, interfaces := #[16, 2], accessFlags := 1041 }

/-- the primitive char -/
def k19 : Class := { plain "char" none with kind := .primitive 'C', accessFlags := 0x411 }
/-- [C -/
def k20 : Class := { plain "[C" (some 0) with kind := .array 19 .char, interfaces := #[16, 2], accessFlags := 1041 }

/-- the primitive int -/
def k21 : Class := { plain "int" none with kind := .primitive 'I', accessFlags := 0x411 }
/-- [I -/
def k22 : Class := { plain "[I" (some 0) with kind := .array 21 .int, interfaces := #[16, 2], accessFlags := 1041 }

def heap : Heap := #[{ cls := 7, slots := #[.long 0, .int 1, .null, .int 0, .null, .int 0, .int 0], vm := .statics 7 },
  { cls := 15, slots := #[.null, .null, .null], vm := .statics 15 }]
def classes : Array Class := #[k0, k1, k2, k3, k4, k5, k6, k7, k8, k9, k10, k11, k12, k13, k14, k15, k16, k17, k18, k19, k20, k21, k22]
def interned : List (Array UInt16 × Addr) := []
def slotsUsed : Nat := 10
def theMethod : MethodId := ⟨1, 3⟩
def args0 : Array Value := #[.int 1, .int 1, .long 1, .long 1]
def aboutOver (below : List Frame) : State where
  vm := { classes := classes, interned := interned.toArray }
  heap := heap
  slotsUsed := slotsUsed
  threads := #[{ frames := .invoking theMethod args0 :: below }]
def below0 : List Frame := [.native { method := ⟨0, 0⟩, args := #[] }]
def about1 : State := aboutOver below0
def p0 : Program := .bare "" "" ""
def e0 : Env := launch0.env 0 0 0
theorem w_frames : about1.frames = Frame.invoking theMethod args0 :: below0 := rfl
set_option maxRecDepth 65536 in
theorem w_args : argsFit about1.vm theMethod args0 = true := by decide +kernel
set_option maxRecDepth 65536 in
theorem w_heap : heapFits about1 = true := by decide +kernel
set_option maxRecDepth 65536 in
theorem w_runnable : about1.curStatus? = some .runnable := by decide +kernel
set_option maxRecDepth 65536 in
theorem w_alone : about1.alone = true := by decide +kernel
set_option maxRecDepth 65536 in
theorem w_named : about1.methodNamed? x = some theMethod := by decide +kernel
set_option maxRecDepth 65536 in
theorem w_hears : about1.hears theMethod below0 = true := by decide +kernel
set_option maxRecDepth 65536 in
theorem w_ripe : about1.ripe theMethod args0 below0 = true := by decide +kernel
theorem w_running : about1.status = .running := rfl
set_option maxRecDepth 65536 in
theorem w_room : about1.hasRoom e0.platform room_1 = true :=
  launch0.hasRoom_least _ room_1 (by decide +kernel) (by decide +kernel) (by decide +kernel) (by decide +kernel) (by decide +kernel) (by decide +kernel)
theorem allAtoms_all (ts : List Jvm.Cond) (a : Array Jvm.Value) (st : Jvm.State) : (allAtoms ts).before a st = ts.all (fun c => c.before a st) := by
  induction ts with
  | nil => rfl
  | cons c t ih =>
    show (Jvm.Cond.and c (allAtoms t)).before a st = _
    rw [Jvm.Cond.before_and, ih, List.all_cons]
def words1 : List Jvm.Cond := Jvm.Cond.code x code maxLocals ret :: tables_1
/-- a 'code' word, met by the world's own term for the bytes: nothing is compared byte by byte -/
theorem code_word {y : MethodName} {bytes : ByteArray} {mx : Nat} {rt : Option FieldType} {a : Array Value} {s : State} {m : MethodId} {meth : Method} {c : Code} (h1 : s.methodNamed? y = some m) (h2 : s.vm.method? m = some meth) (h3 : meth.code = some c) (h4 : c.code = bytes)
    (h5 : (c.maxLocals == mx && c.exceptionTable.isEmpty && decide (c.maxStack ≤ mostOperands) && decide (meth.sig.returnType = rt) && !meth.locks && decide (parseMethodDescriptor y.desc = some meth.sig)) = true) : (Jvm.Cond.code y bytes mx rt).before a s = true := by
  simp only [Bool.and_eq_true, beq_iff_eq, Bool.not_eq_true', decide_eq_true_eq] at h5
  obtain ⟨⟨⟨⟨⟨g1, g2⟩, g3⟩, g4⟩, g5⟩, g6⟩ := h5
  simp [Cond.before, Cond.holds, Cond.value, h1, h2, h3, h4, g1, g2, g3, g4, g5, g6]
def isCode : Jvm.Cond → Bool
  | .code _ _ _ _ => true
  | _ => false
theorem all_split {L : List Jvm.Cond} {P : Jvm.Cond → Bool} (h1 : L.all (fun c => isCode c || P c) = true) (h2 : ∀ c ∈ L.filter isCode, P c = true) : L.all P = true := by
  refine List.all_eq_true.mpr fun c hc => ?_
  have h := List.all_eq_true.mp h1 c hc
  rcases Bool.eq_false_or_eq_true (isCode c) with hi | hi
  · exact h2 c (List.mem_filter.mpr ⟨hc, hi⟩)
  · simpa [hi] using h
set_option maxRecDepth 65536 in
theorem w_c0 : (Jvm.Cond.code x code maxLocals ret).before args0 about1 = true := code_word (m := ⟨1, 3⟩) (meth := k1m3) (c := k1c3) (by decide +kernel) rfl rfl rfl (by decide +kernel)
set_option maxRecDepth 65536 in
theorem w_c1 : (Jvm.Cond.code ({ cls := "com/example/coverfold/coverfold/UsageSharesTextsOfKindPinLaw", name := "text", desc := "(I)Ljava/lang/String;" } : Jvm.MethodName) method_2_code (2 : Nat) (Option.some (Jvm.ClassFile.FieldType.object "java/lang/String"))).before args0 about1 = true := code_word (m := ⟨1, 1⟩) (meth := k1m1) (c := k1c1) (by decide +kernel) rfl rfl rfl (by decide +kernel)
set_option maxRecDepth 65536 in
theorem w_c2 : (Jvm.Cond.code ({ cls := "java/lang/String", name := "<init>", desc := "([C)V" } : Jvm.MethodName) jdk_42_method_3_code (2 : Nat) (Option.none : Option Jvm.ClassFile.FieldType)).before args0 about1 = true := code_word (m := ⟨7, 1⟩) (meth := k7m1) (c := k7c1) (by decide +kernel) rfl rfl rfl (by decide +kernel)
set_option maxRecDepth 65536 in
theorem w_c3 : (Jvm.Cond.code ({ cls := "java/lang/String", name := "<init>", desc := "([CIILjava/lang/Void;)V" } : Jvm.MethodName) jdk_42_method_149_code (6 : Nat) (Option.none : Option Jvm.ClassFile.FieldType)).before args0 about1 = true := code_word (m := ⟨7, 6⟩) (meth := k7m6) (c := k7c6) (by decide +kernel) rfl rfl rfl (by decide +kernel)
set_option maxRecDepth 65536 in
theorem w_c4 : (Jvm.Cond.code ({ cls := "java/lang/Object", name := "<init>", desc := "()V" } : Jvm.MethodName) object_method_1_code (1 : Nat) (Option.none : Option Jvm.ClassFile.FieldType)).before args0 about1 = true := code_word (m := ⟨0, 0⟩) (meth := k0m0) (c := k0c0) (by decide +kernel) rfl rfl rfl (by decide +kernel)
set_option maxRecDepth 65536 in
theorem w_c5 : (Jvm.Cond.code ({ cls := "java/lang/StringUTF16", name := "compress", desc := "([CII)[B" } : Jvm.MethodName) jdk_52_method_16_code (6 : Nat) (Option.some (Jvm.ClassFile.FieldType.array Jvm.ClassFile.FieldType.byte))).before args0 about1 = true := code_word (m := ⟨8, 2⟩) (meth := k8m2) (c := k8c2) (by decide +kernel) rfl rfl rfl (by decide +kernel)
set_option maxRecDepth 65536 in
theorem w_c6 : (Jvm.Cond.code ({ cls := "java/lang/StringUTF16", name := "compress", desc := "([CI[BII)I" } : Jvm.MethodName) jdk_52_method_21_code (7 : Nat) (Option.some Jvm.ClassFile.FieldType.int)).before args0 about1 = true := code_word (m := ⟨8, 3⟩) (meth := k8m3) (c := k8c3) (by decide +kernel) rfl rfl rfl (by decide +kernel)
set_option maxRecDepth 65536 in
theorem w_c7 : (Jvm.Cond.code ({ cls := "java/lang/StringUTF16", name := "coderFromArrayLen", desc := "([BI)B" } : Jvm.MethodName) jdk_52_method_15_code (2 : Nat) (Option.some Jvm.ClassFile.FieldType.byte)).before args0 about1 = true := code_word (m := ⟨8, 1⟩) (meth := k8m1) (c := k8c1) (by decide +kernel) rfl rfl rfl (by decide +kernel)
set_option maxRecDepth 65536 in
theorem w_c8 : (Jvm.Cond.code ({ cls := "com/example/coverfold/coverfold/UsageSharesTextsOfKindPinLaw", name := "zoneText", desc := "(ZI)Ljava/lang/String;" } : Jvm.MethodName) method_3_code (2 : Nat) (Option.some (Jvm.ClassFile.FieldType.object "java/lang/String"))).before args0 about1 = true := code_word (m := ⟨1, 2⟩) (meth := k1m2) (c := k1c2) (by decide +kernel) rfl rfl rfl (by decide +kernel)
set_option maxRecDepth 65536 in
theorem w_c9 : (Jvm.Cond.code ({ cls := "java/lang/Math", name := "min", desc := "(JJ)J" } : Jvm.MethodName) jdk_29_method_70_code (4 : Nat) (Option.some Jvm.ClassFile.FieldType.long)).before args0 about1 = true := code_word (m := ⟨9, 1⟩) (meth := k9m1) (c := k9c1) (by decide +kernel) rfl rfl rfl (by decide +kernel)
set_option maxRecDepth 65536 in
theorem w_c10 : (Jvm.Cond.code ({ cls := "com/example/coverfold/coverfold/Usage", name := "<init>", desc := "(Ljava/lang/String;Ljava/lang/String;Ljava/lang/String;Ljava/lang/String;Ljava/lang/String;Ljava/lang/String;Ljava/lang/String;JJ)V" } : Jvm.MethodName) prog_99_method_1_code (12 : Nat) (Option.none : Option Jvm.ClassFile.FieldType)).before args0 about1 = true := code_word (m := ⟨10, 0⟩) (meth := k10m0) (c := k10c0) (by decide +kernel) rfl rfl rfl (by decide +kernel)
set_option maxRecDepth 65536 in
theorem w_c11 : (Jvm.Cond.code ({ cls := "com/example/coverfold/coverfold/Usage", name := "<init>", desc := "(Ljava/lang/String;Ljava/lang/String;Ljava/lang/String;Ljava/lang/String;Ljava/lang/String;Ljava/lang/String;Ljava/lang/String;JJLcom/example/coverfold/coverfold/Rational;)V" } : Jvm.MethodName) prog_99_method_2_code (13 : Nat) (Option.none : Option Jvm.ClassFile.FieldType)).before args0 about1 = true := code_word (m := ⟨10, 1⟩) (meth := k10m1) (c := k10c1) (by decide +kernel) rfl rfl rfl (by decide +kernel)
set_option maxRecDepth 65536 in
theorem w_c12 : (Jvm.Cond.code ({ cls := "com/example/coverfold/coverfold/Zones", name := "checkInRegion", desc := "(Ljava/lang/String;Ljava/lang/String;)V" } : Jvm.MethodName) prog_105_method_2_code (2 : Nat) (Option.none : Option Jvm.ClassFile.FieldType)).before args0 about1 = true := code_word (m := ⟨11, 1⟩) (meth := k11m1) (c := k11c1) (by decide +kernel) rfl rfl rfl (by decide +kernel)
set_option maxRecDepth 65536 in
theorem w_c13 : (Jvm.Cond.code ({ cls := "java/lang/String", name := "isEmpty", desc := "()Z" } : Jvm.MethodName) jdk_42_method_55_code (1 : Nat) (Option.some Jvm.ClassFile.FieldType.boolean)).before args0 about1 = true := code_word (m := ⟨7, 3⟩) (meth := k7m3) (c := k7c3) (by decide +kernel) rfl rfl rfl (by decide +kernel)
set_option maxRecDepth 65536 in
theorem w_c14 : (Jvm.Cond.code ({ cls := "java/lang/String", name := "startsWith", desc := "(Ljava/lang/String;)Z" } : Jvm.MethodName) jdk_42_method_76_code (2 : Nat) (Option.some Jvm.ClassFile.FieldType.boolean)).before args0 about1 = true := code_word (m := ⟨7, 5⟩) (meth := k7m5) (c := k7c5) (by decide +kernel) rfl rfl rfl (by decide +kernel)
set_option maxRecDepth 65536 in
theorem w_c15 : (Jvm.Cond.code ({ cls := "java/lang/String", name := "startsWith", desc := "(Ljava/lang/String;I)Z" } : Jvm.MethodName) jdk_42_method_75_code (8 : Nat) (Option.some Jvm.ClassFile.FieldType.boolean)).before args0 about1 = true := code_word (m := ⟨7, 4⟩) (meth := k7m4) (c := k7c4) (by decide +kernel) rfl rfl rfl (by decide +kernel)
set_option maxRecDepth 65536 in
theorem w_c16 : (Jvm.Cond.code ({ cls := "java/lang/String", name := "length", desc := "()I" } : Jvm.MethodName) jdk_42_method_54_code (1 : Nat) (Option.some Jvm.ClassFile.FieldType.int)).before args0 about1 = true := code_word (m := ⟨7, 2⟩) (meth := k7m2) (c := k7c2) (by decide +kernel) rfl rfl rfl (by decide +kernel)
set_option maxRecDepth 65536 in
theorem w_c17 : (Jvm.Cond.code ({ cls := "java/lang/String", name := "coder", desc := "()B" } : Jvm.MethodName) jdk_42_method_152_code (1 : Nat) (Option.some Jvm.ClassFile.FieldType.byte)).before args0 about1 = true := code_word (m := ⟨7, 7⟩) (meth := k7m7) (c := k7c7) (by decide +kernel) rfl rfl rfl (by decide +kernel)
set_option maxRecDepth 65536 in
theorem w_c18 : (Jvm.Cond.code ({ cls := "jdk/internal/util/ArraysSupport", name := "mismatch", desc := "([BI[BII)I" } : Jvm.MethodName) jdk_48_method_14_code (8 : Nat) (Option.some Jvm.ClassFile.FieldType.int)).before args0 about1 = true := code_word (m := ⟨12, 1⟩) (meth := k12m1) (c := k12c1) (by decide +kernel) rfl rfl rfl (by decide +kernel)
set_option maxRecDepth 65536 in
theorem w_c19 : (Jvm.Cond.code ({ cls := "com/example/coverfold/coverfold/Timestamps", name := "checkInterval", desc := "(JJ)V" } : Jvm.MethodName) prog_97_method_14_code (4 : Nat) (Option.none : Option Jvm.ClassFile.FieldType)).before args0 about1 = true := code_word (m := ⟨13, 1⟩) (meth := k13m1) (c := k13c1) (by decide +kernel) rfl rfl rfl (by decide +kernel)
set_option maxRecDepth 65536 in
theorem w_c20 : (Jvm.Cond.code ({ cls := "com/example/coverfold/coverfold/Usage", name := "sharesTextsOfKind", desc := "(Lcom/example/coverfold/coverfold/Usage;)Z" } : Jvm.MethodName) prog_99_method_14_code (2 : Nat) (Option.some Jvm.ClassFile.FieldType.boolean)).before args0 about1 = true := code_word (m := ⟨10, 2⟩) (meth := k10m2) (c := k10c2) (by decide +kernel) rfl rfl rfl (by decide +kernel)
def codes1 : List Jvm.Cond := [Jvm.Cond.code x code maxLocals ret, Jvm.Cond.code ({ cls := "com/example/coverfold/coverfold/UsageSharesTextsOfKindPinLaw", name := "text", desc := "(I)Ljava/lang/String;" } : Jvm.MethodName) method_2_code (2 : Nat) (Option.some (Jvm.ClassFile.FieldType.object "java/lang/String")), Jvm.Cond.code ({ cls := "java/lang/String", name := "<init>", desc := "([C)V" } : Jvm.MethodName) jdk_42_method_3_code (2 : Nat) (Option.none : Option Jvm.ClassFile.FieldType), Jvm.Cond.code ({ cls := "java/lang/String", name := "<init>", desc := "([CIILjava/lang/Void;)V" } : Jvm.MethodName) jdk_42_method_149_code (6 : Nat) (Option.none : Option Jvm.ClassFile.FieldType), Jvm.Cond.code ({ cls := "java/lang/Object", name := "<init>", desc := "()V" } : Jvm.MethodName) object_method_1_code (1 : Nat) (Option.none : Option Jvm.ClassFile.FieldType), Jvm.Cond.code ({ cls := "java/lang/StringUTF16", name := "compress", desc := "([CII)[B" } : Jvm.MethodName) jdk_52_method_16_code (6 : Nat) (Option.some (Jvm.ClassFile.FieldType.array Jvm.ClassFile.FieldType.byte)), Jvm.Cond.code ({ cls := "java/lang/StringUTF16", name := "compress", desc := "([CI[BII)I" } : Jvm.MethodName) jdk_52_method_21_code (7 : Nat) (Option.some Jvm.ClassFile.FieldType.int), Jvm.Cond.code ({ cls := "java/lang/StringUTF16", name := "coderFromArrayLen", desc := "([BI)B" } : Jvm.MethodName) jdk_52_method_15_code (2 : Nat) (Option.some Jvm.ClassFile.FieldType.byte), Jvm.Cond.code ({ cls := "com/example/coverfold/coverfold/UsageSharesTextsOfKindPinLaw", name := "zoneText", desc := "(ZI)Ljava/lang/String;" } : Jvm.MethodName) method_3_code (2 : Nat) (Option.some (Jvm.ClassFile.FieldType.object "java/lang/String")), Jvm.Cond.code ({ cls := "java/lang/Math", name := "min", desc := "(JJ)J" } : Jvm.MethodName) jdk_29_method_70_code (4 : Nat) (Option.some Jvm.ClassFile.FieldType.long), Jvm.Cond.code ({ cls := "com/example/coverfold/coverfold/Usage", name := "<init>", desc := "(Ljava/lang/String;Ljava/lang/String;Ljava/lang/String;Ljava/lang/String;Ljava/lang/String;Ljava/lang/String;Ljava/lang/String;JJ)V" } : Jvm.MethodName) prog_99_method_1_code (12 : Nat) (Option.none : Option Jvm.ClassFile.FieldType), Jvm.Cond.code ({ cls := "com/example/coverfold/coverfold/Usage", name := "<init>", desc := "(Ljava/lang/String;Ljava/lang/String;Ljava/lang/String;Ljava/lang/String;Ljava/lang/String;Ljava/lang/String;Ljava/lang/String;JJLcom/example/coverfold/coverfold/Rational;)V" } : Jvm.MethodName) prog_99_method_2_code (13 : Nat) (Option.none : Option Jvm.ClassFile.FieldType), Jvm.Cond.code ({ cls := "com/example/coverfold/coverfold/Zones", name := "checkInRegion", desc := "(Ljava/lang/String;Ljava/lang/String;)V" } : Jvm.MethodName) prog_105_method_2_code (2 : Nat) (Option.none : Option Jvm.ClassFile.FieldType), Jvm.Cond.code ({ cls := "java/lang/String", name := "isEmpty", desc := "()Z" } : Jvm.MethodName) jdk_42_method_55_code (1 : Nat) (Option.some Jvm.ClassFile.FieldType.boolean), Jvm.Cond.code ({ cls := "java/lang/String", name := "startsWith", desc := "(Ljava/lang/String;)Z" } : Jvm.MethodName) jdk_42_method_76_code (2 : Nat) (Option.some Jvm.ClassFile.FieldType.boolean), Jvm.Cond.code ({ cls := "java/lang/String", name := "startsWith", desc := "(Ljava/lang/String;I)Z" } : Jvm.MethodName) jdk_42_method_75_code (8 : Nat) (Option.some Jvm.ClassFile.FieldType.boolean), Jvm.Cond.code ({ cls := "java/lang/String", name := "length", desc := "()I" } : Jvm.MethodName) jdk_42_method_54_code (1 : Nat) (Option.some Jvm.ClassFile.FieldType.int), Jvm.Cond.code ({ cls := "java/lang/String", name := "coder", desc := "()B" } : Jvm.MethodName) jdk_42_method_152_code (1 : Nat) (Option.some Jvm.ClassFile.FieldType.byte), Jvm.Cond.code ({ cls := "jdk/internal/util/ArraysSupport", name := "mismatch", desc := "([BI[BII)I" } : Jvm.MethodName) jdk_48_method_14_code (8 : Nat) (Option.some Jvm.ClassFile.FieldType.int), Jvm.Cond.code ({ cls := "com/example/coverfold/coverfold/Timestamps", name := "checkInterval", desc := "(JJ)V" } : Jvm.MethodName) prog_97_method_14_code (4 : Nat) (Option.none : Option Jvm.ClassFile.FieldType), Jvm.Cond.code ({ cls := "com/example/coverfold/coverfold/Usage", name := "sharesTextsOfKind", desc := "(Lcom/example/coverfold/coverfold/Usage;)Z" } : Jvm.MethodName) prog_99_method_14_code (2 : Nat) (Option.some Jvm.ClassFile.FieldType.boolean)]
set_option maxRecDepth 65536 in
theorem codes_eq : words1.filter isCode = codes1 := rfl
theorem w_codes : ∀ c ∈ words1.filter isCode, c.before args0 about1 = true := by
  rw [codes_eq]
  intro c hc
  simp only [codes1, List.mem_cons, List.not_mem_nil, or_false] at hc
  rcases hc with rfl | rfl | rfl | rfl | rfl | rfl | rfl | rfl | rfl | rfl | rfl | rfl | rfl | rfl | rfl | rfl | rfl | rfl | rfl | rfl | rfl
  · exact w_c0
  · exact w_c1
  · exact w_c2
  · exact w_c3
  · exact w_c4
  · exact w_c5
  · exact w_c6
  · exact w_c7
  · exact w_c8
  · exact w_c9
  · exact w_c10
  · exact w_c11
  · exact w_c12
  · exact w_c13
  · exact w_c14
  · exact w_c15
  · exact w_c16
  · exact w_c17
  · exact w_c18
  · exact w_c19
  · exact w_c20
set_option maxRecDepth 65536 in
theorem w_t1 : (words1.take 24).all (fun c => isCode c || c.before args0 about1) = true := by decide +kernel
set_option maxRecDepth 65536 in
theorem w_t2 : ((words1.drop 24).take 24).all (fun c => isCode c || c.before args0 about1) = true := by decide +kernel
set_option maxRecDepth 65536 in
theorem w_t3 : (((words1.drop 24).drop 24).take 24).all (fun c => isCode c || c.before args0 about1) = true := by decide +kernel
set_option maxRecDepth 65536 in
theorem w_t4 : ((((words1.drop 24).drop 24).drop 24).take 24).all (fun c => isCode c || c.before args0 about1) = true := by decide +kernel
set_option maxRecDepth 65536 in
theorem w_t5 : ((((words1.drop 24).drop 24).drop 24).drop 24).all (fun c => isCode c || c.before args0 about1) = true := by decide +kernel
theorem w_tables : (allAtoms (Jvm.Cond.code x code maxLocals ret :: tables_1)).before args0 about1 = true := by
  rw [allAtoms_all]
  show words1.all (fun c => c.before args0 about1) = true
  refine all_split ?_ w_codes
  rw [← List.take_append_drop 24 words1, List.all_append, w_t1, ← List.take_append_drop 24 (words1.drop 24), List.all_append, w_t2, ← List.take_append_drop 24 ((words1.drop 24).drop 24), List.all_append, w_t3, ← List.take_append_drop 24 (((words1.drop 24).drop 24).drop 24), List.all_append, w_t4, w_t5]
  rfl
set_option maxRecDepth 65536 in
theorem w_rest : rest_1_c.before args0 about1 = true := by decide +kernel
set_option maxRecDepth 65536 in
theorem w_case : (Jvm.Cond.and given_1 narrow_1).before args0 about1 = true := by decide +kernel
set_option maxRecDepth 65536 in
theorem w_consts : constsHeld consts_1 about1 := Jvm.Lit.constsHeldB_iff.mp (by decide +kernel)
theorem w_applies : (headSpec (Jvm.Cond.code x code maxLocals ret :: tables_1) room_1).applies x e0.platform about1 = true :=
  (Spec.applies_iff w_frames).mpr ⟨w_running, w_runnable, w_alone, w_named, w_hears, w_ripe, w_room, w_tables⟩
theorem atStart : AtStart classFile x code maxLocals ret World_1 tables_1 room_1 Calls_1 rest_1 Pre_1 launch0 p0 e0 about1 theMethod args0 below0 :=
  ⟨lists_1, trivial, launch0.admits_env _ _ _, launch0.least_env, fairChoices_fair.cas, fairChoices_fair.clock, w_frames, w_args, w_heap, w_applies, ⟨w_consts, trivial⟩, w_rest, w_case⟩
end start1
theorem witness_1 : WitnessClaimed_1 := ⟨start1.p0, start1.e0, start1.about1, start1.theMethod, start1.args0, start1.below0, start1.atStart⟩
end Jvm.Pilot.@@N@@
