import JvmDerived
import JvmDerived.Pilot.@@N@@Statement
import JvmDerived.Pilot.@@N@@Code
set_option linter.unusedVariables false
set_option linter.unusedSimpArgs false
namespace Jvm.RoadKit
open Sem ClassFile Op Lib Jvm.Stand Jvm.Free Jvm.LawKit
section Own
variable {p : Program} {l : Launch} {e : Env} {R : Room} {s : State} {m : MethodId} {args : Array Value} {below : List Frame} {meth : Method} {c : Code} {T T' : State} {locs : List Loc} {cells slots : Nat} {Z : State} {a0 : Array Value} {h h' : Heap}
abbrev own_lv (x : Int64) : Slot := .val (.long x)
abbrev own_S (p : Program) (e : Env) (below : List Frame) (T : State) (m : MethodId) (pc : Nat) (L : Array Slot) (S : List Value) (t : State) : Prop := Steps p.tables e below (T.setTop (mkF m pc L S)) t
/-- in one state, from the second frame to the first -/
abbrev own_V (p : Program) (e : Env) (below : List Frame) (T : State) (f' f : JFrame) : Prop := ∀ t, Steps p.tables e below (T.setTop f') t → Steps p.tables e below (T.setTop f) t
/-- from this frame on the run comes to an end that G says -/
def own_Go (p : Program) (e : Env) (below : List Frame) (G : State → Outcome → Prop) (T : State) (f : JFrame) : Prop :=
  ∃ t o, Steps p.tables e below (T.setTop f) t ∧ G t o
theorem own_st {G : State → Outcome → Prop} {f f' : JFrame} (st : ∀ t, Steps p.tables e below (T'.setTop f') t → Steps p.tables e below (T.setTop f) t) (k : own_Go p e below G T' f') : own_Go p e below G T f := by
  obtain ⟨t, o, h1, h2⟩ := k
  exact ⟨t, o, st t h1, h2⟩
/-- from this frame on the run comes to a state and a frame that P says -/
def own_Pk (p : Program) (e : Env) (below : List Frame) (P : State → JFrame → Prop) (T : State) (f : JFrame) : Prop :=
  ∃ T' f', P T' f' ∧ ∀ t, Steps p.tables e below (T'.setTop f') t → Steps p.tables e below (T.setTop f) t
theorem own_sp {P : State → JFrame → Prop} {f f' : JFrame} (st : ∀ t, Steps p.tables e below (T'.setTop f') t → Steps p.tables e below (T.setTop f) t) (k : own_Pk p e below P T' f') : own_Pk p e below P T f := by
  obtain ⟨T2, f2, h1, h2⟩ := k
  exact ⟨T2, f2, h1, fun t q => st t (h2 t q)⟩
theorem own_pm {P P' : State → JFrame → Prop} {f : JFrame} (k : own_Pk p e below P T f) (q : ∀ T' f', P T' f' → P' T' f') : own_Pk p e below P' T f := by
  obtain ⟨T2, f2, h1, h2⟩ := k
  exact ⟨T2, f2, q _ _ h1, h2⟩
/-- it returned, Q says what, and the frame is kept -/
def own_End (s : State) (below : List Frame) (Q : Option Value → Heap → List Loc → Prop) (C S : Nat) : State → Outcome → Prop := fun t o =>
  t.status = .running ∧ Ended t below o ∧ ∃ v L, o = .returned v ∧ Q v t.heap L ∧ FrameEnd s o t L C S
theorem own_body {y : MethodName} {bytes : ByteArray} {ml : Nat} {rt : Option FieldType} {rm : Room} {as' : Array Value} {h0 : Heap} {Q : Option Value → Heap → List Loc → Prop} {C S : Nat} {ws : List Jvm.Cond} (hp : plainFor y = true)
    (H : ∀ p e s m below meth c s₁, BodyLoose p l y (head1 (Jvm.Cond.code y bytes ml rt :: ws) rm) bytes ml rt e s m as' below meth c s₁ → c.maxLocals = ml → Z.Warmed39 s.vm → s₁.heap = h0 → own_Go p e below (own_End s below Q C S) s₁ (entryFrame m as' ml)) :
    MetFree l y (head1 (Jvm.Cond.code y bytes ml rt :: ws) rm) (fun a U => a = as' ∧ Z.Warmed39 U.vm ∧ U.heap = h0) (fun _ _ _ _ _ => True) (fun _ U o U' => ∃ v L, o = .returned v ∧ Q v U'.heap L ∧ FrameEnd U o U' L C S) := by
  refine MetFree.of_bodySF hp hisR ?_
  intro p e s m args below meth c s₁ Bd hml hP hK
  obtain ⟨rfl, hZ, hh⟩ := hP
  have e0 : s₁.heap = h0 := by rw [← hh, Bd.state]; rfl
  obtain ⟨t, o, h1, h2, h3, h4⟩ := H p e s m below meth c s₁ Bd hml hZ e0
  exact ⟨t, o, h1, h2, h3, h4⟩
/-- a callee's contract -/
abbrev own_Ct (l : Launch) (Z : State) (y : MethodName) (bytes : ByteArray) (ml : Nat) (rt : Option FieldType) (rm : Room) (as' : Array Value) (h0 : Heap) (Q : Option Value → Heap → List Loc → Prop) : Prop :=
  MetFree l y (head1 [Jvm.Cond.code y bytes ml rt] rm) (fun a U => a = as' ∧ Z.Warmed39 U.vm ∧ U.heap = h0) (fun _ _ _ _ _ => True) (fun _ U o U' => ∃ v L, o = .returned v ∧ Q v U'.heap L ∧ FrameEnd U o U' L rm.cells rm.slots)
section Ret
variable {Q : Option Value → Heap → List Loc → Prop} {C S : Nat}
theorem own_out {v : Option Value} {f : JFrame} (X : Stand p l e R s m args below meth c T locs cells slots) (hv : meth.sig.returnType = none → v = none) (hlocks : meth.locks = false) (hC : cells ≤ C) (hS : slots ≤ S) (eT : T.heap = h) (hq : Q v h locs)
    (go : ∀ fs, (∀ (f : JFrame) (acts : List Action), f.method = m → f.locked = none → f.entered = [] → (doReturn e (T.setTop f) acts v).1 = T.setFrames fs) → Steps p.tables e below (T.setTop f) (T.setFrames fs)) :
    own_Go p e below (own_End s below Q C S) T f := by
  obtain ⟨fs, hr, hrun, hended, hW, hsame⟩ := X.leave (v := v) hv hlocks
  refine ⟨_, _, go fs hr, hrun, hended, _, _, rfl, ?_, ⟨_, rfl⟩, hW, hsame.mono hC hS⟩
  show Q v T.heap locs
  rw [eT]; exact hq
theorem own_retI (X : Stand p l e R s m args below meth c T locs cells slots) (hx : p.tables.exec = Jvm.exec) (hlocks : meth.locks = false) (hret : meth.sig.returnType = some .int) {pc : Nat} {Ls : Array Slot} {z : Int32} {rest : List Value} (hd : decode c.code pc = .ok (.ireturn, 1)) (hC : cells ≤ C) (hS : slots ≤ S) (eT : T.heap = h) (hq : Q (some (.int z)) h locs) :
    own_Go p e below (own_End s below Q C S) T (mkF m pc Ls (.int z :: rest)) :=
  own_out X (fun q => by rw [hret] at q; cases q) hlocks hC hS eT hq fun fs hr => retOut X hx hret rfl (Or.inl ⟨rfl, Or.inl rfl, z, rfl⟩) hd hr
theorem own_retZ (X : Stand p l e R s m args below meth c T locs cells slots) (hx : p.tables.exec = Jvm.exec) (hlocks : meth.locks = false) (hret : meth.sig.returnType = some .boolean) {pc : Nat} {Ls : Array Slot} {z : Int32} {rest : List Value} (hd : decode c.code pc = .ok (.ireturn, 1)) (hz : z = 0 ∨ z = 1) (hC : cells ≤ C) (hS : slots ≤ S) (eT : T.heap = h) (hq : Q (some (.int z)) h locs) :
    own_Go p e below (own_End s below Q C S) T (mkF m pc Ls (.int z :: rest)) :=
  own_out X (fun q => by rw [hret] at q; cases q) hlocks hC hS eT hq fun fs hr => retN X hx hret (Or.inl rfl) hd (by
    have : nar .boolean z = z := by rcases hz with rfl | rfl <;> decide
    rw [this]; exact hr)
theorem own_retB (X : Stand p l e R s m args below meth c T locs cells slots) (hx : p.tables.exec = Jvm.exec) (hlocks : meth.locks = false) (hret : meth.sig.returnType = some .byte) {pc : Nat} {Ls : Array Slot} {z : Int32} {rest : List Value} (hd : decode c.code pc = .ok (.ireturn, 1)) (hz : nar .byte z = z) (hC : cells ≤ C) (hS : slots ≤ S) (eT : T.heap = h) (hq : Q (some (.int z)) h locs) :
    own_Go p e below (own_End s below Q C S) T (mkF m pc Ls (.int z :: rest)) :=
  own_out X (fun q => by rw [hret] at q; cases q) hlocks hC hS eT hq fun fs hr => retN X hx hret (Or.inr (Or.inl rfl)) hd (by rw [hz]; exact hr)
theorem own_retJ (X : Stand p l e R s m args below meth c T locs cells slots) (hx : p.tables.exec = Jvm.exec) (hlocks : meth.locks = false) (hret : meth.sig.returnType = some .long) {pc : Nat} {Ls : Array Slot} {z : Int64} {rest : List Value} (hd : decode c.code pc = .ok (.lreturn, 1)) (hC : cells ≤ C) (hS : slots ≤ S) (eT : T.heap = h) (hq : Q (some (.long z)) h locs) :
    own_Go p e below (own_End s below Q C S) T (mkF m pc Ls (.long z :: rest)) :=
  own_out X (fun q => by rw [hret] at q; cases q) hlocks hC hS eT hq fun fs hr => retOut X hx hret rfl (Or.inr (Or.inl ⟨rfl, rfl, z, rfl⟩)) hd hr
theorem own_retR {t : FieldType} {w : Value} (X : Stand p l e R s m args below meth c T locs cells slots) (hx : p.tables.exec = Jvm.exec) (hlocks : meth.locks = false) (hret : meth.sig.returnType = some t) (ht : t.isReference = true) (hw : w.isRef = true) {pc : Nat} {Ls : Array Slot} {rest : List Value} (hd : decode c.code pc = .ok (.areturn, 1)) (hC : cells ≤ C) (hS : slots ≤ S) (eT : T.heap = h) (hq : Q (some w) h locs) :
    own_Go p e below (own_End s below Q C S) T (mkF m pc Ls (w :: rest)) :=
  own_out X (fun q => by rw [hret] at q; cases q) hlocks hC hS eT hq fun fs hr => retOut X hx hret (by cases t <;> cases w <;> first | rfl | (cases ht; done) | (cases hw; done)) (Or.inr (Or.inr (Or.inr (Or.inr ⟨rfl, ht, hw⟩)))) hd hr
theorem own_retV (X : Stand p l e R s m args below meth c T locs cells slots) (hx : p.tables.exec = Jvm.exec) (hlocks : meth.locks = false) (hret : meth.sig.returnType = none) {pc : Nat} {Ls : Array Slot} (hd : decode c.code pc = .ok (.return_, 1)) (hC : cells ≤ C) (hS : slots ≤ S) (eT : T.heap = h) (hq : Q none h locs) :
    own_Go p e below (own_End s below Q C S) T (mkF m pc Ls []) :=
  own_out X (fun _ => rfl) hlocks hC hS eT hq fun fs hr => X.returnOut hx hret hd hr
end Ret
section Call
variable {own : String} {index : Nat} {y : MethodName} {bytes : ByteArray} {ml : Nat} {rt : Option FieldType} {rm : Room} {Q : Option Value → Heap → List Loc → Prop} {g : JFrame} {argsL rest : List Value} {W : Nat}
theorem own_callS (X : Stand p l e R s m args below meth c T locs cells slots) (hx : p.tables.exec = Jvm.exec) (hZ : Z.Warmed39 s.vm) (hown : s.vm.findClass own = some m.cls)
    (w1 : (Jvm.Cond.methodLink own index y).before a0 Z = true) (w2 : (Jvm.Cond.static y).before a0 Z = true) (w3 : (Jvm.Cond.initialized y.cls).before a0 Z = true) (w4 : (Jvm.Cond.code y bytes ml rt).before a0 Z = true)
    (hy : y.cls ≠ "java/lang/invoke/MethodHandle" ∧ y.cls ≠ "java/lang/invoke/VarHandle") (ct : own_Ct l Z y bytes ml rt rm argsL.toArray h Q) (eT : T.heap = h) (hg : g.method = m) (hsize : g.locals.size = c.maxLocals)
    (hlen : ∀ sig, parseMethodDescriptor y.desc = some sig → argsL.length = sig.parameters.length) (hstack : g.stack = argsL.reverse ++ rest) (hW : 2 * g.monitorRoom + (rest.map fun v => v.category).sum ≤ W) (hdg : decode c.code g.pc = .ok (.invokestatic index, 3))
    (hf : rm.frames + 1 ≤ R.frames) (hl : W + (ml + 11) + rm.locals ≤ R.locals) (hc : cells + rm.cells ≤ R.cells) (hs : slots + rm.slots ≤ R.slots) :
    ∃ v T' L, Stand p l e R s m args below meth c T' (locs ++ L) (cells + rm.cells) (slots + rm.slots) ∧ Q v T'.heap L ∧ ∀ target, Steps p.tables e below (T'.setTop { g with pc := g.pc + 3, stack := v.toList ++ rest }) target → Steps p.tables e below (T.setTop g) target := by
  obtain ⟨v, vm1, ⟨T1, L1, k1, n1⟩, -, X1, ⟨L, hQ, h1, h2, h3⟩, st⟩ := Jvm.LawKit.callS X hx hown (mvT hZ w1) (mvT hZ w2) (mvT hZ w3) (mvT hZ w4) hy (backOf (W := W) ct hZ w4 w3 hf hl) hg hsize hlen hstack hW hdg (fun _ _ => ⟨rfl, eT, hc, hs⟩)
  dsimp only [Pt.U, Pt.locs, Pt.cells, Pt.slots] at X1 h1 h2 h3 hQ st
  subst h1 h2 h3
  exact ⟨v, T1, L, X1, hQ, st⟩
theorem own_callI {a : Addr} (X : Stand p l e R s m args below meth c T locs cells slots) (hx : p.tables.exec = Jvm.exec) (hZ : Z.Warmed39 s.vm) (hown : s.vm.findClass own = some m.cls) (hy1 : y.name = "<init>")
    (w1 : (Jvm.Cond.methodLink own index y).before a0 Z = true) (w2 : (Jvm.Cond.instanceMethod y).before a0 Z = true) (w3 : (Jvm.Cond.initialized y.cls).before a0 Z = true) (w4 : (Jvm.Cond.code y bytes ml none).before a0 Z = true)
    (hy : y.cls ≠ "java/lang/invoke/MethodHandle" ∧ y.cls ≠ "java/lang/invoke/VarHandle") (ct : own_Ct l Z y bytes ml none rm (.ref a :: argsL).toArray h Q) (eT : T.heap = h) (hg : g.method = m) (hsize : g.locals.size = c.maxLocals)
    (hlen : ∀ sig, parseMethodDescriptor y.desc = some sig → argsL.length = sig.parameters.length) (hstack : g.stack = argsL.reverse ++ .ref a :: rest) (hW : 2 * g.monitorRoom + (rest.map fun v => v.category).sum ≤ W) (hdg : decode c.code g.pc = .ok (.invokespecial index, 3))
    (hf : rm.frames + 1 ≤ R.frames) (hl : W + (ml + 11) + rm.locals ≤ R.locals) (hc : cells + rm.cells ≤ R.cells) (hs : slots + rm.slots ≤ R.slots) :
    ∃ v T' L, Stand p l e R s m args below meth c T' (locs ++ L) (cells + rm.cells) (slots + rm.slots) ∧ Q v T'.heap L ∧ ∀ target, Steps p.tables e below (T'.setTop { g with pc := g.pc + 3, stack := v.toList ++ rest }) target → Steps p.tables e below (T.setTop g) target := by
  obtain ⟨v, vm1, ⟨T1, L1, k1, n1⟩, -, X1, ⟨L, hQ, h1, h2, h3⟩, st⟩ := X.specialBack hx hy1 hown (mvT hZ w1) (mvT hZ w2) (mvT hZ w4) hy (backOf (W := W) ct hZ w4 w3 hf hl) hg hsize (Steps.refl _) hlen hstack hW hdg (fun _ _ => ⟨rfl, eT, hc, hs⟩)
  dsimp only [Pt.U, Pt.locs, Pt.cells, Pt.slots] at X1 h1 h2 h3 hQ st
  subst h1 h2 h3
  exact ⟨v, T1, L, X1, hQ, fun t k => st.trans k⟩
theorem own_callV {a : Addr} {C : String} (X : Stand p l e R s m args below meth c T locs cells slots) (hx : p.tables.exec = Jvm.exec) (hZ : Z.Warmed39 s.vm) (hown : s.vm.findClass own = some m.cls) (E : Exa Z h a C) {y0 : MethodName}
    (w1 : (Jvm.Cond.methodLink own index y0).before a0 Z = true) (w2 : (Jvm.Cond.declares y0).before a0 Z = true) (w5 : (Jvm.Cond.selects C y0 y).before a0 Z = true) (nf : NotFace s y0) (w6 : (Jvm.Cond.instanceMethod y).before a0 Z = true) (w3 : (Jvm.Cond.initialized y.cls).before a0 Z = true) (w4 : (Jvm.Cond.code y bytes ml rt).before a0 Z = true)
    (hy : y0.cls ≠ "java/lang/invoke/MethodHandle" ∧ y0.cls ≠ "java/lang/invoke/VarHandle") (ct : own_Ct l Z y bytes ml rt rm (.ref a :: argsL).toArray h Q) (eT : T.heap = h) (hg : g.method = m) (hsize : g.locals.size = c.maxLocals)
    (hlen : ∀ sig, parseMethodDescriptor y0.desc = some sig → argsL.length = sig.parameters.length) (hstack : g.stack = argsL.reverse ++ .ref a :: rest) (hW : 2 * g.monitorRoom + (rest.map fun v => v.category).sum ≤ W) (hdg : decode c.code g.pc = .ok (.invokevirtual index, 3))
    (hf : rm.frames + 1 ≤ R.frames) (hl : W + (ml + 11) + rm.locals ≤ R.locals) (hc : cells + rm.cells ≤ R.cells) (hs : slots + rm.slots ≤ R.slots) :
    ∃ v T' L, Stand p l e R s m args below meth c T' (locs ++ L) (cells + rm.cells) (slots + rm.slots) ∧ Q v T'.heap L ∧ ∀ target, Steps p.tables e below (T'.setTop { g with pc := g.pc + 3, stack := v.toList ++ rest }) target → Steps p.tables e below (T.setTop g) target := by
  obtain ⟨cq, kq, qa, qb, qc⟩ := isOf hZ eT E
  obtain ⟨v, vm1, ⟨T1, L1, k1, n1⟩, -, X1, ⟨L, hQ, h1, h2, h3⟩, st⟩ := X.virtualBack hx (y := y0) (z := y) hown (mvT hZ w1) (mvT hZ w2) nf (mvT hZ w5) (mvT hZ w6) hy (backOf (W := W) ct hZ w4 w3 hf hl) qa qc hg hsize (Steps.refl _) hlen hstack hW hdg (fun _ _ => ⟨rfl, eT, hc, hs⟩)
  dsimp only [Pt.U, Pt.locs, Pt.cells, Pt.slots] at X1 h1 h2 h3 hQ st
  subst h1 h2 h3
  exact ⟨v, T1, L, X1, hQ, fun t k => st.trans k⟩
theorem own_callP {a : Addr} {C C0 : String} {x z : MethodName} (X : Stand p l e R s m args below meth c T locs cells slots) (hx : p.tables.exec = Jvm.exec) (hZ : Z.Warmed39 s.vm) (hown : s.vm.findClass own = some m.cls) (E : Exa Z h a C0) (hz : z.cls = y.cls)
    (w1 : (Jvm.Cond.methodLink own index y).before a0 Z = true) (w2 : (Jvm.Cond.instanceMethod y).before a0 Z = true) (w5 : (Jvm.Cond.selects C x z).before a0 Z = true) (wp : (Jvm.Cond.privateMethod y).before a0 Z = true) (w3 : (Jvm.Cond.initialized y.cls).before a0 Z = true) (w4 : (Jvm.Cond.code y bytes ml rt).before a0 Z = true)
    (hy : y.cls ≠ "java/lang/invoke/MethodHandle" ∧ y.cls ≠ "java/lang/invoke/VarHandle") (ct : own_Ct l Z y bytes ml rt rm (.ref a :: argsL).toArray h Q) (eT : T.heap = h) (hg : g.method = m) (hsize : g.locals.size = c.maxLocals)
    (hlen : ∀ sig, parseMethodDescriptor y.desc = some sig → argsL.length = sig.parameters.length) (hstack : g.stack = argsL.reverse ++ .ref a :: rest) (hW : 2 * g.monitorRoom + (rest.map fun v => v.category).sum ≤ W) (hdg : decode c.code g.pc = .ok (.invokevirtual index, 3))
    (hf : rm.frames + 1 ≤ R.frames) (hl : W + (ml + 11) + rm.locals ≤ R.locals) (hc : cells + rm.cells ≤ R.cells) (hs : slots + rm.slots ≤ R.slots) :
    ∃ v T' L, Stand p l e R s m args below meth c T' (locs ++ L) (cells + rm.cells) (slots + rm.slots) ∧ Q v T'.heap L ∧ ∀ target, Steps p.tables e below (T'.setTop { g with pc := g.pc + 3, stack := v.toList ++ rest }) target → Steps p.tables e below (T.setTop g) target := by
  obtain ⟨cq, q1, q2⟩ := E.cell
  have hp : s.PrivateAt y := Cond.privateMethod_at (mvP hZ wp (args := #[]))
  have w5' : (Jvm.Cond.selects C x z).before args s = true := mvT hZ w5
  obtain ⟨c2, r2, m2, -, -, q3, -, kP, hkP, hkPi⟩ := Cond.selects_spec w5'
  have hcl : s.vm.findClass y.cls = some m2.cls := hz ▸ findClass_of_methodNamed q3
  have hsel : (Jvm.Cond.selects y.cls y y).before args s = true := selects_self_of_private hcl hkP hkPi hp (mvT hZ w2) hy
  obtain ⟨v, vm1, ⟨T1, L1, k1, n1⟩, -, X1, ⟨L, hQ, h1, h2, h3⟩, st⟩ := X.privateBack hx hown (mvT hZ w1) (mvT hZ w2) hsel hp (mvT hZ w4) hy (backOf (W := W) ct hZ w4 w3 hf hl) hg hsize (Steps.refl _) (a := a) (by rw [eT]; exact q1) q2 hlen hstack hW hdg (fun _ _ => ⟨rfl, eT, hc, hs⟩)
  dsimp only [Pt.U, Pt.locs, Pt.cells, Pt.slots] at X1 h1 h2 h3 hQ st
  subst h1 h2 h3
  exact ⟨v, T1, L, X1, hQ, fun t k => st.trans k⟩
theorem own_callF {a : Addr} {C : String} {count : Nat} (X : Stand p l e R s m args below meth c T locs cells slots) (hx : p.tables.exec = Jvm.exec) (hZ : Z.Warmed39 s.vm) (hown : s.vm.findClass own = some m.cls) (E : Exa Z h a C) {y0 : MethodName}
    (w1 : (Jvm.Cond.methodLink own index y0).before a0 Z = true) (w2 : (Jvm.Cond.declares y0).before a0 Z = true) (wf : (Jvm.Cond.interfaceMethod y0.cls y0.cls y0.name y0.desc).before args s = true) (w5 : (Jvm.Cond.selects C y0 y).before a0 Z = true) (w6 : (Jvm.Cond.instanceMethod y).before a0 Z = true) (wp : (Jvm.Cond.publicMethod y).before a0 Z = true) (wu : (Jvm.Cond.unhidden C y0.name y0.desc).before a0 Z = true) (wk : (Jvm.Cond.castable C y0.cls).before a0 Z = true) (w3 : (Jvm.Cond.initialized y.cls).before a0 Z = true) (w4 : (Jvm.Cond.code y bytes ml rt).before a0 Z = true)
    (hy : y0.cls ≠ "java/lang/invoke/MethodHandle" ∧ y0.cls ≠ "java/lang/invoke/VarHandle") (ct : own_Ct l Z y bytes ml rt rm (.ref a :: argsL).toArray h Q) (eT : T.heap = h) (hg : g.method = m) (hsize : g.locals.size = c.maxLocals)
    (hlen : ∀ sig, parseMethodDescriptor y0.desc = some sig → argsL.length = sig.parameters.length) (hstack : g.stack = argsL.reverse ++ .ref a :: rest) (hW : 2 * g.monitorRoom + (rest.map fun v => v.category).sum ≤ W) (hdg : decode c.code g.pc = .ok (.invokeinterface index count, 5))
    (hf : rm.frames + 1 ≤ R.frames) (hl : W + (ml + 11) + rm.locals ≤ R.locals) (hc : cells + rm.cells ≤ R.cells) (hs : slots + rm.slots ≤ R.slots) :
    ∃ v T' L, Stand p l e R s m args below meth c T' (locs ++ L) (cells + rm.cells) (slots + rm.slots) ∧ Q v T'.heap L ∧ ∀ target, Steps p.tables e below (T'.setTop { g with pc := g.pc + 5, stack := v.toList ++ rest }) target → Steps p.tables e below (T.setTop g) target := by
  obtain ⟨cq, kq, qa, qb, qc⟩ := isOf hZ eT E
  obtain ⟨v, vm1, ⟨T1, L1, k1, n1⟩, -, X1, ⟨L, hQ, h1, h2, h3⟩, st⟩ := X.interfaceBack hx (xi := y0) (y := y) hown (mvT hZ w1) (mvT hZ w2) wf (mvT hZ w5) (mvT hZ w6) (mvT hZ wp) (mvT hZ wu) (mvT hZ wk) hy (backOf (W := W) ct hZ w4 w3 hf hl) qa qb qc hg hsize (Steps.refl _) hlen hstack hW hdg (fun _ _ => ⟨rfl, eT, hc, hs⟩)
  dsimp only [Pt.U, Pt.locs, Pt.cells, Pt.slots] at X1 h1 h2 h3 hQ st
  subst h1 h2 h3
  exact ⟨v, T1, L, X1, hQ, fun t k => st.trans k⟩
end Call
/-- getfield by an entry that is resolved already -/
theorem own_getR {O n d : String} {a : Addr} {v : Value} (X : Stand p l e R s m args below meth c T locs cells slots) (hx : p.tables.exec = Jvm.exec) (hZ : Z.Warmed39 s.vm) {own : String} {index : Nat} (hown : s.vm.findClass own = some m.cls) (w : (Jvm.Cond.fieldRef own index O n d).before a0 Z = true) (eT : T.heap = h) (F : Fld Z h a O n d v)
    {g : JFrame} (hg : g.method = m) {rest : List Value} (hs : g.stack = .ref a :: rest) (hd : decode c.code g.pc = .ok (.getfield index, 3)) :
    ∀ t, Steps p.tables e below (T.setTop { g with pc := g.pc + 3, stack := v :: rest }) t → Steps p.tables e below (T.setTop g) t := by
  have hT : Z.Warmed39 T.vm := wtrans hZ X.warmed
  have w' := Cond.fieldRef_warmed39 hT w
  have hownT : (Z.setVm T.vm).vm.findClass own = some m.cls := by
    show T.vm.findClass own = _
    rw [X.warmed.alike.findClass]; exact hown
  obtain ⟨c1, k1, i1, f1, q1, q2⟩ := Cond.fieldRef_spec hownT w'
  obtain ⟨cell, cf, k, i, f, h1, h2, h3, h4, -, -, h7⟩ := F
  obtain ⟨k', hi, -⟩ := State.fieldFound?_setVm (s := Z) hT.alike h2
  cases q1.symm.trans hi
  exact fun t kt => (X.getfieldR hx hg q2 h3 hs (by rw [eT]; exact h1) h4 h7 hd (Steps.refl _)).trans kt
theorem own_Sta.keep {C n d : String} {v : Value} (S : Sta Z h C n d v) (K : Keep h h' []) : Sta Z h' C n d v := by
  obtain ⟨cf, i, k, f, st, cell, h1, h2, h3, h4, h5, h6, h7⟩ := S
  exact ⟨cf, i, k, f, st, cell, h1, h2, h3, h4, K.2.1 _ _ h5 nin0, h6, h7⟩
theorem own_imod (x y : Int32) : x - (x / y) * y = x % y := by
  apply Int32.toInt_inj.mp
  have h1 := rng32 (x % y)
  rw [Int32.toInt_sub, Int32.toInt_mul, Int32.toInt_div, Int.bmod_mul_bmod, Int.sub_bmod_bmod, Int.mul_comm (x.toInt.tdiv y.toInt), ← Int.tmod_def, ← Int32.toInt_mod]
  exact Int.bmod_eq_of_le_mul_two (by omega) (by omega)
theorem own_irem {T target : State} {g : JFrame} (h : At T m c below) (hx : p.tables.exec = Jvm.exec) (hg : g.method = m) {x y : Int32} {rest : List Value} (hd : decode c.code g.pc = .ok (.irem, 1)) (hs : g.stack = .int y :: .int x :: rest) (hy : y ≠ 0)
    (hr : Steps p.tables e below (T.setTop { g with pc := g.pc + 1, stack := .int (x % y) :: rest }) target) : Steps p.tables e below (T.setTop g) target := by
  refine XS.irem h hx hg hd hs hy ?_
  rw [own_imod x y]
  exact hr
section Cmp
theorem own_tltL {x y : Int64} (h : x < y) : ifCond.holds .lt (lcmpW x y) = true ∧ ifCond.holds .ge (lcmpW x y) = false := by
  rw [if0, if0]; exact ⟨(tlt ((lw_lt x y).mpr h)).1, (tlt ((lw_lt x y).mpr h)).2.1⟩
theorem own_fltL {x y : Int64} (h : ¬ x < y) : ifCond.holds .lt (lcmpW x y) = false ∧ ifCond.holds .ge (lcmpW x y) = true := by
  have q : ¬ lcmpW x y < 0 := fun q => h ((lw_lt x y).mp q)
  rw [if0, if0]; exact ⟨(flt q).1, (flt q).2.1⟩
theorem own_tgtL {x y : Int64} (h : y < x) : ifCond.holds .gt (lcmpW x y) = true ∧ ifCond.holds .le (lcmpW x y) = false := by
  rw [if0, if0]; exact ⟨(tlt ((lw_gt x y).mpr h)).2.2.1, (tlt ((lw_gt x y).mpr h)).2.2.2⟩
theorem own_fgtL {x y : Int64} (h : ¬ y < x) : ifCond.holds .gt (lcmpW x y) = false ∧ ifCond.holds .le (lcmpW x y) = true := by
  have q : ¬ 0 < lcmpW x y := fun q => h ((lw_gt x y).mp q)
  rw [if0, if0]; exact ⟨(flt q).2.2.1, (flt q).2.2.2⟩
theorem own_teqL {x y : Int64} (h : x = y) : ifCond.holds .eq (lcmpW x y) = true ∧ ifCond.holds .ne (lcmpW x y) = false := by
  rw [if0, if0]; exact ⟨(teq ((lw_eq x y).mpr h)).1, (teq ((lw_eq x y).mpr h)).2⟩
theorem own_feqL {x y : Int64} (h : ¬ x = y) : ifCond.holds .eq (lcmpW x y) = false ∧ ifCond.holds .ne (lcmpW x y) = true := by
  have q : ¬ lcmpW x y = 0 := fun q => h ((lw_eq x y).mp q)
  rw [if0, if0]; exact ⟨(feq q).1, (feq q).2⟩
end Cmp
/-- an array: its kind, its length, its values -/
def own_AV (Z : State) (h : Heap) (a : Addr) (ty : FieldType) (n : Nat) (f : Nat → Value) : Prop :=
  ∃ cl : Cell, Arr Z h a cl ty ∧ cl.slots.size = n ∧ (∀ i, i < n → cl.slots[i]? = some (f i)) ∧ ∀ i, i < n → fits ty (f i) = true
/-- an array of int-like values -/
def own_AI (Z : State) (h : Heap) (a : Addr) (ty : FieldType) (n : Nat) (f : Nat → Int32) : Prop := own_AV Z h a ty n (fun i => .int (f i))
def own_AL (Z : State) (h : Heap) (a : Addr) (n : Nat) (f : Nat → Int64) : Prop := own_AV Z h a .long n (fun i => .long (f i))
def own_updV (f : Nat → Value) (k : Nat) (v : Value) : Nat → Value := fun i => if i = k then v else f i
def own_upd (f : Nat → Int32) (k : Nat) (v : Int32) : Nat → Int32 := fun i => if i = k then v else f i
def own_updL (f : Nat → Int64) (k : Nat) (v : Int64) : Nat → Int64 := fun i => if i = k then v else f i
theorem own_idx {j : Int32} {k n : Nat} {cl : Cell} (S : cl.slots.size = n) (hj : j.toInt = (k : Int)) (hk : k < n) : ¬ (j < 0 ∨ cl.slots.size ≤ j.toNatClampNeg) ∧ j.toNatClampNeg = k := by
  have e0 : (0 : Int32).toInt = 0 := by decide
  have e1 : j.toNatClampNeg = k := by
    show j.toInt.toNat = k
    rw [hj]; rfl
  refine ⟨?_, e1⟩
  rintro (q | q)
  · rw [Int32.lt_iff_toInt_lt, e0, hj] at q; omega
  · rw [e1, S] at q; omega
section AV
variable {a b : Addr} {ty : FieldType} {n : Nat} {f : Nat → Value}
theorem own_AV.lt (A : own_AV Z h a ty n f) : a < h.size := by obtain ⟨cl, h1, -⟩ := A; exact h1.lt
theorem own_AV.ext (A : own_AV Z h a ty n f) (E : Ext h h') : own_AV Z h' a ty n f := by obtain ⟨cl, h1, r⟩ := A; exact ⟨cl, h1.ext E, r⟩
theorem own_AV.other (A : own_AV Z h b ty n f) {sl : Nat} {v : Value} (W : Wr h h' a sl v) (q : b ≠ a) : own_AV Z h' b ty n f := by obtain ⟨cl, h1, r⟩ := A; exact ⟨cl, h1.other W q, r⟩
theorem own_AV.keep {ws : List Addr} (A : own_AV Z h a ty n f) (K : Keep h h' ws) (q : a ∉ ws) : own_AV Z h' a ty n f := by obtain ⟨cl, h1, r⟩ := A; exact ⟨cl, ⟨K.2.1 a cl h1.1 q, h1.2⟩, r⟩
theorem own_AV.congr {g : Nat → Value} (A : own_AV Z h a ty n f) (q : ∀ i, i < n → f i = g i) : own_AV Z h a ty n g := by
  obtain ⟨cl, h1, h2, h3, h4⟩ := A
  exact ⟨cl, h1, h2, fun i hi => by rw [← q i hi]; exact h3 i hi, fun i hi => by rw [← q i hi]; exact h4 i hi⟩
theorem own_AV.new {cA : ClassId} {z : Int32} (A : Arr Z h a (newA cA ty z) ty) (hn : z.toNatClampNeg = n) (hf : fits ty (defaultValue ty) = true) : own_AV Z h a ty n (fun _ => defaultValue ty) :=
  ⟨_, A, by rw [sz_new, hn], fun i hi => by subst hn; simp only [newA, Array.getElem?_replicate, hi, if_true], fun _ _ => hf⟩
theorem own_AV.set {k : Nat} {v : Value} (F : own_AV Z h a ty n f) (hk : k < n) (hv : fits ty v = true) (W : Wr h h' a k v) : own_AV Z h' a ty n (own_updV f k v) := by
  obtain ⟨cl, A, S, H, G⟩ := F
  refine ⟨_, A.same W, by rw [sz_set, S], fun i hi => ?_, fun i hi => ?_⟩
  · by_cases q : i = k
    · subst q; simp [Cell.setSlot, own_updV, S, hk]
    · have q' : ¬ k = i := fun r => q r.symm
      simp only [Cell.setSlot, own_updV, q, if_false]
      rw [Array.getElem?_setIfInBounds_ne q']
      exact H i hi
  · by_cases q : i = k
    · simp only [own_updV, q, if_true]; exact hv
    · simp only [own_updV, q, if_false]; exact G i hi
end AV
theorem own_ninS {x y : Nat} {L : List Nat} (q : x ≠ y) (r : x ∉ L) : x ∉ y :: L := ninS q r
theorem own_AL.congr {a : Addr} {n : Nat} {f g : Nat → Int64} (A : own_AL Z h a n f) (q : ∀ i, i < n → f i = g i) : own_AL Z h a n g := own_AV.congr A fun i hi => congrArg Value.long (q i hi)
section AI
variable {a b : Addr} {ty : FieldType} {n : Nat} {f : Nat → Int32}
theorem own_AI.lt (A : own_AI Z h a ty n f) : a < h.size := own_AV.lt A
theorem own_AI.ext (A : own_AI Z h a ty n f) (E : Ext h h') : own_AI Z h' a ty n f := own_AV.ext A E
theorem own_AI.other (A : own_AI Z h b ty n f) {sl : Nat} {v : Value} (W : Wr h h' a sl v) (q : b ≠ a) : own_AI Z h' b ty n f := own_AV.other A W q
theorem own_AI.keep {ws : List Addr} (A : own_AI Z h a ty n f) (K : Keep h h' ws) (q : a ∉ ws) : own_AI Z h' a ty n f := own_AV.keep A K q
theorem own_AI.congr {g : Nat → Int32} (A : own_AI Z h a ty n f) (q : ∀ i, i < n → f i = g i) : own_AI Z h a ty n g := own_AV.congr A fun i hi => congrArg Value.int (q i hi)
theorem own_AI.set {k : Nat} {v : Int32} (F : own_AI Z h a ty n f) (hk : k < n) (hv : fits ty (.int v) = true) (W : Wr h h' a k (.int v)) : own_AI Z h' a ty n (own_upd f k v) :=
  (own_AV.set F hk hv W).congr fun i _ => by
    by_cases q : i = k <;> simp [own_updV, own_upd, q]
end AI
section Rd
variable {a : Addr} {n k : Nat} {j : Int32} {g : JFrame} {rest : List Value}
theorem own_rdI {f : Nat → Int32} (X : Stand p l e R s m args below meth c T locs cells slots) (hx : p.tables.exec = Jvm.exec) (hZ : Z.Warmed39 s.vm) (eT : T.heap = h) (A : own_AI Z h a .int n f) (hj : j.toInt = (k : Int)) (hk : k < n) (hg : g.method = m) (hs : g.stack = .int j :: .ref a :: rest) (hd : decode c.code g.pc = .ok (.iaload, 1)) :
    ∀ t, Steps p.tables e below (T.setTop { g with pc := g.pc + 1, stack := .int (f k) :: rest }) t → Steps p.tables e below (T.setTop g) t := by
  obtain ⟨cl, A1, S, H, -⟩ := A
  obtain ⟨hin, e1⟩ := own_idx S hj hk
  exact X.iaload hx (by rw [eT]; exact A1.1) (State.isArrayOf_alike hZ.alike A1.2.1) A1.2.2 hin (by rw [e1]; exact H k hk) hg hs hd
theorem own_rdB {f : Nat → Int32} (X : Stand p l e R s m args below meth c T locs cells slots) (hx : p.tables.exec = Jvm.exec) (hZ : Z.Warmed39 s.vm) (eT : T.heap = h) (A : own_AI Z h a .byte n f) (hj : j.toInt = (k : Int)) (hk : k < n) (hg : g.method = m) (hs : g.stack = .int j :: .ref a :: rest) (hd : decode c.code g.pc = .ok (.baload, 1)) :
    ∀ t, Steps p.tables e below (T.setTop { g with pc := g.pc + 1, stack := .int (f k) :: rest }) t → Steps p.tables e below (T.setTop g) t := by
  obtain ⟨cl, A1, S, H, -⟩ := A
  obtain ⟨hin, e1⟩ := own_idx S hj hk
  exact X.baloadBytes hx (by rw [eT]; exact A1.1) (State.isArrayOf_alike hZ.alike A1.2.1) A1.2.2 hin (by rw [e1]; exact H k hk) hg hs hd
theorem own_rdZ {f : Nat → Int32} (X : Stand p l e R s m args below meth c T locs cells slots) (hx : p.tables.exec = Jvm.exec) (hZ : Z.Warmed39 s.vm) (eT : T.heap = h) (A : own_AI Z h a .boolean n f) (hj : j.toInt = (k : Int)) (hk : k < n) (hg : g.method = m) (hs : g.stack = .int j :: .ref a :: rest) (hd : decode c.code g.pc = .ok (.baload, 1)) :
    ∀ t, Steps p.tables e below (T.setTop { g with pc := g.pc + 1, stack := .int (f k) :: rest }) t → Steps p.tables e below (T.setTop g) t := by
  obtain ⟨cl, A1, S, H, -⟩ := A
  obtain ⟨hin, e1⟩ := own_idx S hj hk
  exact X.baloadBooleans hx (by rw [eT]; exact A1.1) (State.isArrayOf_alike hZ.alike A1.2.1) A1.2.2 hin (by rw [e1]; exact H k hk) hg hs hd
theorem own_rdC {f : Nat → Int32} (X : Stand p l e R s m args below meth c T locs cells slots) (hx : p.tables.exec = Jvm.exec) (hZ : Z.Warmed39 s.vm) (eT : T.heap = h) (A : own_AI Z h a .char n f) (hj : j.toInt = (k : Int)) (hk : k < n) (hg : g.method = m) (hs : g.stack = .int j :: .ref a :: rest) (hd : decode c.code g.pc = .ok (.caload, 1)) :
    ∀ t, Steps p.tables e below (T.setTop { g with pc := g.pc + 1, stack := .int (f k) :: rest }) t → Steps p.tables e below (T.setTop g) t := by
  obtain ⟨cl, A1, S, H, -⟩ := A
  obtain ⟨hin, e1⟩ := own_idx S hj hk
  exact X.caload hx (by rw [eT]; exact A1.1) (State.isArrayOf_alike hZ.alike A1.2.1) A1.2.2 hin (by rw [e1]; exact H k hk) hg hs hd
theorem own_wrC {f : Nat → Int32} {x : Int32} (X : Stand p l e R s m args below meth c T locs cells slots) (hx : p.tables.exec = Jvm.exec) (hZ : Z.Warmed39 s.vm) (eT : T.heap = h) (A : own_AI Z h a .char n f) (hj : j.toInt = (k : Int)) (hk : k < n) (hg : g.method = m) (hs : g.stack = .int x :: .int j :: .ref a :: rest) (hd : decode c.code g.pc = .ok (.castore, 1)) :
    ∃ T' h', Stand p l e R s m args below meth c T' (locs ++ [⟨a, k⟩]) cells slots ∧ T'.heap = h' ∧ Wr h h' a k (.int (nar .char x)) ∧ own_AI Z h' a .char n (own_upd f k (nar .char x)) ∧ ∀ t, Steps p.tables e below (T'.setTop { g with pc := g.pc + 1, stack := rest }) t → Steps p.tables e below (T.setTop g) t := by
  have A0 := A
  obtain ⟨cl, A1, S, H, -⟩ := A
  obtain ⟨hin, e1⟩ := own_idx S hj hk
  obtain ⟨T', h', X', e', W', st⟩ := stC X hx hZ eT A1 hin hg hs hd
  rw [e1] at X' W'
  exact ⟨T', h', X', e', W', A0.set hk (fits_nar_char x) W', st⟩
theorem own_rdL {f : Nat → Int64} (X : Stand p l e R s m args below meth c T locs cells slots) (hx : p.tables.exec = Jvm.exec) (hZ : Z.Warmed39 s.vm) (eT : T.heap = h) (A : own_AL Z h a n f) (hj : j.toInt = (k : Int)) (hk : k < n) (hg : g.method = m) (hs : g.stack = .int j :: .ref a :: rest) (hd : decode c.code g.pc = .ok (.laload, 1)) :
    ∀ t, Steps p.tables e below (T.setTop { g with pc := g.pc + 1, stack := .long (f k) :: rest }) t → Steps p.tables e below (T.setTop g) t := by
  obtain ⟨cl, A1, S, H, -⟩ := A
  obtain ⟨hin, e1⟩ := own_idx S hj hk
  exact X.laload hx (by rw [eT]; exact A1.1) (State.isArrayOf_alike hZ.alike A1.2.1) A1.2.2 hin (by rw [e1]; exact H k hk) hg hs hd
theorem own_rdR {f : Nat → Value} {ty : FieldType} (X : Stand p l e R s m args below meth c T locs cells slots) (hx : p.tables.exec = Jvm.exec) (hZ : Z.Warmed39 s.vm) (eT : T.heap = h) (A : own_AV Z h a ty n f) (ht : ty.isReference = true) (hj : j.toInt = (k : Int)) (hk : k < n) (hg : g.method = m) (hs : g.stack = .int j :: .ref a :: rest) (hd : decode c.code g.pc = .ok (.aaload, 1)) :
    ∀ t, Steps p.tables e below (T.setTop { g with pc := g.pc + 1, stack := f k :: rest }) t → Steps p.tables e below (T.setTop g) t := by
  obtain ⟨cl, A1, S, H, -⟩ := A
  obtain ⟨hin, e1⟩ := own_idx S hj hk
  exact X.aaload hx (by rw [eT]; exact A1.1) (State.isArrayOf_alike hZ.alike A1.2.1) ht A1.2.2 hin (by rw [e1]; exact H k hk) hg hs hd
theorem own_len {f : Nat → Value} {ty : FieldType} {z : Int32} (X : Stand p l e R s m args below meth c T locs cells slots) (hx : p.tables.exec = Jvm.exec) (hZ : Z.Warmed39 s.vm) (eT : T.heap = h) (A : own_AV Z h a ty n f) (hz : n.toInt32 = z) (hg : g.method = m) (hs : g.stack = .ref a :: rest) (hd : decode c.code g.pc = .ok (.arraylength, 1)) :
    ∀ t, Steps p.tables e below (T.setTop { g with pc := g.pc + 1, stack := .int z :: rest }) t → Steps p.tables e below (T.setTop g) t := by
  obtain ⟨cl, A1, S, -, -⟩ := A
  subst hz S
  exact X.arraylength hx (by rw [eT]; exact A1.1) (State.isArrayOf_alike hZ.alike A1.2.1) hg hs hd
theorem own_wrI {f : Nat → Int32} {x : Int32} (X : Stand p l e R s m args below meth c T locs cells slots) (hx : p.tables.exec = Jvm.exec) (hZ : Z.Warmed39 s.vm) (eT : T.heap = h) (A : own_AI Z h a .int n f) (hj : j.toInt = (k : Int)) (hk : k < n) (hg : g.method = m) (hs : g.stack = .int x :: .int j :: .ref a :: rest) (hd : decode c.code g.pc = .ok (.iastore, 1)) :
    ∃ T' h', Stand p l e R s m args below meth c T' (locs ++ [⟨a, k⟩]) cells slots ∧ T'.heap = h' ∧ Wr h h' a k (.int x) ∧ own_AI Z h' a .int n (own_upd f k x) ∧ ∀ t, Steps p.tables e below (T'.setTop { g with pc := g.pc + 1, stack := rest }) t → Steps p.tables e below (T.setTop g) t := by
  have A0 := A
  obtain ⟨cl, A1, S, H, -⟩ := A
  obtain ⟨hin, e1⟩ := own_idx S hj hk
  obtain ⟨T', h', X', e', W', st⟩ := stI X hx hZ eT A1 hin hg hs hd
  rw [e1] at X' W'
  exact ⟨T', h', X', e', W', A0.set hk rfl W', st⟩
theorem own_wrB {f : Nat → Int32} {x : Int32} (X : Stand p l e R s m args below meth c T locs cells slots) (hx : p.tables.exec = Jvm.exec) (hZ : Z.Warmed39 s.vm) (eT : T.heap = h) (A : own_AI Z h a .byte n f) (hj : j.toInt = (k : Int)) (hk : k < n) (hg : g.method = m) (hs : g.stack = .int x :: .int j :: .ref a :: rest) (hd : decode c.code g.pc = .ok (.bastore, 1)) :
    ∃ T' h', Stand p l e R s m args below meth c T' (locs ++ [⟨a, k⟩]) cells slots ∧ T'.heap = h' ∧ Wr h h' a k (.int (nar .byte x)) ∧ own_AI Z h' a .byte n (own_upd f k (nar .byte x)) ∧ ∀ t, Steps p.tables e below (T'.setTop { g with pc := g.pc + 1, stack := rest }) t → Steps p.tables e below (T.setTop g) t := by
  have A0 := A
  obtain ⟨cl, A1, S, H, -⟩ := A
  obtain ⟨hin, e1⟩ := own_idx S hj hk
  obtain ⟨T', h', X', e', W', st⟩ := stB X hx hZ eT A1 hin hg hs hd
  rw [e1] at X' W'
  exact ⟨T', h', X', e', W', A0.set hk (fits_nar_byte x) W', st⟩
theorem own_wrZ {f : Nat → Int32} {x : Int32} (X : Stand p l e R s m args below meth c T locs cells slots) (hx : p.tables.exec = Jvm.exec) (hZ : Z.Warmed39 s.vm) (eT : T.heap = h) (A : own_AI Z h a .boolean n f) (hj : j.toInt = (k : Int)) (hk : k < n) (hg : g.method = m) (hs : g.stack = .int x :: .int j :: .ref a :: rest) (hd : decode c.code g.pc = .ok (.bastore, 1)) :
    ∃ T' h', Stand p l e R s m args below meth c T' (locs ++ [⟨a, k⟩]) cells slots ∧ T'.heap = h' ∧ Wr h h' a k (.int (nar .boolean x)) ∧ own_AI Z h' a .boolean n (own_upd f k (nar .boolean x)) ∧ ∀ t, Steps p.tables e below (T'.setTop { g with pc := g.pc + 1, stack := rest }) t → Steps p.tables e below (T.setTop g) t := by
  have A0 := A
  obtain ⟨cl, A1, S, H, -⟩ := A
  obtain ⟨hin, e1⟩ := own_idx S hj hk
  obtain ⟨T', h', X', e', W', st⟩ := stZ X hx hZ eT A1 hin hg hs hd
  rw [e1] at X' W'
  exact ⟨T', h', X', e', W', A0.set hk (fits_nar_bool x) W', st⟩
theorem own_wrL {f : Nat → Int64} {x : Int64} (X : Stand p l e R s m args below meth c T locs cells slots) (hx : p.tables.exec = Jvm.exec) (hZ : Z.Warmed39 s.vm) (eT : T.heap = h) (A : own_AL Z h a n f) (hj : j.toInt = (k : Int)) (hk : k < n) (hg : g.method = m) (hs : g.stack = .long x :: .int j :: .ref a :: rest) (hd : decode c.code g.pc = .ok (.lastore, 1)) :
    ∃ T' h', Stand p l e R s m args below meth c T' (locs ++ [⟨a, k⟩]) cells slots ∧ T'.heap = h' ∧ Wr h h' a k (.long x) ∧ own_AL Z h' a n (own_updL f k x) ∧ ∀ t, Steps p.tables e below (T'.setTop { g with pc := g.pc + 1, stack := rest }) t → Steps p.tables e below (T.setTop g) t := by
  have A0 := A
  obtain ⟨cl, A1, S, H, -⟩ := A
  obtain ⟨hin, e1⟩ := own_idx S hj hk
  obtain ⟨T', h', X', e', W', st⟩ := stJ X hx hZ eT A1 hin hg hs hd
  rw [e1] at X' W'
  exact ⟨T', h', X', e', W', (own_AV.set A0 hk rfl W').congr fun i _ => by by_cases q : i = k <;> simp [own_updV, own_updL, q], st⟩
theorem own_wrR {f : Nat → Value} {ty : FieldType} {v : Value} (X : Stand p l e R s m args below meth c T locs cells slots) (hx : p.tables.exec = Jvm.exec) (hZ : Z.Warmed39 s.vm) (eT : T.heap = h) (A : own_AV Z h a ty n f) (ht : ty.isReference = true) (hv : fits ty v = true) (F : Sto Z h a v) (hj : j.toInt = (k : Int)) (hk : k < n) (hg : g.method = m) (hs : g.stack = v :: .int j :: .ref a :: rest) (hd : decode c.code g.pc = .ok (.aastore, 1)) :
    ∃ T' h', Stand p l e R s m args below meth c T' (locs ++ [⟨a, k⟩]) cells slots ∧ T'.heap = h' ∧ Wr h h' a k v ∧ own_AV Z h' a ty n (own_updV f k v) ∧ ∀ t, Steps p.tables e below (T'.setTop { g with pc := g.pc + 1, stack := rest }) t → Steps p.tables e below (T.setTop g) t := by
  have A0 := A
  obtain ⟨cl, A1, S, H, -⟩ := A
  obtain ⟨hin, e1⟩ := own_idx S hj hk
  obtain ⟨T', h', X', e', W', st⟩ := stR X hx hZ eT A1 hin ht F hg hs hd
  rw [e1] at X' W'
  exact ⟨T', h', X', e', W', A0.set hk hv W', st⟩
/-- newarray: the fresh array at a = the heap's old size -/
theorem own_newP {aty : ArrayType} {z : Int32} (X : Stand p l e R s m args below meth c T locs cells slots) (hx : p.tables.exec = Jvm.exec) (hZ : Z.Warmed39 s.vm) (w : (Jvm.Cond.arrayClass (newarray.typeOf aty)).before a0 Z = true) (eT : T.heap = h) (hz : z.toInt = (n : Int)) (hf : fits (newarray.typeOf aty) (defaultValue (newarray.typeOf aty)) = true) (hg : g.method = m) (hs : g.stack = .int z :: rest) (hd : decode c.code g.pc = .ok (.newarray aty, 2)) {cap : Nat} (hcap : n ≤ cap) (hb : cap * 8 ≤ 536870912) (hc : cells + 1 ≤ R.cells) (hl : slots + cap ≤ R.slots) :
    ∃ T' h' a, a = h.size ∧ Stand p l e R s m args below meth c T' locs (cells + 1) (slots + cap) ∧ T'.heap = h' ∧ Ext h h' ∧ own_AV Z h' a (newarray.typeOf aty) n (fun _ => defaultValue (newarray.typeOf aty)) ∧ ∀ t, Steps p.tables e below (T'.setTop { g with pc := g.pc + 2, stack := .ref a :: rest }) t → Steps p.tables e below (T.setTop g) t := by
  have e0 : (0 : Int32).toInt = 0 := by decide
  have e1 : z.toNatClampNeg = n := by show z.toInt.toNat = n; rw [hz]; rfl
  have hn : ¬ z < 0 := by rw [Int32.lt_iff_toInt_lt, e0, hz]; omega
  obtain ⟨T', h', cA, X', e', E', A', st⟩ := newP X hx hZ w eT hg hd hs hn (by rw [e1]; exact hcap) hb hc hl
  exact ⟨T', h', _, rfl, X', e', E', own_AV.new A' e1 hf, st⟩
/-- newarray: the fresh array, its class besides -/
theorem own_newPE {aty : ArrayType} {z : Int32} (X : Stand p l e R s m args below meth c T locs cells slots) (hx : p.tables.exec = Jvm.exec) (hZ : Z.Warmed39 s.vm) (w : (Jvm.Cond.arrayClass (newarray.typeOf aty)).before a0 Z = true) (eT : T.heap = h) (hz : z.toInt = (n : Int)) (hf : fits (newarray.typeOf aty) (defaultValue (newarray.typeOf aty)) = true) (hg : g.method = m) (hs : g.stack = .int z :: rest) (hd : decode c.code g.pc = .ok (.newarray aty, 2)) {cap : Nat} (hcap : n ≤ cap) (hb : cap * 8 ≤ 536870912) (hc : cells + 1 ≤ R.cells) (hl : slots + cap ≤ R.slots) {ad : String} (had : "[" ++ (newarray.typeOf aty).toString = ad) :
    ∃ T' h' a, a = h.size ∧ Stand p l e R s m args below meth c T' locs (cells + 1) (slots + cap) ∧ T'.heap = h' ∧ Ext h h' ∧ own_AV Z h' a (newarray.typeOf aty) n (fun _ => defaultValue (newarray.typeOf aty)) ∧ Exa Z h' a ad ∧ ∀ t, Steps p.tables e below (T'.setTop { g with pc := g.pc + 2, stack := .ref a :: rest }) t → Steps p.tables e below (T.setTop g) t := by
  have e0 : (0 : Int32).toInt = 0 := by decide
  have e1 : z.toNatClampNeg = n := by show z.toInt.toNat = n; rw [hz]; rfl
  have hn : ¬ z < 0 := by rw [Int32.lt_iff_toInt_lt, e0, hz]; omega
  obtain ⟨T', h', cA, X', e', E', A', E2, st⟩ := newPE X hx hZ w eT hg hd hs hn (by rw [e1]; exact hcap) hb hc hl had
  exact ⟨T', h', _, rfl, X', e', E', own_AV.new A' e1 hf, E2, st⟩
/-- anewarray: the fresh array of references, all null; what may lie in it -/
theorem own_newR {C : String} {z : Int32} {own : String} {index : Nat} (X : Stand p l e R s m args below meth c T locs cells slots) (hx : p.tables.exec = Jvm.exec) (hZ : Z.Warmed39 s.vm) (hown : s.vm.findClass own = some m.cls) (w1 : (Jvm.Cond.classLink own index C).before a0 Z = true) (w2 : (Jvm.Cond.arrayOver (.object C)).before a0 Z = true) (eT : T.heap = h) (hz : z.toInt = (n : Int)) (hg : g.method = m) (hs : g.stack = .int z :: rest) (hd : decode c.code g.pc = .ok (.anewarray index, 3)) {cap : Nat} (hcap : n ≤ cap) (hb : cap * 8 ≤ 536870912) (hc : cells + 1 ≤ R.cells) (hl : slots + cap ≤ R.slots) :
    ∃ T' h' a, a = h.size ∧ Stand p l e R s m args below meth c T' locs (cells + 1) (slots + cap) ∧ T'.heap = h' ∧ Ext h h' ∧ own_AV Z h' a (.object C) n (fun _ => .null) ∧ (∃ cl : Cell, h'[a]? = some cl ∧ Ovr Z cl.cls C) ∧ ∀ t, Steps p.tables e below (T'.setTop { g with pc := g.pc + 3, stack := .ref a :: rest }) t → Steps p.tables e below (T.setTop g) t := by
  have e0 : (0 : Int32).toInt = 0 := by decide
  have e1 : z.toNatClampNeg = n := by show z.toInt.toNat = n; rw [hz]; rfl
  have hn : ¬ z < 0 := by rw [Int32.lt_iff_toInt_lt, e0, hz]; omega
  obtain ⟨T', h', cA, X', e', E', A', O', st⟩ := newR X hx hZ hown w1 w2 eT hg hd hs hn (by rw [e1]; exact hcap) hb hc hl
  exact ⟨T', h', _, rfl, X', e', E', own_AV.new A' e1 rfl, ⟨_, A'.1, O'⟩, st⟩
/-- the array over class C at a takes an object of C -/
def own_Ov (Z : State) (h : Heap) (a : Addr) (C : String) : Prop := ∃ cl : Cell, h[a]? = some cl ∧ Ovr Z cl.cls C
theorem own_Ov.keep {a : Addr} {C : String} {ws : List Addr} (O : own_Ov Z h a C) (K : Keep h h' ws) : own_Ov Z h' a C := by
  obtain ⟨cl, h1, h2⟩ := O
  obtain ⟨c', q1, q2, -, -⟩ := K.2.2 a cl h1
  exact ⟨c', q1, by rw [q2]; exact h2⟩
theorem own_Ov.sto {a y : Addr} {C : String} {ty : FieldType} {f : Nat → Value} (O : own_Ov Z h a C) (A : own_AV Z h a ty n f) (I : Ins Z h y C true) : Sto Z h a (.ref y) := by
  obtain ⟨cl, h1, h2⟩ := O
  obtain ⟨c2, A2, -⟩ := A
  cases h1.symm.trans A2.1
  exact Sto.of A2 h2 I
/-- clone() of an array -/
theorem own_clone {own ad : String} {index : Nat} {ty : FieldType} {f : Nat → Value} (X : Stand p l e R s m args below meth c T locs cells slots) (hx : p.tables.exec = Jvm.exec) (hZ : Z.Warmed39 s.vm) (hown : s.vm.findClass own = some m.cls)
    (w1 : (Jvm.Cond.methodLink own index ⟨ad, "clone", "()Ljava/lang/Object;"⟩).before a0 Z = true) (w2 : (Jvm.Cond.sameMethod ad "java/lang/Object" "clone" "()Ljava/lang/Object;").before a0 Z = true) (w3 : (Jvm.Cond.native ⟨"java/lang/Object", "clone", "()Ljava/lang/Object;"⟩).before a0 Z = true)
    (w4 : (Jvm.Cond.instanceMethod ⟨"java/lang/Object", "clone", "()Ljava/lang/Object;"⟩).before a0 Z = true) (w5 : (Jvm.Cond.selects ad ⟨ad, "clone", "()Ljava/lang/Object;"⟩ ⟨"java/lang/Object", "clone", "()Ljava/lang/Object;"⟩).before a0 Z = true) (w6 : (Jvm.Cond.castable ad "java/lang/Cloneable").before a0 Z = true)
    (eT : T.heap = h) (A : own_AV Z h a ty n f) (E : Exa Z h a ad) (hg : g.method = m) (hsize : g.locals.size = c.maxLocals) (hs : g.stack = .ref a :: rest) (hd : decode c.code g.pc = .ok (.invokevirtual index, 3))
    (hf : 1 ≤ R.frames) {W : Nat} (hW : 2 * g.monitorRoom + (rest.map fun v => v.category).sum ≤ W) (hl : W + 14 ≤ R.locals) (hc : cells + 1 ≤ R.cells) (hsl : slots + n ≤ R.slots) :
    ∃ T' h' b, b = h.size ∧ Stand p l e R s m args below meth c T' locs (cells + 1) (slots + n) ∧ T'.heap = h' ∧ Ext h h' ∧ own_AV Z h' b ty n f ∧ Exa Z h' b ad ∧ ∀ t, Steps p.tables e below (T'.setTop { g with pc := g.pc + 3, stack := .ref b :: rest }) t → Steps p.tables e below (T.setTop g) t := by
  obtain ⟨cl, A1, S, H, G⟩ := A
  have F : FitC Z cl := fitC_of A1 fun i hi v hv => by
    rw [S] at hi
    rw [H i hi] at hv
    cases hv
    exact G i hi
  obtain ⟨T', h', X', e', E', A', E2, st⟩ := cloneA X hx hZ hown w1 w2 w3 w4 w5 w6 eT A1 E F hg hsize hs hd hf hW hl (Nat.le_of_eq S) hc hsl
  exact ⟨T', h', _, rfl, X', e', E', ⟨_, A', S, H, G⟩, E2, st⟩
end Rd
end Own
end Jvm.RoadKit
namespace Jvm.Pilot.@@N@@
open Jvm Jvm.ClassFile Sem Op Lib Jvm.Free Jvm.Stand Jvm.LawKit Jvm.RoadKit Bundle Jvm.Pilot.@@N@@.Jvm.D
theorem own_eqI {x y : Int32} (h : x.toInt = y.toInt) : x = y := Int32.toInt_inj.mp h
theorem own_eqL {x y : Int64} (h : x.toInt = y.toInt) : x = y := Int64.toInt_inj.mp h
/-- the number of decimal digits, none for 0 -/
def own_nd0 (n : Nat) : Nat := if h : n = 0 then 0 else own_nd0 (n / 10) + 1
termination_by n
decreasing_by omega
/-- the number of decimal digits, one for 0 -/
def own_nd (n : Nat) : Nat := own_nd0 (n / 10) + 1
theorem own_nd0_zero : own_nd0 0 = 0 := by rw [own_nd0]; simp
theorem own_nd0_pos (n : Nat) (h : n ≠ 0) : own_nd0 n = own_nd0 (n / 10) + 1 := by rw [own_nd0]; simp [h]
theorem own_divdiv (U j : Nat) : U / 10 ^ (j + 1) = U / 10 / 10 ^ j := by rw [Nat.pow_succ, Nat.mul_comm, Nat.div_div_eq_div_mul]
theorem own_divdiv' (U j : Nat) : U / 10 ^ (j + 1) = U / 10 ^ j / 10 := by rw [Nat.pow_succ, Nat.div_div_eq_div_mul]
theorem own_nd_lt : ∀ (j U : Nat), (j = 0 ∨ U / 10 ^ j ≠ 0) → j < own_nd U := by
  intro j
  induction j with
  | zero => intro U _; unfold own_nd; omega
  | succ j ih =>
    intro U h
    have h1 : U / 10 ^ (j + 1) ≠ 0 := by rcases h with h | h <;> first | (cases h; done) | exact h
    rw [own_divdiv] at h1
    have h2 : U / 10 ≠ 0 := fun z => h1 (by rw [z]; exact Nat.zero_div _)
    have h3 := ih (U / 10) (Or.inr h1)
    have h4 : own_nd U = own_nd (U / 10) + 1 := by
      show own_nd0 (U / 10) + 1 = own_nd0 (U / 10 / 10) + 1 + 1
      rw [own_nd0_pos _ h2]
    omega
theorem own_nd_le : ∀ (j U : Nat), U / 10 ^ (j + 1) = 0 → own_nd U ≤ j + 1 := by
  intro j
  induction j with
  | zero =>
    intro U h
    have h1 : U / 10 = 0 := by simpa using h
    unfold own_nd; rw [h1, own_nd0_zero]; exact Nat.le_refl _
  | succ j ih =>
    intro U h
    rw [own_divdiv] at h
    have h3 := ih (U / 10) h
    by_cases h2 : U / 10 = 0
    · unfold own_nd; rw [h2, own_nd0_zero]; omega
    · have h4 : own_nd U = own_nd (U / 10) + 1 := by
        show own_nd0 (U / 10) + 1 = own_nd0 (U / 10 / 10) + 1 + 1
        rw [own_nd0_pos _ h2]
      omega
theorem own_nd_pos (U : Nat) : 0 < own_nd U := by unfold own_nd; omega
theorem own_nd_19 (U : Nat) (h : U < 10000000000000000000) : own_nd U ≤ 19 := own_nd_le 18 U (by
  have : (10 : Nat) ^ (18 + 1) = 10000000000000000000 := by decide
  rw [this]; omega)
theorem own_nd0_le (U : Nat) (h : U < 10000000000000000000) : own_nd0 (U / 10) ≤ 18 := by
  have := own_nd_19 U h
  unfold own_nd at this; omega
/-- the sign of a digit -/
def own_ch (d : Nat) : Int32 := Int32.ofNat (48 + d % 10)
theorem own_ch_toInt (d : Nat) : (own_ch d).toInt = 48 + ((d % 10 : Nat) : Int) := by
  have h : ∀ r : Fin 10, (Int32.ofNat (48 + r.1)).toInt = 48 + (r.1 : Int) := by decide
  exact h ⟨d % 10, Nat.mod_lt _ (by decide)⟩
theorem own_ch_of (x : Int32) (d : Nat) (h : x.toInt = 48 + ((d % 10 : Nat) : Int)) : nar .byte x.toInt8.toInt32 = own_ch d := by
  apply own_eqI
  rw [own_ch_toInt]
  show (x.toInt8.toInt32.toInt8.toInt32).toInt = _
  have a1 := c_i2b x
  have a2 := c_i2b x.toInt8.toInt32
  have hm : d % 10 < 10 := Nat.mod_lt _ (by decide)
  omega
/-- j digits of N written below top -/
def own_dig (f : Nat → Int32) (top N j : Nat) : Nat → Int32 := fun i => if top - j ≤ i ∧ i < top then own_ch (N / 10 ^ (top - 1 - i)) else f i
theorem own_dig0 (f : Nat → Int32) (top N i : Nat) : own_dig f top N 0 i = f i := by
  unfold own_dig; rw [if_neg (by omega)]
theorem own_dig_next (f : Nat → Int32) (top N j k : Nat) (v : Int32) (hk : k + (j + 1) = top) (hv : v = own_ch (N / 10 ^ j)) (i : Nat) : own_upd (own_dig f top N j) k v i = own_dig f top N (j + 1) i := by
  unfold own_upd own_dig
  by_cases q : i = k
  · subst q
    rw [if_pos rfl, if_pos (by omega), hv]
    congr 2
    congr 1
    omega
  · rw [if_neg q]
    by_cases r : top - j ≤ i ∧ i < top
    · rw [if_pos r, if_pos (by omega)]
    · rw [if_neg r, if_neg (by omega)]
/-- what putFixed leaves -/
def own_put (f : Nat → Int32) (neg : Bool) (at_ U D dec : Nat) : Nat → Int32 :=
  let dot := at_ + (if neg then 1 else 0) + own_nd U
  let g := own_dig (own_upd (own_dig f (dot + 1 + dec) D dec) dot 46) dot U (own_nd U)
  if neg then own_upd g at_ 45 else g
/-- one step of an int down by ten -/
theorem own_irem10 (x : Int32) (n : Nat) (h : x.toInt = (n : Int)) : (x % (10 : Int32)).toInt = ((n % 10 : Nat) : Int) := by
  have := (c_irem x 10 10 (by decide)).1 (by omega)
  omega
theorem own_idiv10 (x : Int32) (n : Nat) (h : x.toInt = (n : Int)) : (x / (10 : Int32)).toInt = ((n / 10 : Nat) : Int) := by
  have := (c_idiv x 10 10 (by decide) (by decide)).1 (by omega)
  omega
theorem own_lrem10 (x : Int64) (n : Nat) (h : x.toInt = (n : Int)) : (x - (x / (10 : Int64)) * (10 : Int64)).toInt = ((n % 10 : Nat) : Int) := by
  have := (c_lrem x 10 10 (by decide)).1 (by omega)
  omega
theorem own_ldiv10 (x : Int64) (n : Nat) (h : x.toInt = (n : Int)) : (x / (10 : Int64)).toInt = ((n / 10 : Nat) : Int) := by
  have := (c_ldiv x 10 10 (by decide) (by decide)).1 (by omega)
  omega
theorem own_digI (x : Int32) (n : Nat) (h : x.toInt = (n : Int)) : nar .byte ((48 : Int32) + (x % (10 : Int32))).toInt8.toInt32 = own_ch n := by
  have h1 := own_irem10 x n h
  have c := c_iadd 48 (x % 10)
  have r := rng32 ((48 : Int32) + (x % (10 : Int32)))
  have e : (48 : Int32).toInt = 48 := by decide
  rw [e] at c
  exact own_ch_of _ n (by omega)
theorem own_digL (x : Int64) (n : Nat) (h : x.toInt = (n : Int)) : nar .byte ((48 : Int64) + (x - (x / (10 : Int64)) * (10 : Int64))).toInt32.toInt8.toInt32 = own_ch n := by
  have h1 := own_lrem10 x n h
  generalize (x - (x / (10 : Int64)) * (10 : Int64)) = y at *
  have c := c_ladd 48 y
  have r := rng64 ((48 : Int64) + y)
  have e : (48 : Int64).toInt = 48 := by decide
  rw [e] at c
  have c2 := c_l2i ((48 : Int64) + y)
  have r2 := rng32 ((48 : Int64) + y).toInt32
  exact own_ch_of _ n (by omega)
theorem own_dec1 (x : Int32) (k : Nat) (h : x.toInt = ((k + 1 : Nat) : Int)) : (x + (-1 : Int32)).toInt = (k : Int) := by
  have c := c_iadd x (-1)
  have r := rng32 (x + (-1 : Int32))
  have r2 := rng32 x
  have e : (-1 : Int32).toInt = -1 := by decide
  rw [e] at c
  omega
theorem own_inc1 (x : Int32) (k : Nat) (h : x.toInt = (k : Int)) (hk : k < 1000) : (x + (1 : Int32)).toInt = ((k + 1 : Nat) : Int) := by
  have c := c_iadd x 1
  have r := rng32 (x + (1 : Int32))
  have e : (1 : Int32).toInt = 1 := by decide
  rw [e] at c
  omega
theorem own_l2i (x : Int64) (n : Nat) (h : x.toInt = (n : Int)) (hn : n < 2147483648) : x.toInt32.toInt = (n : Int) := by
  have c := c_l2i x
  have r := rng32 x.toInt32
  omega
theorem own_pflt (dec : Int32) (i : Int32) (a b : Nat) (h1 : i.toInt = (a : Int)) (h2 : dec.toInt = (b : Int)) : i < dec ↔ a < b := by
  rw [Int32.lt_iff_toInt_lt]; omega
theorem own_end (at_ sg cnt dec : Int32) (ka ks kn kd : Nat) (h1 : at_.toInt = (ka : Int)) (h2 : sg.toInt = (ks : Int)) (h3 : cnt.toInt = (kn : Int)) (h4 : dec.toInt = (kd : Int)) (hb : ka + ks + kn + kd < 1000) : ((((at_ + sg) + cnt) + (1 : Int32)) + dec).toInt = ((ka + ks + kn + 1 + kd : Nat) : Int) := by
  have e : (1 : Int32).toInt = 1 := by decide
  have c1 := c_iadd at_ sg
  have r1 := rng32 (at_ + sg)
  have c2 := c_iadd (at_ + sg) cnt
  have r2 := rng32 ((at_ + sg) + cnt)
  have c3 := c_iadd ((at_ + sg) + cnt) 1
  have r3 := rng32 (((at_ + sg) + cnt) + 1)
  rw [e] at c3
  have c4 := c_iadd (((at_ + sg) + cnt) + 1) dec
  have r4 := rng32 ((((at_ + sg) + cnt) + 1) + dec)
  omega
theorem own_q1 {j kd : Nat} (h : j + 0 = kd) : j = kd := h
theorem own_q2 {j kd : Nat} (h : j = kd) : ¬ j < kd := by omega
theorem own_q3 {j r kd : Nat} (h : j + (r + 1) = kd) : j < kd := by omega
theorem own_q4 {j r kd dot len : Nat} (hl : dot + 1 + kd ≤ len) (h : j + (r + 1) = kd) : dot + 1 + r < len := by omega
theorem own_q5 {j r kd dot : Nat} (h : j + (r + 1) = kd) : dot + 1 + r + (j + 1) = dot + 1 + kd := by omega
theorem own_q6 {j r kd : Nat} (h : j + (r + 1) = kd) : j + 1 + r = kd := by omega
theorem own_q7 {j r kd dot len : Nat} (hl : dot + 1 + kd ≤ len) (h9 : len < 900) (h : j + (r + 1) = kd) : j < 1000 := by omega
theorem own_q8 {kd dot len : Nat} (hl : dot + 1 + kd ≤ len) : dot < len := by omega
theorem own_q9 {x : Int64} {N : Nat} (h : x.toInt = (N : Int)) (z : (2147483647 : Int64) < x) : 2147483647 < N := by
  have e0 : (2147483647 : Int64).toInt = 2147483647 := by decide
  rw [Int64.lt_iff_toInt_lt, e0] at z; omega
theorem own_q10 {dot j k U : Nat} (hd : dot = k + own_nd U) (h : j < own_nd U) : dot - j = dot - j - 1 + 1 := by omega
theorem own_q11 {dot j kd len : Nat} (hl : dot + 1 + kd ≤ len) : dot - j - 1 < len := by omega
theorem own_q12 {dot j k U : Nat} (hd : dot = k + own_nd U) (h : j < own_nd U) : dot - j - 1 + (j + 1) = dot := by omega
theorem own_q13 {N : Nat} (h : 2147483647 < N) : N / 10 < N := by omega
theorem own_q14 {N : Nat} (h : 2147483647 < N) : N / 10 ≠ 0 := by omega
theorem own_q15 {x : Int64} {N : Nat} (h : x.toInt = (N : Int)) (z : ¬ (2147483647 : Int64) < x) : N < 2147483648 := by
  have e0 : (2147483647 : Int64).toInt = 2147483647 := by decide
  rw [Int64.lt_iff_toInt_lt, e0] at z; omega
theorem own_q16 {x : Int32} {N : Nat} (h : x.toInt = (N : Int)) (z : (0 : Int32) < x) : N ≠ 0 := by
  have e0 : (0 : Int32).toInt = 0 := by decide
  rw [Int32.lt_iff_toInt_lt, e0] at z; omega
theorem own_q17 {x : Int32} {N : Nat} (h : x.toInt = (N : Int)) (z : ¬ (0 : Int32) < x) : N = 0 := by
  have e0 : (0 : Int32).toInt = 0 := by decide
  rw [Int32.lt_iff_toInt_lt, e0] at z; omega
theorem own_q18 {N : Nat} (h : N / 10 ≠ 0) : N / 10 < N := by omega
theorem own_q19 {dot ka ks u : Nat} (hd : dot = ka + ks + u) (h : ks = 1) : dot - u = ka + 1 := by omega
theorem own_q20 {dot ka ks u kd len : Nat} (hl : dot + 1 + kd ≤ len) (hd : dot = ka + ks + u) : ka < len := by omega
theorem own_d8_0 : decode prog_87_method_32_code 0 = .ok (.iconst 1, 1) := by decide +kernel
theorem own_d8_1 : decode prog_87_method_32_code 1 = .ok (.istore 8, 2) := by decide +kernel
theorem own_d8_3 : decode prog_87_method_32_code 3 = .ok (.lload_n 1, 1) := by decide +kernel
theorem own_d8_4 : decode prog_87_method_32_code 4 = .ok (.ldc2_w 251, 3) := by decide +kernel
theorem own_d8_7 : decode prog_87_method_32_code 7 = .ok (.ldiv, 1) := by decide +kernel
theorem own_d8_8 : decode prog_87_method_32_code 8 = .ok (.lstore 9, 2) := by decide +kernel
theorem own_d8_10 : decode prog_87_method_32_code 10 = .ok (.lload 9, 2) := by decide +kernel
theorem own_d8_12 : decode prog_87_method_32_code 12 = .ok (.lconst 0, 1) := by decide +kernel
theorem own_d8_13 : decode prog_87_method_32_code 13 = .ok (.lcmp, 1) := by decide +kernel
theorem own_d8_14 : decode prog_87_method_32_code 14 = .ok (.ifCond .le 17, 3) := by decide +kernel
theorem own_d8_17 : decode prog_87_method_32_code 17 = .ok (.iinc 8 1, 3) := by decide +kernel
theorem own_d8_20 : decode prog_87_method_32_code 20 = .ok (.lload 9, 2) := by decide +kernel
theorem own_d8_22 : decode prog_87_method_32_code 22 = .ok (.ldc2_w 251, 3) := by decide +kernel
theorem own_d8_25 : decode prog_87_method_32_code 25 = .ok (.ldiv, 1) := by decide +kernel
theorem own_d8_26 : decode prog_87_method_32_code 26 = .ok (.lstore 9, 2) := by decide +kernel
theorem own_d8_28 : decode prog_87_method_32_code 28 = .ok (.goto (-18), 3) := by decide +kernel
theorem own_d8_31 : decode prog_87_method_32_code 31 = .ok (.iload 7, 2) := by decide +kernel
theorem own_d8_33 : decode prog_87_method_32_code 33 = .ok (.iload_n 0, 1) := by decide +kernel
theorem own_d8_34 : decode prog_87_method_32_code 34 = .ok (.ifCond .eq 7, 3) := by decide +kernel
theorem own_d8_37 : decode prog_87_method_32_code 37 = .ok (.iconst 1, 1) := by decide +kernel
theorem own_d8_38 : decode prog_87_method_32_code 38 = .ok (.goto 4, 3) := by decide +kernel
theorem own_d8_41 : decode prog_87_method_32_code 41 = .ok (.iconst 0, 1) := by decide +kernel
theorem own_d8_42 : decode prog_87_method_32_code 42 = .ok (.iadd, 1) := by decide +kernel
theorem own_d8_43 : decode prog_87_method_32_code 43 = .ok (.iload 8, 2) := by decide +kernel
theorem own_d8_45 : decode prog_87_method_32_code 45 = .ok (.iadd, 1) := by decide +kernel
theorem own_d8_46 : decode prog_87_method_32_code 46 = .ok (.iconst 1, 1) := by decide +kernel
theorem own_d8_47 : decode prog_87_method_32_code 47 = .ok (.iadd, 1) := by decide +kernel
theorem own_d8_48 : decode prog_87_method_32_code 48 = .ok (.iload 5, 2) := by decide +kernel
theorem own_d8_50 : decode prog_87_method_32_code 50 = .ok (.iadd, 1) := by decide +kernel
theorem own_d8_51 : decode prog_87_method_32_code 51 = .ok (.istore 9, 2) := by decide +kernel
theorem own_d8_53 : decode prog_87_method_32_code 53 = .ok (.iload 9, 2) := by decide +kernel
theorem own_d8_55 : decode prog_87_method_32_code 55 = .ok (.istore 10, 2) := by decide +kernel
theorem own_d8_57 : decode prog_87_method_32_code 57 = .ok (.lload_n 3, 1) := by decide +kernel
theorem own_d8_58 : decode prog_87_method_32_code 58 = .ok (.l2i, 1) := by decide +kernel
theorem own_d8_59 : decode prog_87_method_32_code 59 = .ok (.istore 11, 2) := by decide +kernel
theorem own_d8_61 : decode prog_87_method_32_code 61 = .ok (.iconst 0, 1) := by decide +kernel
theorem own_d8_62 : decode prog_87_method_32_code 62 = .ok (.istore 12, 2) := by decide +kernel
theorem own_d8_64 : decode prog_87_method_32_code 64 = .ok (.iload 12, 2) := by decide +kernel
theorem own_d8_66 : decode prog_87_method_32_code 66 = .ok (.iload 5, 2) := by decide +kernel
theorem own_d8_68 : decode prog_87_method_32_code 68 = .ok (.if_icmp .ge 33, 3) := by decide +kernel
theorem own_d8_71 : decode prog_87_method_32_code 71 = .ok (.aload 6, 2) := by decide +kernel
theorem own_d8_73 : decode prog_87_method_32_code 73 = .ok (.iinc 10 (-1), 3) := by decide +kernel
theorem own_d8_76 : decode prog_87_method_32_code 76 = .ok (.iload 10, 2) := by decide +kernel
theorem own_d8_78 : decode prog_87_method_32_code 78 = .ok (.bipush 48, 2) := by decide +kernel
theorem own_d8_80 : decode prog_87_method_32_code 80 = .ok (.iload 11, 2) := by decide +kernel
theorem own_d8_82 : decode prog_87_method_32_code 82 = .ok (.bipush 10, 2) := by decide +kernel
theorem own_d8_84 : decode prog_87_method_32_code 84 = .ok (.irem, 1) := by decide +kernel
theorem own_d8_85 : decode prog_87_method_32_code 85 = .ok (.iadd, 1) := by decide +kernel
theorem own_d8_86 : decode prog_87_method_32_code 86 = .ok (.i2b, 1) := by decide +kernel
theorem own_d8_87 : decode prog_87_method_32_code 87 = .ok (.bastore, 1) := by decide +kernel
theorem own_d8_88 : decode prog_87_method_32_code 88 = .ok (.iload 11, 2) := by decide +kernel
theorem own_d8_90 : decode prog_87_method_32_code 90 = .ok (.bipush 10, 2) := by decide +kernel
theorem own_d8_92 : decode prog_87_method_32_code 92 = .ok (.idiv, 1) := by decide +kernel
theorem own_d8_93 : decode prog_87_method_32_code 93 = .ok (.istore 11, 2) := by decide +kernel
theorem own_d8_95 : decode prog_87_method_32_code 95 = .ok (.iinc 12 1, 3) := by decide +kernel
theorem own_d8_98 : decode prog_87_method_32_code 98 = .ok (.goto (-34), 3) := by decide +kernel
theorem own_d8_101 : decode prog_87_method_32_code 101 = .ok (.aload 6, 2) := by decide +kernel
theorem own_d8_103 : decode prog_87_method_32_code 103 = .ok (.iinc 10 (-1), 3) := by decide +kernel
theorem own_d8_106 : decode prog_87_method_32_code 106 = .ok (.iload 10, 2) := by decide +kernel
theorem own_d8_108 : decode prog_87_method_32_code 108 = .ok (.bipush 46, 2) := by decide +kernel
theorem own_d8_110 : decode prog_87_method_32_code 110 = .ok (.bastore, 1) := by decide +kernel
theorem own_d8_111 : decode prog_87_method_32_code 111 = .ok (.lload_n 1, 1) := by decide +kernel
theorem own_d8_112 : decode prog_87_method_32_code 112 = .ok (.lstore 12, 2) := by decide +kernel
theorem own_d8_114 : decode prog_87_method_32_code 114 = .ok (.lload 12, 2) := by decide +kernel
theorem own_d8_116 : decode prog_87_method_32_code 116 = .ok (.ldc2_w 255, 3) := by decide +kernel
theorem own_d8_119 : decode prog_87_method_32_code 119 = .ok (.lcmp, 1) := by decide +kernel
theorem own_d8_120 : decode prog_87_method_32_code 120 = .ok (.ifCond .le 34, 3) := by decide +kernel
theorem own_d8_123 : decode prog_87_method_32_code 123 = .ok (.aload 6, 2) := by decide +kernel
theorem own_d8_125 : decode prog_87_method_32_code 125 = .ok (.iinc 10 (-1), 3) := by decide +kernel
theorem own_d8_128 : decode prog_87_method_32_code 128 = .ok (.iload 10, 2) := by decide +kernel
theorem own_d8_130 : decode prog_87_method_32_code 130 = .ok (.ldc2_w 257, 3) := by decide +kernel
theorem own_d8_133 : decode prog_87_method_32_code 133 = .ok (.lload 12, 2) := by decide +kernel
theorem own_d8_135 : decode prog_87_method_32_code 135 = .ok (.ldc2_w 251, 3) := by decide +kernel
theorem own_d8_138 : decode prog_87_method_32_code 138 = .ok (.lrem, 1) := by decide +kernel
theorem own_d8_139 : decode prog_87_method_32_code 139 = .ok (.ladd, 1) := by decide +kernel
theorem own_d8_140 : decode prog_87_method_32_code 140 = .ok (.l2i, 1) := by decide +kernel
theorem own_d8_141 : decode prog_87_method_32_code 141 = .ok (.i2b, 1) := by decide +kernel
theorem own_d8_142 : decode prog_87_method_32_code 142 = .ok (.bastore, 1) := by decide +kernel
theorem own_d8_143 : decode prog_87_method_32_code 143 = .ok (.lload 12, 2) := by decide +kernel
theorem own_d8_145 : decode prog_87_method_32_code 145 = .ok (.ldc2_w 251, 3) := by decide +kernel
theorem own_d8_148 : decode prog_87_method_32_code 148 = .ok (.ldiv, 1) := by decide +kernel
theorem own_d8_149 : decode prog_87_method_32_code 149 = .ok (.lstore 12, 2) := by decide +kernel
theorem own_d8_151 : decode prog_87_method_32_code 151 = .ok (.goto (-37), 3) := by decide +kernel
theorem own_d8_154 : decode prog_87_method_32_code 154 = .ok (.lload 12, 2) := by decide +kernel
theorem own_d8_156 : decode prog_87_method_32_code 156 = .ok (.l2i, 1) := by decide +kernel
theorem own_d8_157 : decode prog_87_method_32_code 157 = .ok (.istore 14, 2) := by decide +kernel
theorem own_d8_159 : decode prog_87_method_32_code 159 = .ok (.aload 6, 2) := by decide +kernel
theorem own_d8_161 : decode prog_87_method_32_code 161 = .ok (.iinc 10 (-1), 3) := by decide +kernel
theorem own_d8_164 : decode prog_87_method_32_code 164 = .ok (.iload 10, 2) := by decide +kernel
theorem own_d8_166 : decode prog_87_method_32_code 166 = .ok (.bipush 48, 2) := by decide +kernel
theorem own_d8_168 : decode prog_87_method_32_code 168 = .ok (.iload 14, 2) := by decide +kernel
theorem own_d8_170 : decode prog_87_method_32_code 170 = .ok (.bipush 10, 2) := by decide +kernel
theorem own_d8_172 : decode prog_87_method_32_code 172 = .ok (.irem, 1) := by decide +kernel
theorem own_d8_173 : decode prog_87_method_32_code 173 = .ok (.iadd, 1) := by decide +kernel
theorem own_d8_174 : decode prog_87_method_32_code 174 = .ok (.i2b, 1) := by decide +kernel
theorem own_d8_175 : decode prog_87_method_32_code 175 = .ok (.bastore, 1) := by decide +kernel
theorem own_d8_176 : decode prog_87_method_32_code 176 = .ok (.iload 14, 2) := by decide +kernel
theorem own_d8_178 : decode prog_87_method_32_code 178 = .ok (.bipush 10, 2) := by decide +kernel
theorem own_d8_180 : decode prog_87_method_32_code 180 = .ok (.idiv, 1) := by decide +kernel
theorem own_d8_181 : decode prog_87_method_32_code 181 = .ok (.istore 14, 2) := by decide +kernel
theorem own_d8_183 : decode prog_87_method_32_code 183 = .ok (.iload 14, 2) := by decide +kernel
theorem own_d8_185 : decode prog_87_method_32_code 185 = .ok (.ifCond .gt (-26), 3) := by decide +kernel
theorem own_d8_188 : decode prog_87_method_32_code 188 = .ok (.iload_n 0, 1) := by decide +kernel
theorem own_d8_189 : decode prog_87_method_32_code 189 = .ok (.ifCond .eq 13, 3) := by decide +kernel
theorem own_d8_192 : decode prog_87_method_32_code 192 = .ok (.aload 6, 2) := by decide +kernel
theorem own_d8_194 : decode prog_87_method_32_code 194 = .ok (.iinc 10 (-1), 3) := by decide +kernel
theorem own_d8_197 : decode prog_87_method_32_code 197 = .ok (.iload 10, 2) := by decide +kernel
theorem own_d8_199 : decode prog_87_method_32_code 199 = .ok (.bipush 45, 2) := by decide +kernel
theorem own_d8_201 : decode prog_87_method_32_code 201 = .ok (.bastore, 1) := by decide +kernel
theorem own_d8_202 : decode prog_87_method_32_code 202 = .ok (.iload 9, 2) := by decide +kernel
theorem own_d8_204 : decode prog_87_method_32_code 204 = .ok (.ireturn, 1) := by decide +kernel
theorem own_pn0 : plainName "com/example/coverfold/coverfold/Rational" = true := by first | (simp [plainName, overriddenIn]; done) | decide +kernel
theorem own_efpf (m : MethodId) (neg : Int32) (un : Int64) (dg : Int64) (dec : Int32) (a : Nat) (at_ : Int32) : entryFrame m #[(.int neg), (.long un), (.long dg), (.int dec), (.ref a), (.int at_)] 15 = mkF m 0 #[iv neg, own_lv un, .second, own_lv dg, .second, iv dec, rv a, iv at_, .unset, .unset, .unset, .unset, .unset, .unset, .unset] [] := by first | (simp [entryFrame, mkF, argsToLocals, Value.category]; done) | rfl
set_option maxRecDepth 65536 in
set_option maxHeartbeats 40000000 in
theorem own_rmpf (l : Launch) (Z : State) (a0 : Array Value) (hw : ∀ d ∈ tables_1, d.before a0 Z = true) (neg : Int32) (un : Int64) (dg : Int64) (dec : Int32) (a : Nat) (at_ : Int32) (f : Nat → Int32) (len ka ks kd U D : Nat) (h0 : Heap) (n0 : Nat) (Z0 : n0 ≤ h0.size) (A : own_AI Z h0 a .byte len f) (g_a : n0 ≤ a) (hneg : (neg = 0 ∧ ks = 0) ∨ (neg = 1 ∧ ks = 1)) (hU : un.toInt = (U : Int)) (hD : dg.toInt = (D : Int)) (hdec : dec.toInt = (kd : Int)) (hat : at_.toInt = (ka : Int)) (hD9 : D < 2147483648) (hlen : ka + ks + own_nd U + 1 + kd ≤ len) (hlen9 : len < 900) :
    own_Ct l Z (⟨"com/example/coverfold/coverfold/Rational", "putFixed", "(ZJJI[BI)I"⟩ : MethodName) prog_87_method_32_code 15 (some .int) ({ frames := 0, cells := 0, slots := 0, locals := 0 } : Room) #[(.int neg), (.long un), (.long dg), (.int dec), (.ref a), (.int at_)] h0 (fun v h L => (∃ z : Int32, v = some (.int z) ∧ z.toInt = ((ka + ks + own_nd U + 1 + kd : Nat) : Int)) ∧ Fr n0 L ∧ Keep h0 h [a] ∧ own_AI Z h a .byte len (own_put f (decide (ks = 1)) ka U D kd)) := by
  refine own_body (y := (⟨"com/example/coverfold/coverfold/Rational", "putFixed", "(ZJJI[BI)I"⟩ : MethodName)) (Q := fun v h L => (∃ z : Int32, v = some (.int z) ∧ z.toInt = ((ka + ks + own_nd U + 1 + kd : Nat) : Int)) ∧ Fr n0 L ∧ Keep h0 h [a] ∧ own_AI Z h a .byte len (own_put f (decide (ks = 1)) ka U D kd)) (plainFor_of_name own_pn0) ?_
  intro p e s m below meth c s₁ Bd hml0 hZ e0
  have hx := Bd.exec
  have hby := Bd.bytes
  have hml : c.maxLocals = 15 := hml0
  have hown : s.vm.findClass "com/example/coverfold/coverfold/Rational" = some m.cls := findClass_of_methodNamed Bd.named
  have hnm := (name_of_methodNamed Bd.named Bd.method).1
  have X0 : Stand p l e ({ frames := 0, cells := 0, slots := 0, locals := 0 } : Room) s m #[(.int neg), (.long un), (.long dg), (.int dec), (.ref a), (.int at_)] below meth c s₁ [] 0 0 := Stand.of_body Bd
  have N0 := Fr.nil n0
  rw [own_efpf]
  have hU19 : U < 10000000000000000000 := by have := rng64 un; omega
  have A : own_AI Z h0 a .byte len f := A
  have K0 : Keep h0 h0 [a] := Keep.refl _ _
  obtain ⟨q0, hq0⟩ : ∃ z : Int64, z = (un / (10 : Int64)) := ⟨_, rfl⟩
  have sg1 : own_V p e below s₁ (mkF m 10 #[iv neg, own_lv un, .second, own_lv dg, .second, iv dec, rv a, iv at_, iv (1 : Int32), own_lv q0, .second, .unset, .unset, .unset, .unset] []) (mkF m 0 #[iv neg, own_lv un, .second, own_lv dg, .second, iv dec, rv a, iv at_, .unset, .unset, .unset, .unset, .unset, .unset, .unset] []) := by
    intro t kt
    refine XS.iconst X0.here hx rfl (hb hby own_d8_0) ?_
    show own_S p e below s₁ m 1 #[iv neg, own_lv un, .second, own_lv dg, .second, iv dec, rv a, iv at_, .unset, .unset, .unset, .unset, .unset, .unset, .unset] [(.int (1 : Int32))] _
    refine XS.istore X0.here hx rfl (hb hby own_d8_1) rfl (l' := #[iv neg, own_lv un, .second, own_lv dg, .second, iv dec, rv a, iv at_, iv (1 : Int32), .unset, .unset, .unset, .unset, .unset, .unset]) rfl ?_
    show own_S p e below s₁ m 3 #[iv neg, own_lv un, .second, own_lv dg, .second, iv dec, rv a, iv at_, iv (1 : Int32), .unset, .unset, .unset, .unset, .unset, .unset] [] _
    refine XS.lloadN X0.here hx rfl (hb hby own_d8_3) rfl ?_
    show own_S p e below s₁ m 4 #[iv neg, own_lv un, .second, own_lv dg, .second, iv dec, rv a, iv at_, iv (1 : Int32), .unset, .unset, .unset, .unset, .unset, .unset] [(.long un)] _
    refine X0.ldc2Long hx hown (mvT hZ (hw _ (List.mem_of_getElem? (i := 56) rfl))) (g := (mkF m 4 #[iv neg, own_lv un, .second, own_lv dg, .second, iv dec, rv a, iv at_, iv (1 : Int32), .unset, .unset, .unset, .unset, .unset, .unset] [(.long un)])) rfl (hb hby own_d8_4) _ ?_
    show own_S p e below s₁ m 7 #[iv neg, own_lv un, .second, own_lv dg, .second, iv dec, rv a, iv at_, iv (1 : Int32), .unset, .unset, .unset, .unset, .unset, .unset] [(.long (10 : Int64)), (.long un)] _
    refine XS.ldiv X0.here hx rfl (hb hby own_d8_7) rfl (by decide) ?_
    show own_S p e below s₁ m 8 #[iv neg, own_lv un, .second, own_lv dg, .second, iv dec, rv a, iv at_, iv (1 : Int32), .unset, .unset, .unset, .unset, .unset, .unset] [(.long (un / (10 : Int64)))] _
    refine XS.lstore X0.here hx rfl (hb hby own_d8_8) rfl (l' := #[iv neg, own_lv un, .second, own_lv dg, .second, iv dec, rv a, iv at_, iv (1 : Int32), own_lv (un / (10 : Int64)), .second, .unset, .unset, .unset, .unset]) rfl ?_
    show own_S p e below s₁ m 10 #[iv neg, own_lv un, .second, own_lv dg, .second, iv dec, rv a, iv at_, iv (1 : Int32), own_lv (un / (10 : Int64)), .second, .unset, .unset, .unset, .unset] [] _
    rw [hq0] at kt
    exact kt
  refine own_st sg1 ?_
  have loop1 : ∀ (N : Nat) (q : Int64) (cnt : Int32) (kc : Nat), q.toInt = (N : Int) → cnt.toInt = (kc : Int) → kc + own_nd0 N < 900 → own_Pk p e below (fun T' f' => ∃ (q' : Int64) (cnt' : Int32), f' = (mkF m 31 #[iv neg, own_lv un, .second, own_lv dg, .second, iv dec, rv a, iv at_, iv cnt', own_lv q', .second, .unset, .unset, .unset, .unset] []) ∧ s₁ = T' ∧ cnt'.toInt = ((kc + own_nd0 N : Nat) : Int)) s₁ (mkF m 10 #[iv neg, own_lv un, .second, own_lv dg, .second, iv dec, rv a, iv at_, iv cnt, own_lv q, .second, .unset, .unset, .unset, .unset] []) := by
    intro N
    induction N using Nat.strongRecOn with
    | ind N ih =>
      intro q cnt kc hq hcnt hb9
      have sg2 : own_V p e below s₁ (mkF m 14 #[iv neg, own_lv un, .second, own_lv dg, .second, iv dec, rv a, iv at_, iv cnt, own_lv q, .second, .unset, .unset, .unset, .unset] [(.int (lcmpW q (0 : Int64)))]) (mkF m 10 #[iv neg, own_lv un, .second, own_lv dg, .second, iv dec, rv a, iv at_, iv cnt, own_lv q, .second, .unset, .unset, .unset, .unset] []) := by
        intro t kt
        refine XS.lload X0.here hx rfl (hb hby own_d8_10) rfl ?_
        show own_S p e below s₁ m 12 #[iv neg, own_lv un, .second, own_lv dg, .second, iv dec, rv a, iv at_, iv cnt, own_lv q, .second, .unset, .unset, .unset, .unset] [(.long q)] _
        refine XS.lconst X0.here hx rfl (hb hby own_d8_12) ?_
        show own_S p e below s₁ m 13 #[iv neg, own_lv un, .second, own_lv dg, .second, iv dec, rv a, iv at_, iv cnt, own_lv q, .second, .unset, .unset, .unset, .unset] [(.long (0 : Int64)), (.long q)] _
        refine XS.lcmp X0.here hx rfl (hb hby own_d8_13) rfl ?_
        show own_S p e below s₁ m 14 #[iv neg, own_lv un, .second, own_lv dg, .second, iv dec, rv a, iv at_, iv cnt, own_lv q, .second, .unset, .unset, .unset, .unset] [(.int (lcmpW q (0 : Int64)))] _
        exact kt
      refine own_sp sg2 ?_
      by_cases hc3 : (0 : Int64) < q
      · skip
        have sg4 : own_V p e below s₁ (mkF m 17 #[iv neg, own_lv un, .second, own_lv dg, .second, iv dec, rv a, iv at_, iv cnt, own_lv q, .second, .unset, .unset, .unset, .unset] []) (mkF m 14 #[iv neg, own_lv un, .second, own_lv dg, .second, iv dec, rv a, iv at_, iv cnt, own_lv q, .second, .unset, .unset, .unset, .unset] [(.int (lcmpW q (0 : Int64)))]) := by
          intro t kt
          refine XS.ifNo X0.here hx rfl (hb hby own_d8_14) rfl (own_tgtL hc3).2 ?_
          exact kt
        refine own_sp sg4 ?_
        have hN : N ≠ 0 := by
          have e0 : (0 : Int64).toInt = 0 := by decide
          have z := hc3
          rw [Int64.lt_iff_toInt_lt, e0] at z; omega
        have hnd := own_nd0_pos N hN
        have sg5 : own_V p e below s₁ (mkF m 10 #[iv neg, own_lv un, .second, own_lv dg, .second, iv dec, rv a, iv at_, iv (cnt + (1 : Int32)), own_lv (q / (10 : Int64)), .second, .unset, .unset, .unset, .unset] []) (mkF m 17 #[iv neg, own_lv un, .second, own_lv dg, .second, iv dec, rv a, iv at_, iv cnt, own_lv q, .second, .unset, .unset, .unset, .unset] []) := by
          intro t kt
          refine XS.iinc X0.here hx rfl (hb hby own_d8_17) rfl (l' := #[iv neg, own_lv un, .second, own_lv dg, .second, iv dec, rv a, iv at_, iv (cnt + (1 : Int32)), own_lv q, .second, .unset, .unset, .unset, .unset]) rfl ?_
          show own_S p e below s₁ m 20 #[iv neg, own_lv un, .second, own_lv dg, .second, iv dec, rv a, iv at_, iv (cnt + (1 : Int32)), own_lv q, .second, .unset, .unset, .unset, .unset] [] _
          refine XS.lload X0.here hx rfl (hb hby own_d8_20) rfl ?_
          show own_S p e below s₁ m 22 #[iv neg, own_lv un, .second, own_lv dg, .second, iv dec, rv a, iv at_, iv (cnt + (1 : Int32)), own_lv q, .second, .unset, .unset, .unset, .unset] [(.long q)] _
          refine X0.ldc2Long hx hown (mvT hZ (hw _ (List.mem_of_getElem? (i := 56) rfl))) (g := (mkF m 22 #[iv neg, own_lv un, .second, own_lv dg, .second, iv dec, rv a, iv at_, iv (cnt + (1 : Int32)), own_lv q, .second, .unset, .unset, .unset, .unset] [(.long q)])) rfl (hb hby own_d8_22) _ ?_
          show own_S p e below s₁ m 25 #[iv neg, own_lv un, .second, own_lv dg, .second, iv dec, rv a, iv at_, iv (cnt + (1 : Int32)), own_lv q, .second, .unset, .unset, .unset, .unset] [(.long (10 : Int64)), (.long q)] _
          refine XS.ldiv X0.here hx rfl (hb hby own_d8_25) rfl (by decide) ?_
          show own_S p e below s₁ m 26 #[iv neg, own_lv un, .second, own_lv dg, .second, iv dec, rv a, iv at_, iv (cnt + (1 : Int32)), own_lv q, .second, .unset, .unset, .unset, .unset] [(.long (q / (10 : Int64)))] _
          refine XS.lstore X0.here hx rfl (hb hby own_d8_26) rfl (l' := #[iv neg, own_lv un, .second, own_lv dg, .second, iv dec, rv a, iv at_, iv (cnt + (1 : Int32)), own_lv (q / (10 : Int64)), .second, .unset, .unset, .unset, .unset]) rfl ?_
          show own_S p e below s₁ m 28 #[iv neg, own_lv un, .second, own_lv dg, .second, iv dec, rv a, iv at_, iv (cnt + (1 : Int32)), own_lv (q / (10 : Int64)), .second, .unset, .unset, .unset, .unset] [] _
          refine XS.goto X0.here hx rfl (pc0 := 28) (pc' := 10) rfl (hb hby own_d8_28) (by decide) (by decide) ?_
          show own_S p e below s₁ m 10 #[iv neg, own_lv un, .second, own_lv dg, .second, iv dec, rv a, iv at_, iv (cnt + (1 : Int32)), own_lv (q / (10 : Int64)), .second, .unset, .unset, .unset, .unset] [] _
          exact kt
        refine own_sp sg5 ?_
        exact own_pm (ih (N / 10) (by omega) (q / (10 : Int64)) (cnt + (1 : Int32)) (kc + 1) (own_ldiv10 q N hq) (own_inc1 cnt kc hcnt (by omega)) (by omega)) (fun T' f' z => by obtain ⟨q', cnt', z1, z2, z3⟩ := z; exact ⟨q', cnt', z1, z2, by rw [z3, hnd]; congr 1; omega⟩)
      have sg6 : own_V p e below s₁ (mkF m 31 #[iv neg, own_lv un, .second, own_lv dg, .second, iv dec, rv a, iv at_, iv cnt, own_lv q, .second, .unset, .unset, .unset, .unset] []) (mkF m 14 #[iv neg, own_lv un, .second, own_lv dg, .second, iv dec, rv a, iv at_, iv cnt, own_lv q, .second, .unset, .unset, .unset, .unset] [(.int (lcmpW q (0 : Int64)))]) := by
        intro t kt
        refine XS.ifYes X0.here hx rfl (pc0 := 14) (pc' := 31) rfl (hb hby own_d8_14) rfl (own_fgtL hc3).2 (by decide) (by decide) ?_
        exact kt
      refine own_sp sg6 ?_
      have hN : N = 0 := by
        have e0 : (0 : Int64).toInt = 0 := by decide
        have z := hc3
        rw [Int64.lt_iff_toInt_lt, e0] at z; omega
      exact ⟨s₁, _, ⟨q, cnt, rfl, rfl, by rw [hN, own_nd0_zero]; exact hcnt⟩, fun t k => k⟩
  have hq0' : q0.toInt = ((U / 10 : Nat) : Int) := by rw [hq0]; exact own_ldiv10 un U hU
  have hn0 := own_nd0_le U hU19
  obtain ⟨_, _, ⟨q1, cnt, rfl, rfl, hcnt⟩, st1⟩ := loop1 (U / 10) q0 (1 : Int32) 1 hq0' (by decide) (by omega)
  refine own_st st1 ?_
  show own_Go p e below _ s₁ (mkF m 31 #[iv neg, own_lv un, .second, own_lv dg, .second, iv dec, rv a, iv at_, iv cnt, own_lv q1, .second, .unset, .unset, .unset, .unset] [])
  have hcnt' : cnt.toInt = ((own_nd U : Nat) : Int) := by rw [hcnt]; unfold own_nd; congr 1; omega
  obtain ⟨sg, hsg⟩ : ∃ z : Int32, z = (if neg = (0 : Int32) then (0 : Int32) else (1 : Int32)) := ⟨_, rfl⟩
  have sg8 : own_V p e below s₁ (mkF m 42 #[iv neg, own_lv un, .second, own_lv dg, .second, iv dec, rv a, iv at_, iv cnt, own_lv q1, .second, .unset, .unset, .unset, .unset] [(.int sg), (.int at_)]) (mkF m 31 #[iv neg, own_lv un, .second, own_lv dg, .second, iv dec, rv a, iv at_, iv cnt, own_lv q1, .second, .unset, .unset, .unset, .unset] []) := by
    intro t kt
    refine XS.iload X0.here hx rfl (hb hby own_d8_31) rfl ?_
    show own_S p e below s₁ m 33 #[iv neg, own_lv un, .second, own_lv dg, .second, iv dec, rv a, iv at_, iv cnt, own_lv q1, .second, .unset, .unset, .unset, .unset] [(.int at_)] _
    refine XS.iloadN X0.here hx rfl (hb hby own_d8_33) rfl ?_
    show own_S p e below s₁ m 34 #[iv neg, own_lv un, .second, own_lv dg, .second, iv dec, rv a, iv at_, iv cnt, own_lv q1, .second, .unset, .unset, .unset, .unset] [(.int neg), (.int at_)] _
    by_cases hc7 : neg = (0 : Int32)
    · refine XS.ifYes X0.here hx rfl (pc0 := 34) (pc' := 41) rfl (hb hby own_d8_34) rfl ((if0 _ _).trans (teq hc7).1) (by decide) (by decide) ?_
      show own_S p e below s₁ m 41 #[iv neg, own_lv un, .second, own_lv dg, .second, iv dec, rv a, iv at_, iv cnt, own_lv q1, .second, .unset, .unset, .unset, .unset] [(.int at_)] _
      refine XS.iconst X0.here hx rfl (hb hby own_d8_41) ?_
      show own_S p e below s₁ m 42 #[iv neg, own_lv un, .second, own_lv dg, .second, iv dec, rv a, iv at_, iv cnt, own_lv q1, .second, .unset, .unset, .unset, .unset] [(.int (0 : Int32)), (.int at_)] _
      rw [show sg = (0 : Int32) from by rw [hsg, if_pos hc7]] at kt
      exact kt
    · refine XS.ifNo X0.here hx rfl (hb hby own_d8_34) rfl ((if0 _ _).trans (feq hc7).1) ?_
      show own_S p e below s₁ m 37 #[iv neg, own_lv un, .second, own_lv dg, .second, iv dec, rv a, iv at_, iv cnt, own_lv q1, .second, .unset, .unset, .unset, .unset] [(.int at_)] _
      refine XS.iconst X0.here hx rfl (hb hby own_d8_37) ?_
      show own_S p e below s₁ m 38 #[iv neg, own_lv un, .second, own_lv dg, .second, iv dec, rv a, iv at_, iv cnt, own_lv q1, .second, .unset, .unset, .unset, .unset] [(.int (1 : Int32)), (.int at_)] _
      refine XS.goto X0.here hx rfl (pc0 := 38) (pc' := 42) rfl (hb hby own_d8_38) (by decide) (by decide) ?_
      show own_S p e below s₁ m 42 #[iv neg, own_lv un, .second, own_lv dg, .second, iv dec, rv a, iv at_, iv cnt, own_lv q1, .second, .unset, .unset, .unset, .unset] [(.int (1 : Int32)), (.int at_)] _
      rw [show sg = (1 : Int32) from by rw [hsg, if_neg hc7]] at kt
      exact kt
  refine own_st sg8 ?_
  have hsg' : sg.toInt = (ks : Int) := by
    rcases hneg with ⟨z1, z2⟩ | ⟨z1, z2⟩
    · rw [hsg, if_pos z1, z2]; decide
    · rw [hsg, if_neg (by rw [z1]; decide), z2]; decide
  have hks1 : ks ≤ 1 := by rcases hneg with ⟨-, z2⟩ | ⟨-, z2⟩ <;> omega
  obtain ⟨en, hen⟩ : ∃ z : Int32, z = ((((at_ + sg) + cnt) + (1 : Int32)) + dec) := ⟨_, rfl⟩
  have sg9 : own_V p e below s₁ (mkF m 53 #[iv neg, own_lv un, .second, own_lv dg, .second, iv dec, rv a, iv at_, iv cnt, iv en, .unset, .unset, .unset, .unset, .unset] []) (mkF m 42 #[iv neg, own_lv un, .second, own_lv dg, .second, iv dec, rv a, iv at_, iv cnt, own_lv q1, .second, .unset, .unset, .unset, .unset] [(.int sg), (.int at_)]) := by
    intro t kt
    refine XS.iadd X0.here hx rfl (hb hby own_d8_42) rfl ?_
    show own_S p e below s₁ m 43 #[iv neg, own_lv un, .second, own_lv dg, .second, iv dec, rv a, iv at_, iv cnt, own_lv q1, .second, .unset, .unset, .unset, .unset] [(.int (at_ + sg))] _
    refine XS.iload X0.here hx rfl (hb hby own_d8_43) rfl ?_
    show own_S p e below s₁ m 45 #[iv neg, own_lv un, .second, own_lv dg, .second, iv dec, rv a, iv at_, iv cnt, own_lv q1, .second, .unset, .unset, .unset, .unset] [(.int cnt), (.int (at_ + sg))] _
    refine XS.iadd X0.here hx rfl (hb hby own_d8_45) rfl ?_
    show own_S p e below s₁ m 46 #[iv neg, own_lv un, .second, own_lv dg, .second, iv dec, rv a, iv at_, iv cnt, own_lv q1, .second, .unset, .unset, .unset, .unset] [(.int ((at_ + sg) + cnt))] _
    refine XS.iconst X0.here hx rfl (hb hby own_d8_46) ?_
    show own_S p e below s₁ m 47 #[iv neg, own_lv un, .second, own_lv dg, .second, iv dec, rv a, iv at_, iv cnt, own_lv q1, .second, .unset, .unset, .unset, .unset] [(.int (1 : Int32)), (.int ((at_ + sg) + cnt))] _
    refine XS.iadd X0.here hx rfl (hb hby own_d8_47) rfl ?_
    show own_S p e below s₁ m 48 #[iv neg, own_lv un, .second, own_lv dg, .second, iv dec, rv a, iv at_, iv cnt, own_lv q1, .second, .unset, .unset, .unset, .unset] [(.int (((at_ + sg) + cnt) + (1 : Int32)))] _
    refine XS.iload X0.here hx rfl (hb hby own_d8_48) rfl ?_
    show own_S p e below s₁ m 50 #[iv neg, own_lv un, .second, own_lv dg, .second, iv dec, rv a, iv at_, iv cnt, own_lv q1, .second, .unset, .unset, .unset, .unset] [(.int dec), (.int (((at_ + sg) + cnt) + (1 : Int32)))] _
    refine XS.iadd X0.here hx rfl (hb hby own_d8_50) rfl ?_
    show own_S p e below s₁ m 51 #[iv neg, own_lv un, .second, own_lv dg, .second, iv dec, rv a, iv at_, iv cnt, own_lv q1, .second, .unset, .unset, .unset, .unset] [(.int ((((at_ + sg) + cnt) + (1 : Int32)) + dec))] _
    refine XS.istore X0.here hx rfl (hb hby own_d8_51) rfl (l' := #[iv neg, own_lv un, .second, own_lv dg, .second, iv dec, rv a, iv at_, iv cnt, iv ((((at_ + sg) + cnt) + (1 : Int32)) + dec), .unset, .unset, .unset, .unset, .unset]) rfl ?_
    show own_S p e below s₁ m 53 #[iv neg, own_lv un, .second, own_lv dg, .second, iv dec, rv a, iv at_, iv cnt, iv ((((at_ + sg) + cnt) + (1 : Int32)) + dec), .unset, .unset, .unset, .unset, .unset] [] _
    rw [hen] at kt
    exact kt
  refine own_st sg9 ?_
  have sg10 : own_V p e below s₁ (mkF m 64 #[iv neg, own_lv un, .second, own_lv dg, .second, iv dec, rv a, iv at_, iv cnt, iv en, iv en, iv dg.toInt32, iv (0 : Int32), .unset, .unset] []) (mkF m 53 #[iv neg, own_lv un, .second, own_lv dg, .second, iv dec, rv a, iv at_, iv cnt, iv en, .unset, .unset, .unset, .unset, .unset] []) := by
    intro t kt
    refine XS.iload X0.here hx rfl (hb hby own_d8_53) rfl ?_
    show own_S p e below s₁ m 55 #[iv neg, own_lv un, .second, own_lv dg, .second, iv dec, rv a, iv at_, iv cnt, iv en, .unset, .unset, .unset, .unset, .unset] [(.int en)] _
    refine XS.istore X0.here hx rfl (hb hby own_d8_55) rfl (l' := #[iv neg, own_lv un, .second, own_lv dg, .second, iv dec, rv a, iv at_, iv cnt, iv en, iv en, .unset, .unset, .unset, .unset]) rfl ?_
    show own_S p e below s₁ m 57 #[iv neg, own_lv un, .second, own_lv dg, .second, iv dec, rv a, iv at_, iv cnt, iv en, iv en, .unset, .unset, .unset, .unset] [] _
    refine XS.lloadN X0.here hx rfl (hb hby own_d8_57) rfl ?_
    show own_S p e below s₁ m 58 #[iv neg, own_lv un, .second, own_lv dg, .second, iv dec, rv a, iv at_, iv cnt, iv en, iv en, .unset, .unset, .unset, .unset] [(.long dg)] _
    refine XS.l2i X0.here hx rfl (hb hby own_d8_58) rfl ?_
    show own_S p e below s₁ m 59 #[iv neg, own_lv un, .second, own_lv dg, .second, iv dec, rv a, iv at_, iv cnt, iv en, iv en, .unset, .unset, .unset, .unset] [(.int dg.toInt32)] _
    refine XS.istore X0.here hx rfl (hb hby own_d8_59) rfl (l' := #[iv neg, own_lv un, .second, own_lv dg, .second, iv dec, rv a, iv at_, iv cnt, iv en, iv en, iv dg.toInt32, .unset, .unset, .unset]) rfl ?_
    show own_S p e below s₁ m 61 #[iv neg, own_lv un, .second, own_lv dg, .second, iv dec, rv a, iv at_, iv cnt, iv en, iv en, iv dg.toInt32, .unset, .unset, .unset] [] _
    refine XS.iconst X0.here hx rfl (hb hby own_d8_61) ?_
    show own_S p e below s₁ m 62 #[iv neg, own_lv un, .second, own_lv dg, .second, iv dec, rv a, iv at_, iv cnt, iv en, iv en, iv dg.toInt32, .unset, .unset, .unset] [(.int (0 : Int32))] _
    refine XS.istore X0.here hx rfl (hb hby own_d8_62) rfl (l' := #[iv neg, own_lv un, .second, own_lv dg, .second, iv dec, rv a, iv at_, iv cnt, iv en, iv en, iv dg.toInt32, iv (0 : Int32), .unset, .unset]) rfl ?_
    show own_S p e below s₁ m 64 #[iv neg, own_lv un, .second, own_lv dg, .second, iv dec, rv a, iv at_, iv cnt, iv en, iv en, iv dg.toInt32, iv (0 : Int32), .unset, .unset] [] _
    exact kt
  refine own_st sg10 ?_
  have hen' : en.toInt = ((ka + ks + own_nd U + 1 + kd : Nat) : Int) := by rw [hen]; exact own_end at_ sg cnt dec ka ks (own_nd U) kd hat hsg' hcnt' hdec (by omega)
  obtain ⟨dot, hdot⟩ : ∃ z : Nat, z = ka + ks + own_nd U := ⟨_, rfl⟩
  rw [← hdot] at hen' hlen
  have hrem : dg.toInt32.toInt = (D : Int) := own_l2i dg D hD hD9
  obtain ⟨rem0, hrem0⟩ : ∃ z : Int32, z = dg.toInt32 := ⟨_, rfl⟩
  rw [← hrem0] at hrem
  rw [← hrem0]
  show own_Go p e below _ s₁ (mkF m 64 #[iv neg, own_lv un, .second, own_lv dg, .second, iv dec, rv a, iv at_, iv cnt, iv en, iv en, iv rem0, iv (0 : Int32), .unset, .unset] [])
  have loop2 : ∀ (r j : Nat) (T1 : State) (h1 : Heap) (l1 : List Loc) (pos rem i : Int32) (X1 : Stand p l e ({ frames := 0, cells := 0, slots := 0, locals := 0 } : Room) s m #[(.int neg), (.long un), (.long dg), (.int dec), (.ref a), (.int at_)] below meth c T1 l1 0 0) (e1 : T1.heap = h1) (N1 : Fr n0 l1) (Z1 : n0 ≤ h1.size) (K1 : Keep h0 h1 [a]) (A1 : own_AI Z h1 a .byte len (own_dig f (dot + 1 + kd) D j)), j + r = kd → i.toInt = (j : Int) → pos.toInt = ((dot + 1 + r : Nat) : Int) → rem.toInt = ((D / 10 ^ j : Nat) : Int) → own_Pk p e below (fun T' f' => ∃ (h' : Heap) (locs' : List Loc) (pos' rem' i' : Int32), f' = (mkF m 101 #[iv neg, own_lv un, .second, own_lv dg, .second, iv dec, rv a, iv at_, iv cnt, iv en, iv pos', iv rem', iv i', .unset, .unset] []) ∧ Stand p l e ({ frames := 0, cells := 0, slots := 0, locals := 0 } : Room) s m #[(.int neg), (.long un), (.long dg), (.int dec), (.ref a), (.int at_)] below meth c T' locs' 0 0 ∧ T'.heap = h' ∧ Fr n0 locs' ∧ n0 ≤ h'.size ∧ Keep h0 h' [a] ∧ own_AI Z h' a .byte len (own_dig f (dot + 1 + kd) D kd) ∧ pos'.toInt = ((dot + 1 : Nat) : Int)) T1 (mkF m 64 #[iv neg, own_lv un, .second, own_lv dg, .second, iv dec, rv a, iv at_, iv cnt, iv en, iv pos, iv rem, iv i, .unset, .unset] []) := by
    intro r
    induction r with
    | zero =>
      intro j T1 h1 l1 pos rem i X1 e1 N1 Z1 K1 A1 hjr hi hpos hrm
      have sg501 : own_V p e below T1 (mkF m 68 #[iv neg, own_lv un, .second, own_lv dg, .second, iv dec, rv a, iv at_, iv cnt, iv en, iv pos, iv rem, iv i, .unset, .unset] [(.int dec), (.int i)]) (mkF m 64 #[iv neg, own_lv un, .second, own_lv dg, .second, iv dec, rv a, iv at_, iv cnt, iv en, iv pos, iv rem, iv i, .unset, .unset] []) := by
        intro t kt
        refine XS.iload X1.here hx rfl (hb hby own_d8_64) rfl ?_
        show own_S p e below T1 m 66 #[iv neg, own_lv un, .second, own_lv dg, .second, iv dec, rv a, iv at_, iv cnt, iv en, iv pos, iv rem, iv i, .unset, .unset] [(.int i)] _
        refine XS.iload X1.here hx rfl (hb hby own_d8_66) rfl ?_
        show own_S p e below T1 m 68 #[iv neg, own_lv un, .second, own_lv dg, .second, iv dec, rv a, iv at_, iv cnt, iv en, iv pos, iv rem, iv i, .unset, .unset] [(.int dec), (.int i)] _
        exact kt
      refine own_sp sg501 ?_
      have hj : j = kd := own_q1 hjr
      have hc502 : ¬ i < dec := fun z => absurd ((own_pflt dec i j kd hi hdec).mp z) (own_q2 hj)
      have sg503 : own_V p e below T1 (mkF m 101 #[iv neg, own_lv un, .second, own_lv dg, .second, iv dec, rv a, iv at_, iv cnt, iv en, iv pos, iv rem, iv i, .unset, .unset] []) (mkF m 68 #[iv neg, own_lv un, .second, own_lv dg, .second, iv dec, rv a, iv at_, iv cnt, iv en, iv pos, iv rem, iv i, .unset, .unset] [(.int dec), (.int i)]) := by
        intro t kt
        refine XS.icmpYes X1.here hx rfl (pc0 := 68) (pc' := 101) rfl (hb hby own_d8_68) rfl (flt hc502).2.1 (by decide) (by decide) ?_
        exact kt
      refine own_sp sg503 ?_
      exact ⟨T1, _, ⟨h1, l1, pos, rem, i, rfl, X1, e1, N1, Z1, K1, by rw [hj] at A1; exact A1, hpos⟩, fun t k => k⟩
    | succ r ih =>
      intro j T1 h1 l1 pos rem i X1 e1 N1 Z1 K1 A1 hjr hi hpos hrm
      have sg504 : own_V p e below T1 (mkF m 68 #[iv neg, own_lv un, .second, own_lv dg, .second, iv dec, rv a, iv at_, iv cnt, iv en, iv pos, iv rem, iv i, .unset, .unset] [(.int dec), (.int i)]) (mkF m 64 #[iv neg, own_lv un, .second, own_lv dg, .second, iv dec, rv a, iv at_, iv cnt, iv en, iv pos, iv rem, iv i, .unset, .unset] []) := by
        intro t kt
        refine XS.iload X1.here hx rfl (hb hby own_d8_64) rfl ?_
        show own_S p e below T1 m 66 #[iv neg, own_lv un, .second, own_lv dg, .second, iv dec, rv a, iv at_, iv cnt, iv en, iv pos, iv rem, iv i, .unset, .unset] [(.int i)] _
        refine XS.iload X1.here hx rfl (hb hby own_d8_66) rfl ?_
        show own_S p e below T1 m 68 #[iv neg, own_lv un, .second, own_lv dg, .second, iv dec, rv a, iv at_, iv cnt, iv en, iv pos, iv rem, iv i, .unset, .unset] [(.int dec), (.int i)] _
        exact kt
      refine own_sp sg504 ?_
      have hc505 : i < dec := (own_pflt dec i j kd hi hdec).mpr (own_q3 hjr)
      have sg506 : own_V p e below T1 (mkF m 71 #[iv neg, own_lv un, .second, own_lv dg, .second, iv dec, rv a, iv at_, iv cnt, iv en, iv pos, iv rem, iv i, .unset, .unset] []) (mkF m 68 #[iv neg, own_lv un, .second, own_lv dg, .second, iv dec, rv a, iv at_, iv cnt, iv en, iv pos, iv rem, iv i, .unset, .unset] [(.int dec), (.int i)]) := by
        intro t kt
        refine XS.icmpNo X1.here hx rfl (hb hby own_d8_68) rfl (tlt hc505).2.1 ?_
        exact kt
      refine own_sp sg506 ?_
      have hp1 := own_dec1 pos (dot + 1 + r) hpos
      have sg507 : own_V p e below T1 (mkF m 87 #[iv neg, own_lv un, .second, own_lv dg, .second, iv dec, rv a, iv at_, iv cnt, iv en, iv (pos + (-1 : Int32)), iv rem, iv i, .unset, .unset] [(.int ((48 : Int32) + (rem % (10 : Int32))).toInt8.toInt32), (.int (pos + (-1 : Int32))), (.ref a)]) (mkF m 71 #[iv neg, own_lv un, .second, own_lv dg, .second, iv dec, rv a, iv at_, iv cnt, iv en, iv pos, iv rem, iv i, .unset, .unset] []) := by
        intro t kt
        refine XS.aload X1.here hx rfl (hb hby own_d8_71) rfl rfl ?_
        show own_S p e below T1 m 73 #[iv neg, own_lv un, .second, own_lv dg, .second, iv dec, rv a, iv at_, iv cnt, iv en, iv pos, iv rem, iv i, .unset, .unset] [(.ref a)] _
        refine XS.iinc X1.here hx rfl (hb hby own_d8_73) rfl (l' := #[iv neg, own_lv un, .second, own_lv dg, .second, iv dec, rv a, iv at_, iv cnt, iv en, iv (pos + (-1 : Int32)), iv rem, iv i, .unset, .unset]) rfl ?_
        show own_S p e below T1 m 76 #[iv neg, own_lv un, .second, own_lv dg, .second, iv dec, rv a, iv at_, iv cnt, iv en, iv (pos + (-1 : Int32)), iv rem, iv i, .unset, .unset] [(.ref a)] _
        refine XS.iload X1.here hx rfl (hb hby own_d8_76) rfl ?_
        show own_S p e below T1 m 78 #[iv neg, own_lv un, .second, own_lv dg, .second, iv dec, rv a, iv at_, iv cnt, iv en, iv (pos + (-1 : Int32)), iv rem, iv i, .unset, .unset] [(.int (pos + (-1 : Int32))), (.ref a)] _
        refine XS.bipush X1.here hx rfl (hb hby own_d8_78) ?_
        show own_S p e below T1 m 80 #[iv neg, own_lv un, .second, own_lv dg, .second, iv dec, rv a, iv at_, iv cnt, iv en, iv (pos + (-1 : Int32)), iv rem, iv i, .unset, .unset] [(.int (48 : Int32)), (.int (pos + (-1 : Int32))), (.ref a)] _
        refine XS.iload X1.here hx rfl (hb hby own_d8_80) rfl ?_
        show own_S p e below T1 m 82 #[iv neg, own_lv un, .second, own_lv dg, .second, iv dec, rv a, iv at_, iv cnt, iv en, iv (pos + (-1 : Int32)), iv rem, iv i, .unset, .unset] [(.int rem), (.int (48 : Int32)), (.int (pos + (-1 : Int32))), (.ref a)] _
        refine XS.bipush X1.here hx rfl (hb hby own_d8_82) ?_
        show own_S p e below T1 m 84 #[iv neg, own_lv un, .second, own_lv dg, .second, iv dec, rv a, iv at_, iv cnt, iv en, iv (pos + (-1 : Int32)), iv rem, iv i, .unset, .unset] [(.int (10 : Int32)), (.int rem), (.int (48 : Int32)), (.int (pos + (-1 : Int32))), (.ref a)] _
        refine own_irem X1.here hx rfl (hb hby own_d8_84) rfl (by decide) ?_
        show own_S p e below T1 m 85 #[iv neg, own_lv un, .second, own_lv dg, .second, iv dec, rv a, iv at_, iv cnt, iv en, iv (pos + (-1 : Int32)), iv rem, iv i, .unset, .unset] [(.int (rem % (10 : Int32))), (.int (48 : Int32)), (.int (pos + (-1 : Int32))), (.ref a)] _
        refine XS.iadd X1.here hx rfl (hb hby own_d8_85) rfl ?_
        show own_S p e below T1 m 86 #[iv neg, own_lv un, .second, own_lv dg, .second, iv dec, rv a, iv at_, iv cnt, iv en, iv (pos + (-1 : Int32)), iv rem, iv i, .unset, .unset] [(.int ((48 : Int32) + (rem % (10 : Int32)))), (.int (pos + (-1 : Int32))), (.ref a)] _
        refine XS.i2b X1.here hx rfl (hb hby own_d8_86) rfl ?_
        show own_S p e below T1 m 87 #[iv neg, own_lv un, .second, own_lv dg, .second, iv dec, rv a, iv at_, iv cnt, iv en, iv (pos + (-1 : Int32)), iv rem, iv i, .unset, .unset] [(.int ((48 : Int32) + (rem % (10 : Int32))).toInt8.toInt32), (.int (pos + (-1 : Int32))), (.ref a)] _
        exact kt
      refine own_sp sg507 ?_
      obtain ⟨T508, h508, X508, e508, W508, A508, st508⟩ := own_wrB X1 hx hZ e1 A1 (k := (dot + 1 + r)) hp1 (own_q4 hlen hjr) (g := (mkF m 87 #[iv neg, own_lv un, .second, own_lv dg, .second, iv dec, rv a, iv at_, iv cnt, iv en, iv (pos + (-1 : Int32)), iv rem, iv i, .unset, .unset] [(.int ((48 : Int32) + (rem % (10 : Int32))).toInt8.toInt32), (.int (pos + (-1 : Int32))), (.ref a)])) rfl rfl (hb hby own_d8_87)
      refine own_sp st508 ?_
      have Z508 : n0 ≤ h508.size := by rw [Wr.size W508]; exact Z1
      have N508 := Fr.snoc X508 N1 g_a
      show own_Pk p e below _ T508 (mkF m 88 #[iv neg, own_lv un, .second, own_lv dg, .second, iv dec, rv a, iv at_, iv cnt, iv en, iv (pos + (-1 : Int32)), iv rem, iv i, .unset, .unset] [])
      have A2 : own_AI Z h508 a .byte len (own_dig f (dot + 1 + kd) D (j + 1)) := A508.congr (fun i _ => own_dig_next f (dot + 1 + kd) D j (dot + 1 + r) _ (own_q5 hjr) (own_digI rem (D / 10 ^ j) hrm) i)
      have K2 : Keep h0 h508 [a] := K1.wr W508 (Or.inl (List.mem_of_getElem? (i := 0) rfl))
      have sg509 : own_V p e below T508 (mkF m 64 #[iv neg, own_lv un, .second, own_lv dg, .second, iv dec, rv a, iv at_, iv cnt, iv en, iv (pos + (-1 : Int32)), iv (rem / (10 : Int32)), iv (i + (1 : Int32)), .unset, .unset] []) (mkF m 88 #[iv neg, own_lv un, .second, own_lv dg, .second, iv dec, rv a, iv at_, iv cnt, iv en, iv (pos + (-1 : Int32)), iv rem, iv i, .unset, .unset] []) := by
        intro t kt
        refine XS.iload X508.here hx rfl (hb hby own_d8_88) rfl ?_
        show own_S p e below T508 m 90 #[iv neg, own_lv un, .second, own_lv dg, .second, iv dec, rv a, iv at_, iv cnt, iv en, iv (pos + (-1 : Int32)), iv rem, iv i, .unset, .unset] [(.int rem)] _
        refine XS.bipush X508.here hx rfl (hb hby own_d8_90) ?_
        show own_S p e below T508 m 92 #[iv neg, own_lv un, .second, own_lv dg, .second, iv dec, rv a, iv at_, iv cnt, iv en, iv (pos + (-1 : Int32)), iv rem, iv i, .unset, .unset] [(.int (10 : Int32)), (.int rem)] _
        refine XS.idiv X508.here hx rfl (hb hby own_d8_92) rfl (by decide) ?_
        show own_S p e below T508 m 93 #[iv neg, own_lv un, .second, own_lv dg, .second, iv dec, rv a, iv at_, iv cnt, iv en, iv (pos + (-1 : Int32)), iv rem, iv i, .unset, .unset] [(.int (rem / (10 : Int32)))] _
        refine XS.istore X508.here hx rfl (hb hby own_d8_93) rfl (l' := #[iv neg, own_lv un, .second, own_lv dg, .second, iv dec, rv a, iv at_, iv cnt, iv en, iv (pos + (-1 : Int32)), iv (rem / (10 : Int32)), iv i, .unset, .unset]) rfl ?_
        show own_S p e below T508 m 95 #[iv neg, own_lv un, .second, own_lv dg, .second, iv dec, rv a, iv at_, iv cnt, iv en, iv (pos + (-1 : Int32)), iv (rem / (10 : Int32)), iv i, .unset, .unset] [] _
        refine XS.iinc X508.here hx rfl (hb hby own_d8_95) rfl (l' := #[iv neg, own_lv un, .second, own_lv dg, .second, iv dec, rv a, iv at_, iv cnt, iv en, iv (pos + (-1 : Int32)), iv (rem / (10 : Int32)), iv (i + (1 : Int32)), .unset, .unset]) rfl ?_
        show own_S p e below T508 m 98 #[iv neg, own_lv un, .second, own_lv dg, .second, iv dec, rv a, iv at_, iv cnt, iv en, iv (pos + (-1 : Int32)), iv (rem / (10 : Int32)), iv (i + (1 : Int32)), .unset, .unset] [] _
        refine XS.goto X508.here hx rfl (pc0 := 98) (pc' := 64) rfl (hb hby own_d8_98) (by decide) (by decide) ?_
        show own_S p e below T508 m 64 #[iv neg, own_lv un, .second, own_lv dg, .second, iv dec, rv a, iv at_, iv cnt, iv en, iv (pos + (-1 : Int32)), iv (rem / (10 : Int32)), iv (i + (1 : Int32)), .unset, .unset] [] _
        exact kt
      refine own_sp sg509 ?_
      exact ih (j + 1) T508 _ _ (pos + (-1 : Int32)) (rem / (10 : Int32)) (i + (1 : Int32)) X508 e508 N508 Z508 K2 A2 (own_q6 hjr) (own_inc1 i j hi (own_q7 hlen hlen9 hjr)) hp1 (by rw [own_divdiv']; exact own_idiv10 rem _ hrm)
  obtain ⟨T2, _, ⟨h2, l2, pos2, rem2, i2, rfl, X2, e2, N2, Z2, K2, A2, hpos2⟩, st2⟩ := loop2 kd 0 s₁ h0 _ en rem0 (0 : Int32) X0 e0 N0 Z0 K0 (A.congr (fun i _ => (own_dig0 f (dot + 1 + kd) D i).symm)) (Nat.zero_add kd) (by decide) hen' (by rw [Nat.pow_zero, Nat.div_one]; exact hrem)
  refine own_st st2 ?_
  show own_Go p e below _ T2 (mkF m 101 #[iv neg, own_lv un, .second, own_lv dg, .second, iv dec, rv a, iv at_, iv cnt, iv en, iv pos2, iv rem2, iv i2, .unset, .unset] [])
  have hp2 := own_dec1 pos2 dot hpos2
  have sg701 : own_V p e below T2 (mkF m 110 #[iv neg, own_lv un, .second, own_lv dg, .second, iv dec, rv a, iv at_, iv cnt, iv en, iv (pos2 + (-1 : Int32)), iv rem2, iv i2, .unset, .unset] [(.int (46 : Int32)), (.int (pos2 + (-1 : Int32))), (.ref a)]) (mkF m 101 #[iv neg, own_lv un, .second, own_lv dg, .second, iv dec, rv a, iv at_, iv cnt, iv en, iv pos2, iv rem2, iv i2, .unset, .unset] []) := by
    intro t kt
    refine XS.aload X2.here hx rfl (hb hby own_d8_101) rfl rfl ?_
    show own_S p e below T2 m 103 #[iv neg, own_lv un, .second, own_lv dg, .second, iv dec, rv a, iv at_, iv cnt, iv en, iv pos2, iv rem2, iv i2, .unset, .unset] [(.ref a)] _
    refine XS.iinc X2.here hx rfl (hb hby own_d8_103) rfl (l' := #[iv neg, own_lv un, .second, own_lv dg, .second, iv dec, rv a, iv at_, iv cnt, iv en, iv (pos2 + (-1 : Int32)), iv rem2, iv i2, .unset, .unset]) rfl ?_
    show own_S p e below T2 m 106 #[iv neg, own_lv un, .second, own_lv dg, .second, iv dec, rv a, iv at_, iv cnt, iv en, iv (pos2 + (-1 : Int32)), iv rem2, iv i2, .unset, .unset] [(.ref a)] _
    refine XS.iload X2.here hx rfl (hb hby own_d8_106) rfl ?_
    show own_S p e below T2 m 108 #[iv neg, own_lv un, .second, own_lv dg, .second, iv dec, rv a, iv at_, iv cnt, iv en, iv (pos2 + (-1 : Int32)), iv rem2, iv i2, .unset, .unset] [(.int (pos2 + (-1 : Int32))), (.ref a)] _
    refine XS.bipush X2.here hx rfl (hb hby own_d8_108) ?_
    show own_S p e below T2 m 110 #[iv neg, own_lv un, .second, own_lv dg, .second, iv dec, rv a, iv at_, iv cnt, iv en, iv (pos2 + (-1 : Int32)), iv rem2, iv i2, .unset, .unset] [(.int (46 : Int32)), (.int (pos2 + (-1 : Int32))), (.ref a)] _
    exact kt
  refine own_st sg701 ?_
  obtain ⟨T702, h702, X702, e702, W702, A702, st702⟩ := own_wrB X2 hx hZ e2 A2 (k := dot) hp2 (own_q8 hlen) (g := (mkF m 110 #[iv neg, own_lv un, .second, own_lv dg, .second, iv dec, rv a, iv at_, iv cnt, iv en, iv (pos2 + (-1 : Int32)), iv rem2, iv i2, .unset, .unset] [(.int (46 : Int32)), (.int (pos2 + (-1 : Int32))), (.ref a)])) rfl rfl (hb hby own_d8_110)
  refine own_st st702 ?_
  have Z702 : n0 ≤ h702.size := by rw [Wr.size W702]; exact Z2
  have N702 := Fr.snoc X702 N2 g_a
  show own_Go p e below _ T702 (mkF m 111 #[iv neg, own_lv un, .second, own_lv dg, .second, iv dec, rv a, iv at_, iv cnt, iv en, iv (pos2 + (-1 : Int32)), iv rem2, iv i2, .unset, .unset] [])
  have K3 : Keep h0 h702 [a] := K2.wr W702 (Or.inl (List.mem_of_getElem? (i := 0) rfl))
  obtain ⟨g, hg⟩ : ∃ z : Nat → Int32, z = own_upd (own_dig f (dot + 1 + kd) D kd) dot 46 := ⟨_, rfl⟩
  have A3 : own_AI Z h702 a .byte len g := by rw [hg]; exact A702
  have sg703 : own_V p e below T702 (mkF m 114 #[iv neg, own_lv un, .second, own_lv dg, .second, iv dec, rv a, iv at_, iv cnt, iv en, iv (pos2 + (-1 : Int32)), iv rem2, own_lv un, .second, .unset] []) (mkF m 111 #[iv neg, own_lv un, .second, own_lv dg, .second, iv dec, rv a, iv at_, iv cnt, iv en, iv (pos2 + (-1 : Int32)), iv rem2, iv i2, .unset, .unset] []) := by
    intro t kt
    refine XS.lloadN X702.here hx rfl (hb hby own_d8_111) rfl ?_
    show own_S p e below T702 m 112 #[iv neg, own_lv un, .second, own_lv dg, .second, iv dec, rv a, iv at_, iv cnt, iv en, iv (pos2 + (-1 : Int32)), iv rem2, iv i2, .unset, .unset] [(.long un)] _
    refine XS.lstore X702.here hx rfl (hb hby own_d8_112) rfl (l' := #[iv neg, own_lv un, .second, own_lv dg, .second, iv dec, rv a, iv at_, iv cnt, iv en, iv (pos2 + (-1 : Int32)), iv rem2, own_lv un, .second, .unset]) rfl ?_
    show own_S p e below T702 m 114 #[iv neg, own_lv un, .second, own_lv dg, .second, iv dec, rv a, iv at_, iv cnt, iv en, iv (pos2 + (-1 : Int32)), iv rem2, own_lv un, .second, .unset] [] _
    exact kt
  refine own_st sg703 ?_
  obtain ⟨pos3, hpos3⟩ : ∃ z : Int32, z = (pos2 + (-1 : Int32)) := ⟨_, rfl⟩
  rw [← hpos3] at hp2
  rw [← hpos3]
  show own_Go p e below _ T702 (mkF m 114 #[iv neg, own_lv un, .second, own_lv dg, .second, iv dec, rv a, iv at_, iv cnt, iv en, iv pos3, iv rem2, own_lv un, .second, .unset] [])
  have loop3 : ∀ (N j : Nat) (T1 : State) (h1 : Heap) (l1 : List Loc) (pos : Int32) (rest : Int64) (X1 : Stand p l e ({ frames := 0, cells := 0, slots := 0, locals := 0 } : Room) s m #[(.int neg), (.long un), (.long dg), (.int dec), (.ref a), (.int at_)] below meth c T1 l1 0 0) (e1 : T1.heap = h1) (N1 : Fr n0 l1) (Z1 : n0 ≤ h1.size) (K1 : Keep h0 h1 [a]) (A1 : own_AI Z h1 a .byte len (own_dig g dot U j)), N = U / 10 ^ j → (j = 0 ∨ N ≠ 0) → pos.toInt = ((dot - j : Nat) : Int) → rest.toInt = (N : Int) → own_Pk p e below (fun T' f' => ∃ (h' : Heap) (locs' : List Loc) (pos' : Int32) (rest' : Int64) (j' : Nat), f' = (mkF m 154 #[iv neg, own_lv un, .second, own_lv dg, .second, iv dec, rv a, iv at_, iv cnt, iv en, iv pos', iv rem2, own_lv rest', .second, .unset] []) ∧ Stand p l e ({ frames := 0, cells := 0, slots := 0, locals := 0 } : Room) s m #[(.int neg), (.long un), (.long dg), (.int dec), (.ref a), (.int at_)] below meth c T' locs' 0 0 ∧ T'.heap = h' ∧ Fr n0 locs' ∧ n0 ≤ h'.size ∧ Keep h0 h' [a] ∧ own_AI Z h' a .byte len (own_dig g dot U j') ∧ j' < own_nd U ∧ pos'.toInt = ((dot - j' : Nat) : Int) ∧ rest'.toInt = ((U / 10 ^ j' : Nat) : Int) ∧ U / 10 ^ j' < 2147483648) T1 (mkF m 114 #[iv neg, own_lv un, .second, own_lv dg, .second, iv dec, rv a, iv at_, iv cnt, iv en, iv pos, iv rem2, own_lv rest, .second, .unset] []) := by
    intro N
    induction N using Nat.strongRecOn with
    | ind N ih =>
      intro j T1 h1 l1 pos rest X1 e1 N1 Z1 K1 A1 hN hj hpos hrest
      have hjl : j < own_nd U := own_nd_lt j U (by rw [← hN]; exact hj)
      have sg901 : own_V p e below T1 (mkF m 120 #[iv neg, own_lv un, .second, own_lv dg, .second, iv dec, rv a, iv at_, iv cnt, iv en, iv pos, iv rem2, own_lv rest, .second, .unset] [(.int (lcmpW rest (2147483647 : Int64)))]) (mkF m 114 #[iv neg, own_lv un, .second, own_lv dg, .second, iv dec, rv a, iv at_, iv cnt, iv en, iv pos, iv rem2, own_lv rest, .second, .unset] []) := by
        intro t kt
        refine XS.lload X1.here hx rfl (hb hby own_d8_114) rfl ?_
        show own_S p e below T1 m 116 #[iv neg, own_lv un, .second, own_lv dg, .second, iv dec, rv a, iv at_, iv cnt, iv en, iv pos, iv rem2, own_lv rest, .second, .unset] [(.long rest)] _
        refine X1.ldc2Long hx hown (mvT hZ (hw _ (List.mem_of_getElem? (i := 57) rfl))) (g := (mkF m 116 #[iv neg, own_lv un, .second, own_lv dg, .second, iv dec, rv a, iv at_, iv cnt, iv en, iv pos, iv rem2, own_lv rest, .second, .unset] [(.long rest)])) rfl (hb hby own_d8_116) _ ?_
        show own_S p e below T1 m 119 #[iv neg, own_lv un, .second, own_lv dg, .second, iv dec, rv a, iv at_, iv cnt, iv en, iv pos, iv rem2, own_lv rest, .second, .unset] [(.long (2147483647 : Int64)), (.long rest)] _
        refine XS.lcmp X1.here hx rfl (hb hby own_d8_119) rfl ?_
        show own_S p e below T1 m 120 #[iv neg, own_lv un, .second, own_lv dg, .second, iv dec, rv a, iv at_, iv cnt, iv en, iv pos, iv rem2, own_lv rest, .second, .unset] [(.int (lcmpW rest (2147483647 : Int64)))] _
        exact kt
      refine own_sp sg901 ?_
      by_cases hc902 : (2147483647 : Int64) < rest
      · skip
        have sg903 : own_V p e below T1 (mkF m 123 #[iv neg, own_lv un, .second, own_lv dg, .second, iv dec, rv a, iv at_, iv cnt, iv en, iv pos, iv rem2, own_lv rest, .second, .unset] []) (mkF m 120 #[iv neg, own_lv un, .second, own_lv dg, .second, iv dec, rv a, iv at_, iv cnt, iv en, iv pos, iv rem2, own_lv rest, .second, .unset] [(.int (lcmpW rest (2147483647 : Int64)))]) := by
          intro t kt
          refine XS.ifNo X1.here hx rfl (hb hby own_d8_120) rfl (own_tgtL hc902).2 ?_
          exact kt
        refine own_sp sg903 ?_
        have hbig : 2147483647 < N := own_q9 hrest hc902
        have hp1 := own_dec1 pos (dot - j - 1) (by rw [hpos]; exact congrArg Int.ofNat (own_q10 hdot hjl))
        have sg904 : own_V p e below T1 (mkF m 142 #[iv neg, own_lv un, .second, own_lv dg, .second, iv dec, rv a, iv at_, iv cnt, iv en, iv (pos + (-1 : Int32)), iv rem2, own_lv rest, .second, .unset] [(.int ((48 : Int64) + (rest - (rest / (10 : Int64)) * (10 : Int64))).toInt32.toInt8.toInt32), (.int (pos + (-1 : Int32))), (.ref a)]) (mkF m 123 #[iv neg, own_lv un, .second, own_lv dg, .second, iv dec, rv a, iv at_, iv cnt, iv en, iv pos, iv rem2, own_lv rest, .second, .unset] []) := by
          intro t kt
          refine XS.aload X1.here hx rfl (hb hby own_d8_123) rfl rfl ?_
          show own_S p e below T1 m 125 #[iv neg, own_lv un, .second, own_lv dg, .second, iv dec, rv a, iv at_, iv cnt, iv en, iv pos, iv rem2, own_lv rest, .second, .unset] [(.ref a)] _
          refine XS.iinc X1.here hx rfl (hb hby own_d8_125) rfl (l' := #[iv neg, own_lv un, .second, own_lv dg, .second, iv dec, rv a, iv at_, iv cnt, iv en, iv (pos + (-1 : Int32)), iv rem2, own_lv rest, .second, .unset]) rfl ?_
          show own_S p e below T1 m 128 #[iv neg, own_lv un, .second, own_lv dg, .second, iv dec, rv a, iv at_, iv cnt, iv en, iv (pos + (-1 : Int32)), iv rem2, own_lv rest, .second, .unset] [(.ref a)] _
          refine XS.iload X1.here hx rfl (hb hby own_d8_128) rfl ?_
          show own_S p e below T1 m 130 #[iv neg, own_lv un, .second, own_lv dg, .second, iv dec, rv a, iv at_, iv cnt, iv en, iv (pos + (-1 : Int32)), iv rem2, own_lv rest, .second, .unset] [(.int (pos + (-1 : Int32))), (.ref a)] _
          refine X1.ldc2Long hx hown (mvT hZ (hw _ (List.mem_of_getElem? (i := 64) rfl))) (g := (mkF m 130 #[iv neg, own_lv un, .second, own_lv dg, .second, iv dec, rv a, iv at_, iv cnt, iv en, iv (pos + (-1 : Int32)), iv rem2, own_lv rest, .second, .unset] [(.int (pos + (-1 : Int32))), (.ref a)])) rfl (hb hby own_d8_130) _ ?_
          show own_S p e below T1 m 133 #[iv neg, own_lv un, .second, own_lv dg, .second, iv dec, rv a, iv at_, iv cnt, iv en, iv (pos + (-1 : Int32)), iv rem2, own_lv rest, .second, .unset] [(.long (48 : Int64)), (.int (pos + (-1 : Int32))), (.ref a)] _
          refine XS.lload X1.here hx rfl (hb hby own_d8_133) rfl ?_
          show own_S p e below T1 m 135 #[iv neg, own_lv un, .second, own_lv dg, .second, iv dec, rv a, iv at_, iv cnt, iv en, iv (pos + (-1 : Int32)), iv rem2, own_lv rest, .second, .unset] [(.long rest), (.long (48 : Int64)), (.int (pos + (-1 : Int32))), (.ref a)] _
          refine X1.ldc2Long hx hown (mvT hZ (hw _ (List.mem_of_getElem? (i := 56) rfl))) (g := (mkF m 135 #[iv neg, own_lv un, .second, own_lv dg, .second, iv dec, rv a, iv at_, iv cnt, iv en, iv (pos + (-1 : Int32)), iv rem2, own_lv rest, .second, .unset] [(.long rest), (.long (48 : Int64)), (.int (pos + (-1 : Int32))), (.ref a)])) rfl (hb hby own_d8_135) _ ?_
          show own_S p e below T1 m 138 #[iv neg, own_lv un, .second, own_lv dg, .second, iv dec, rv a, iv at_, iv cnt, iv en, iv (pos + (-1 : Int32)), iv rem2, own_lv rest, .second, .unset] [(.long (10 : Int64)), (.long rest), (.long (48 : Int64)), (.int (pos + (-1 : Int32))), (.ref a)] _
          refine XS.lrem X1.here hx rfl (hb hby own_d8_138) rfl (by decide) ?_
          show own_S p e below T1 m 139 #[iv neg, own_lv un, .second, own_lv dg, .second, iv dec, rv a, iv at_, iv cnt, iv en, iv (pos + (-1 : Int32)), iv rem2, own_lv rest, .second, .unset] [(.long (rest - (rest / (10 : Int64)) * (10 : Int64))), (.long (48 : Int64)), (.int (pos + (-1 : Int32))), (.ref a)] _
          refine XS.ladd X1.here hx rfl (hb hby own_d8_139) rfl ?_
          show own_S p e below T1 m 140 #[iv neg, own_lv un, .second, own_lv dg, .second, iv dec, rv a, iv at_, iv cnt, iv en, iv (pos + (-1 : Int32)), iv rem2, own_lv rest, .second, .unset] [(.long ((48 : Int64) + (rest - (rest / (10 : Int64)) * (10 : Int64)))), (.int (pos + (-1 : Int32))), (.ref a)] _
          refine XS.l2i X1.here hx rfl (hb hby own_d8_140) rfl ?_
          show own_S p e below T1 m 141 #[iv neg, own_lv un, .second, own_lv dg, .second, iv dec, rv a, iv at_, iv cnt, iv en, iv (pos + (-1 : Int32)), iv rem2, own_lv rest, .second, .unset] [(.int ((48 : Int64) + (rest - (rest / (10 : Int64)) * (10 : Int64))).toInt32), (.int (pos + (-1 : Int32))), (.ref a)] _
          refine XS.i2b X1.here hx rfl (hb hby own_d8_141) rfl ?_
          show own_S p e below T1 m 142 #[iv neg, own_lv un, .second, own_lv dg, .second, iv dec, rv a, iv at_, iv cnt, iv en, iv (pos + (-1 : Int32)), iv rem2, own_lv rest, .second, .unset] [(.int ((48 : Int64) + (rest - (rest / (10 : Int64)) * (10 : Int64))).toInt32.toInt8.toInt32), (.int (pos + (-1 : Int32))), (.ref a)] _
          exact kt
        refine own_sp sg904 ?_
        obtain ⟨T905, h905, X905, e905, W905, A905, st905⟩ := own_wrB X1 hx hZ e1 A1 (k := (dot - j - 1)) hp1 (own_q11 hlen) (g := (mkF m 142 #[iv neg, own_lv un, .second, own_lv dg, .second, iv dec, rv a, iv at_, iv cnt, iv en, iv (pos + (-1 : Int32)), iv rem2, own_lv rest, .second, .unset] [(.int ((48 : Int64) + (rest - (rest / (10 : Int64)) * (10 : Int64))).toInt32.toInt8.toInt32), (.int (pos + (-1 : Int32))), (.ref a)])) rfl rfl (hb hby own_d8_142)
        refine own_sp st905 ?_
        have Z905 : n0 ≤ h905.size := by rw [Wr.size W905]; exact Z1
        have N905 := Fr.snoc X905 N1 g_a
        show own_Pk p e below _ T905 (mkF m 143 #[iv neg, own_lv un, .second, own_lv dg, .second, iv dec, rv a, iv at_, iv cnt, iv en, iv (pos + (-1 : Int32)), iv rem2, own_lv rest, .second, .unset] [])
        have A2 : own_AI Z h905 a .byte len (own_dig g dot U (j + 1)) := A905.congr (fun i _ => own_dig_next g dot U j (dot - j - 1) _ (own_q12 hdot hjl) (by rw [← hN]; exact own_digL rest N hrest) i)
        have K2 : Keep h0 h905 [a] := K1.wr W905 (Or.inl (List.mem_of_getElem? (i := 0) rfl))
        have sg906 : own_V p e below T905 (mkF m 114 #[iv neg, own_lv un, .second, own_lv dg, .second, iv dec, rv a, iv at_, iv cnt, iv en, iv (pos + (-1 : Int32)), iv rem2, own_lv (rest / (10 : Int64)), .second, .unset] []) (mkF m 143 #[iv neg, own_lv un, .second, own_lv dg, .second, iv dec, rv a, iv at_, iv cnt, iv en, iv (pos + (-1 : Int32)), iv rem2, own_lv rest, .second, .unset] []) := by
          intro t kt
          refine XS.lload X905.here hx rfl (hb hby own_d8_143) rfl ?_
          show own_S p e below T905 m 145 #[iv neg, own_lv un, .second, own_lv dg, .second, iv dec, rv a, iv at_, iv cnt, iv en, iv (pos + (-1 : Int32)), iv rem2, own_lv rest, .second, .unset] [(.long rest)] _
          refine X905.ldc2Long hx hown (mvT hZ (hw _ (List.mem_of_getElem? (i := 56) rfl))) (g := (mkF m 145 #[iv neg, own_lv un, .second, own_lv dg, .second, iv dec, rv a, iv at_, iv cnt, iv en, iv (pos + (-1 : Int32)), iv rem2, own_lv rest, .second, .unset] [(.long rest)])) rfl (hb hby own_d8_145) _ ?_
          show own_S p e below T905 m 148 #[iv neg, own_lv un, .second, own_lv dg, .second, iv dec, rv a, iv at_, iv cnt, iv en, iv (pos + (-1 : Int32)), iv rem2, own_lv rest, .second, .unset] [(.long (10 : Int64)), (.long rest)] _
          refine XS.ldiv X905.here hx rfl (hb hby own_d8_148) rfl (by decide) ?_
          show own_S p e below T905 m 149 #[iv neg, own_lv un, .second, own_lv dg, .second, iv dec, rv a, iv at_, iv cnt, iv en, iv (pos + (-1 : Int32)), iv rem2, own_lv rest, .second, .unset] [(.long (rest / (10 : Int64)))] _
          refine XS.lstore X905.here hx rfl (hb hby own_d8_149) rfl (l' := #[iv neg, own_lv un, .second, own_lv dg, .second, iv dec, rv a, iv at_, iv cnt, iv en, iv (pos + (-1 : Int32)), iv rem2, own_lv (rest / (10 : Int64)), .second, .unset]) rfl ?_
          show own_S p e below T905 m 151 #[iv neg, own_lv un, .second, own_lv dg, .second, iv dec, rv a, iv at_, iv cnt, iv en, iv (pos + (-1 : Int32)), iv rem2, own_lv (rest / (10 : Int64)), .second, .unset] [] _
          refine XS.goto X905.here hx rfl (pc0 := 151) (pc' := 114) rfl (hb hby own_d8_151) (by decide) (by decide) ?_
          show own_S p e below T905 m 114 #[iv neg, own_lv un, .second, own_lv dg, .second, iv dec, rv a, iv at_, iv cnt, iv en, iv (pos + (-1 : Int32)), iv rem2, own_lv (rest / (10 : Int64)), .second, .unset] [] _
          exact kt
        refine own_sp sg906 ?_
        exact ih (N / 10) (own_q13 hbig) (j + 1) T905 _ _ (pos + (-1 : Int32)) (rest / (10 : Int64)) X905 e905 N905 Z905 K2 A2 (by rw [hN, own_divdiv']) (Or.inr (own_q14 hbig)) (by rw [hp1, Nat.sub_sub]) (own_ldiv10 rest N hrest)
      have sg907 : own_V p e below T1 (mkF m 154 #[iv neg, own_lv un, .second, own_lv dg, .second, iv dec, rv a, iv at_, iv cnt, iv en, iv pos, iv rem2, own_lv rest, .second, .unset] []) (mkF m 120 #[iv neg, own_lv un, .second, own_lv dg, .second, iv dec, rv a, iv at_, iv cnt, iv en, iv pos, iv rem2, own_lv rest, .second, .unset] [(.int (lcmpW rest (2147483647 : Int64)))]) := by
        intro t kt
        refine XS.ifYes X1.here hx rfl (pc0 := 120) (pc' := 154) rfl (hb hby own_d8_120) rfl (own_fgtL hc902).2 (by decide) (by decide) ?_
        exact kt
      refine own_sp sg907 ?_
      have hsm : N < 2147483648 := own_q15 hrest hc902
      exact ⟨T1, _, ⟨h1, l1, pos, rest, j, rfl, X1, e1, N1, Z1, K1, A1, hjl, hpos, by rw [← hN]; exact hrest, by rw [← hN]; exact hsm⟩, fun t k => k⟩
  obtain ⟨T4, _, ⟨h4, l4, pos4, rest4, j4, rfl, X4, e4, N4, Z4, K4, A4, hj4, hpos4, hrest4, hsm4⟩, st4⟩ := loop3 U 0 T702 h702 _ pos3 un X702 e702 N702 Z702 K3 (A3.congr (fun i _ => (own_dig0 g dot U i).symm)) (by rw [Nat.pow_zero, Nat.div_one]) (Or.inl rfl) hp2 hU
  refine own_st st4 ?_
  show own_Go p e below _ T4 (mkF m 154 #[iv neg, own_lv un, .second, own_lv dg, .second, iv dec, rv a, iv at_, iv cnt, iv en, iv pos4, iv rem2, own_lv rest4, .second, .unset] [])
  obtain ⟨low4, hlow4⟩ : ∃ z : Int32, z = rest4.toInt32 := ⟨_, rfl⟩
  have sg1101 : own_V p e below T4 (mkF m 159 #[iv neg, own_lv un, .second, own_lv dg, .second, iv dec, rv a, iv at_, iv cnt, iv en, iv pos4, iv rem2, own_lv rest4, .second, iv low4] []) (mkF m 154 #[iv neg, own_lv un, .second, own_lv dg, .second, iv dec, rv a, iv at_, iv cnt, iv en, iv pos4, iv rem2, own_lv rest4, .second, .unset] []) := by
    intro t kt
    refine XS.lload X4.here hx rfl (hb hby own_d8_154) rfl ?_
    show own_S p e below T4 m 156 #[iv neg, own_lv un, .second, own_lv dg, .second, iv dec, rv a, iv at_, iv cnt, iv en, iv pos4, iv rem2, own_lv rest4, .second, .unset] [(.long rest4)] _
    refine XS.l2i X4.here hx rfl (hb hby own_d8_156) rfl ?_
    show own_S p e below T4 m 157 #[iv neg, own_lv un, .second, own_lv dg, .second, iv dec, rv a, iv at_, iv cnt, iv en, iv pos4, iv rem2, own_lv rest4, .second, .unset] [(.int rest4.toInt32)] _
    refine XS.istore X4.here hx rfl (hb hby own_d8_157) rfl (l' := #[iv neg, own_lv un, .second, own_lv dg, .second, iv dec, rv a, iv at_, iv cnt, iv en, iv pos4, iv rem2, own_lv rest4, .second, iv rest4.toInt32]) rfl ?_
    show own_S p e below T4 m 159 #[iv neg, own_lv un, .second, own_lv dg, .second, iv dec, rv a, iv at_, iv cnt, iv en, iv pos4, iv rem2, own_lv rest4, .second, iv rest4.toInt32] [] _
    rw [hlow4] at kt
    exact kt
  refine own_st sg1101 ?_
  have hlow4' : low4.toInt = ((U / 10 ^ j4 : Nat) : Int) := by rw [hlow4]; exact own_l2i rest4 _ hrest4 hsm4
  have loop4 : ∀ (N j : Nat) (T1 : State) (h1 : Heap) (l1 : List Loc) (pos low : Int32) (X1 : Stand p l e ({ frames := 0, cells := 0, slots := 0, locals := 0 } : Room) s m #[(.int neg), (.long un), (.long dg), (.int dec), (.ref a), (.int at_)] below meth c T1 l1 0 0) (e1 : T1.heap = h1) (N1 : Fr n0 l1) (Z1 : n0 ≤ h1.size) (K1 : Keep h0 h1 [a]) (A1 : own_AI Z h1 a .byte len (own_dig g dot U j)), N = U / 10 ^ j → j < own_nd U → pos.toInt = ((dot - j : Nat) : Int) → low.toInt = (N : Int) → own_Pk p e below (fun T' f' => ∃ (h' : Heap) (locs' : List Loc) (pos' low' : Int32), f' = (mkF m 188 #[iv neg, own_lv un, .second, own_lv dg, .second, iv dec, rv a, iv at_, iv cnt, iv en, iv pos', iv rem2, own_lv rest4, .second, iv low'] []) ∧ Stand p l e ({ frames := 0, cells := 0, slots := 0, locals := 0 } : Room) s m #[(.int neg), (.long un), (.long dg), (.int dec), (.ref a), (.int at_)] below meth c T' locs' 0 0 ∧ T'.heap = h' ∧ Fr n0 locs' ∧ n0 ≤ h'.size ∧ Keep h0 h' [a] ∧ own_AI Z h' a .byte len (own_dig g dot U (own_nd U)) ∧ pos'.toInt = ((dot - own_nd U : Nat) : Int)) T1 (mkF m 159 #[iv neg, own_lv un, .second, own_lv dg, .second, iv dec, rv a, iv at_, iv cnt, iv en, iv pos, iv rem2, own_lv rest4, .second, iv low] []) := by
    intro N
    induction N using Nat.strongRecOn with
    | ind N ih =>
      intro j T1 h1 l1 pos low X1 e1 N1 Z1 K1 A1 hN hjl hpos hlow
      have hp1 := own_dec1 pos (dot - j - 1) (by rw [hpos]; exact congrArg Int.ofNat (own_q10 hdot hjl))
      have hl2 := own_idiv10 low N hlow
      have sg1301 : own_V p e below T1 (mkF m 175 #[iv neg, own_lv un, .second, own_lv dg, .second, iv dec, rv a, iv at_, iv cnt, iv en, iv (pos + (-1 : Int32)), iv rem2, own_lv rest4, .second, iv low] [(.int ((48 : Int32) + (low % (10 : Int32))).toInt8.toInt32), (.int (pos + (-1 : Int32))), (.ref a)]) (mkF m 159 #[iv neg, own_lv un, .second, own_lv dg, .second, iv dec, rv a, iv at_, iv cnt, iv en, iv pos, iv rem2, own_lv rest4, .second, iv low] []) := by
        intro t kt
        refine XS.aload X1.here hx rfl (hb hby own_d8_159) rfl rfl ?_
        show own_S p e below T1 m 161 #[iv neg, own_lv un, .second, own_lv dg, .second, iv dec, rv a, iv at_, iv cnt, iv en, iv pos, iv rem2, own_lv rest4, .second, iv low] [(.ref a)] _
        refine XS.iinc X1.here hx rfl (hb hby own_d8_161) rfl (l' := #[iv neg, own_lv un, .second, own_lv dg, .second, iv dec, rv a, iv at_, iv cnt, iv en, iv (pos + (-1 : Int32)), iv rem2, own_lv rest4, .second, iv low]) rfl ?_
        show own_S p e below T1 m 164 #[iv neg, own_lv un, .second, own_lv dg, .second, iv dec, rv a, iv at_, iv cnt, iv en, iv (pos + (-1 : Int32)), iv rem2, own_lv rest4, .second, iv low] [(.ref a)] _
        refine XS.iload X1.here hx rfl (hb hby own_d8_164) rfl ?_
        show own_S p e below T1 m 166 #[iv neg, own_lv un, .second, own_lv dg, .second, iv dec, rv a, iv at_, iv cnt, iv en, iv (pos + (-1 : Int32)), iv rem2, own_lv rest4, .second, iv low] [(.int (pos + (-1 : Int32))), (.ref a)] _
        refine XS.bipush X1.here hx rfl (hb hby own_d8_166) ?_
        show own_S p e below T1 m 168 #[iv neg, own_lv un, .second, own_lv dg, .second, iv dec, rv a, iv at_, iv cnt, iv en, iv (pos + (-1 : Int32)), iv rem2, own_lv rest4, .second, iv low] [(.int (48 : Int32)), (.int (pos + (-1 : Int32))), (.ref a)] _
        refine XS.iload X1.here hx rfl (hb hby own_d8_168) rfl ?_
        show own_S p e below T1 m 170 #[iv neg, own_lv un, .second, own_lv dg, .second, iv dec, rv a, iv at_, iv cnt, iv en, iv (pos + (-1 : Int32)), iv rem2, own_lv rest4, .second, iv low] [(.int low), (.int (48 : Int32)), (.int (pos + (-1 : Int32))), (.ref a)] _
        refine XS.bipush X1.here hx rfl (hb hby own_d8_170) ?_
        show own_S p e below T1 m 172 #[iv neg, own_lv un, .second, own_lv dg, .second, iv dec, rv a, iv at_, iv cnt, iv en, iv (pos + (-1 : Int32)), iv rem2, own_lv rest4, .second, iv low] [(.int (10 : Int32)), (.int low), (.int (48 : Int32)), (.int (pos + (-1 : Int32))), (.ref a)] _
        refine own_irem X1.here hx rfl (hb hby own_d8_172) rfl (by decide) ?_
        show own_S p e below T1 m 173 #[iv neg, own_lv un, .second, own_lv dg, .second, iv dec, rv a, iv at_, iv cnt, iv en, iv (pos + (-1 : Int32)), iv rem2, own_lv rest4, .second, iv low] [(.int (low % (10 : Int32))), (.int (48 : Int32)), (.int (pos + (-1 : Int32))), (.ref a)] _
        refine XS.iadd X1.here hx rfl (hb hby own_d8_173) rfl ?_
        show own_S p e below T1 m 174 #[iv neg, own_lv un, .second, own_lv dg, .second, iv dec, rv a, iv at_, iv cnt, iv en, iv (pos + (-1 : Int32)), iv rem2, own_lv rest4, .second, iv low] [(.int ((48 : Int32) + (low % (10 : Int32)))), (.int (pos + (-1 : Int32))), (.ref a)] _
        refine XS.i2b X1.here hx rfl (hb hby own_d8_174) rfl ?_
        show own_S p e below T1 m 175 #[iv neg, own_lv un, .second, own_lv dg, .second, iv dec, rv a, iv at_, iv cnt, iv en, iv (pos + (-1 : Int32)), iv rem2, own_lv rest4, .second, iv low] [(.int ((48 : Int32) + (low % (10 : Int32))).toInt8.toInt32), (.int (pos + (-1 : Int32))), (.ref a)] _
        exact kt
      refine own_sp sg1301 ?_
      obtain ⟨T1302, h1302, X1302, e1302, W1302, A1302, st1302⟩ := own_wrB X1 hx hZ e1 A1 (k := (dot - j - 1)) hp1 (own_q11 hlen) (g := (mkF m 175 #[iv neg, own_lv un, .second, own_lv dg, .second, iv dec, rv a, iv at_, iv cnt, iv en, iv (pos + (-1 : Int32)), iv rem2, own_lv rest4, .second, iv low] [(.int ((48 : Int32) + (low % (10 : Int32))).toInt8.toInt32), (.int (pos + (-1 : Int32))), (.ref a)])) rfl rfl (hb hby own_d8_175)
      refine own_sp st1302 ?_
      have Z1302 : n0 ≤ h1302.size := by rw [Wr.size W1302]; exact Z1
      have N1302 := Fr.snoc X1302 N1 g_a
      show own_Pk p e below _ T1302 (mkF m 176 #[iv neg, own_lv un, .second, own_lv dg, .second, iv dec, rv a, iv at_, iv cnt, iv en, iv (pos + (-1 : Int32)), iv rem2, own_lv rest4, .second, iv low] [])
      have A2 : own_AI Z h1302 a .byte len (own_dig g dot U (j + 1)) := A1302.congr (fun i _ => own_dig_next g dot U j (dot - j - 1) _ (own_q12 hdot hjl) (by rw [← hN]; exact own_digI low N hlow) i)
      have K2 : Keep h0 h1302 [a] := K1.wr W1302 (Or.inl (List.mem_of_getElem? (i := 0) rfl))
      have sg1303 : own_V p e below T1302 (mkF m 185 #[iv neg, own_lv un, .second, own_lv dg, .second, iv dec, rv a, iv at_, iv cnt, iv en, iv (pos + (-1 : Int32)), iv rem2, own_lv rest4, .second, iv (low / (10 : Int32))] [(.int (low / (10 : Int32)))]) (mkF m 176 #[iv neg, own_lv un, .second, own_lv dg, .second, iv dec, rv a, iv at_, iv cnt, iv en, iv (pos + (-1 : Int32)), iv rem2, own_lv rest4, .second, iv low] []) := by
        intro t kt
        refine XS.iload X1302.here hx rfl (hb hby own_d8_176) rfl ?_
        show own_S p e below T1302 m 178 #[iv neg, own_lv un, .second, own_lv dg, .second, iv dec, rv a, iv at_, iv cnt, iv en, iv (pos + (-1 : Int32)), iv rem2, own_lv rest4, .second, iv low] [(.int low)] _
        refine XS.bipush X1302.here hx rfl (hb hby own_d8_178) ?_
        show own_S p e below T1302 m 180 #[iv neg, own_lv un, .second, own_lv dg, .second, iv dec, rv a, iv at_, iv cnt, iv en, iv (pos + (-1 : Int32)), iv rem2, own_lv rest4, .second, iv low] [(.int (10 : Int32)), (.int low)] _
        refine XS.idiv X1302.here hx rfl (hb hby own_d8_180) rfl (by decide) ?_
        show own_S p e below T1302 m 181 #[iv neg, own_lv un, .second, own_lv dg, .second, iv dec, rv a, iv at_, iv cnt, iv en, iv (pos + (-1 : Int32)), iv rem2, own_lv rest4, .second, iv low] [(.int (low / (10 : Int32)))] _
        refine XS.istore X1302.here hx rfl (hb hby own_d8_181) rfl (l' := #[iv neg, own_lv un, .second, own_lv dg, .second, iv dec, rv a, iv at_, iv cnt, iv en, iv (pos + (-1 : Int32)), iv rem2, own_lv rest4, .second, iv (low / (10 : Int32))]) rfl ?_
        show own_S p e below T1302 m 183 #[iv neg, own_lv un, .second, own_lv dg, .second, iv dec, rv a, iv at_, iv cnt, iv en, iv (pos + (-1 : Int32)), iv rem2, own_lv rest4, .second, iv (low / (10 : Int32))] [] _
        refine XS.iload X1302.here hx rfl (hb hby own_d8_183) rfl ?_
        show own_S p e below T1302 m 185 #[iv neg, own_lv un, .second, own_lv dg, .second, iv dec, rv a, iv at_, iv cnt, iv en, iv (pos + (-1 : Int32)), iv rem2, own_lv rest4, .second, iv (low / (10 : Int32))] [(.int (low / (10 : Int32)))] _
        exact kt
      refine own_sp sg1303 ?_
      by_cases hc1304 : (0 : Int32) < (low / (10 : Int32))
      · skip
        have sg1305 : own_V p e below T1302 (mkF m 159 #[iv neg, own_lv un, .second, own_lv dg, .second, iv dec, rv a, iv at_, iv cnt, iv en, iv (pos + (-1 : Int32)), iv rem2, own_lv rest4, .second, iv (low / (10 : Int32))] []) (mkF m 185 #[iv neg, own_lv un, .second, own_lv dg, .second, iv dec, rv a, iv at_, iv cnt, iv en, iv (pos + (-1 : Int32)), iv rem2, own_lv rest4, .second, iv (low / (10 : Int32))] [(.int (low / (10 : Int32)))]) := by
          intro t kt
          refine XS.ifYes X1302.here hx rfl (pc0 := 185) (pc' := 159) rfl (hb hby own_d8_185) rfl ((if0 _ _).trans (tlt hc1304).2.2.1) (by decide) (by decide) ?_
          exact kt
        refine own_sp sg1305 ?_
        have hN1 : N / 10 ≠ 0 := own_q16 hl2 hc1304
        have hN2 : N / 10 = U / 10 ^ (j + 1) := by rw [hN, own_divdiv']
        exact ih (N / 10) (own_q18 hN1) (j + 1) T1302 _ _ (pos + (-1 : Int32)) (low / (10 : Int32)) X1302 e1302 N1302 Z1302 K2 A2 hN2 (own_nd_lt (j + 1) U (Or.inr (by rw [← hN2]; exact hN1))) (by rw [hp1, Nat.sub_sub]) hl2
      have sg1306 : own_V p e below T1302 (mkF m 188 #[iv neg, own_lv un, .second, own_lv dg, .second, iv dec, rv a, iv at_, iv cnt, iv en, iv (pos + (-1 : Int32)), iv rem2, own_lv rest4, .second, iv (low / (10 : Int32))] []) (mkF m 185 #[iv neg, own_lv un, .second, own_lv dg, .second, iv dec, rv a, iv at_, iv cnt, iv en, iv (pos + (-1 : Int32)), iv rem2, own_lv rest4, .second, iv (low / (10 : Int32))] [(.int (low / (10 : Int32)))]) := by
        intro t kt
        refine XS.ifNo X1302.here hx rfl (hb hby own_d8_185) rfl ((if0 _ _).trans (flt hc1304).2.2.1) ?_
        exact kt
      refine own_sp sg1306 ?_
      have hN1 : N / 10 = 0 := own_q17 hl2 hc1304
      have hnd : own_nd U = j + 1 := by
        exact Nat.le_antisymm (own_nd_le j U (by rw [own_divdiv', ← hN]; exact hN1)) hjl
      exact ⟨T1302, _, ⟨_, _, (pos + (-1 : Int32)), (low / (10 : Int32)), rfl, X1302, e1302, N1302, Z1302, K2, by rw [hnd]; exact A2, by rw [hp1, hnd, Nat.sub_sub]⟩, fun t k => k⟩
  obtain ⟨T5, _, ⟨h5, l5, pos5, low5, rfl, X5, e5, N5, Z5, K5, A5, hpos5⟩, st5⟩ := loop4 _ j4 T4 h4 _ pos4 low4 X4 e4 N4 Z4 K4 A4 rfl hj4 hpos4 hlow4'
  refine own_st st5 ?_
  show own_Go p e below _ T5 (mkF m 188 #[iv neg, own_lv un, .second, own_lv dg, .second, iv dec, rv a, iv at_, iv cnt, iv en, iv pos5, iv rem2, own_lv rest4, .second, iv low5] [])
  have hend : en.toInt = ((ka + ks + own_nd U + 1 + kd : Nat) : Int) := by rw [hen', hdot]
  have sg1501 : own_V p e below T5 (mkF m 189 #[iv neg, own_lv un, .second, own_lv dg, .second, iv dec, rv a, iv at_, iv cnt, iv en, iv pos5, iv rem2, own_lv rest4, .second, iv low5] [(.int neg)]) (mkF m 188 #[iv neg, own_lv un, .second, own_lv dg, .second, iv dec, rv a, iv at_, iv cnt, iv en, iv pos5, iv rem2, own_lv rest4, .second, iv low5] []) := by
    intro t kt
    refine XS.iloadN X5.here hx rfl (hb hby own_d8_188) rfl ?_
    show own_S p e below T5 m 189 #[iv neg, own_lv un, .second, own_lv dg, .second, iv dec, rv a, iv at_, iv cnt, iv en, iv pos5, iv rem2, own_lv rest4, .second, iv low5] [(.int neg)] _
    exact kt
  refine own_st sg1501 ?_
  by_cases hc1502 : neg = (0 : Int32)
  · skip
    have sg1503 : own_V p e below T5 (mkF m 202 #[iv neg, own_lv un, .second, own_lv dg, .second, iv dec, rv a, iv at_, iv cnt, iv en, iv pos5, iv rem2, own_lv rest4, .second, iv low5] []) (mkF m 189 #[iv neg, own_lv un, .second, own_lv dg, .second, iv dec, rv a, iv at_, iv cnt, iv en, iv pos5, iv rem2, own_lv rest4, .second, iv low5] [(.int neg)]) := by
      intro t kt
      refine XS.ifYes X5.here hx rfl (pc0 := 189) (pc' := 202) rfl (hb hby own_d8_189) rfl ((if0 _ _).trans (teq hc1502).1) (by decide) (by decide) ?_
      exact kt
    refine own_st sg1503 ?_
    have hks : ks = 0 := by
      rcases hneg with ⟨-, z2⟩ | ⟨z1, -⟩
      · exact z2
      · rw [hc1502] at z1; exact absurd z1 (by decide)
    have sg1504 : own_V p e below T5 (mkF m 204 #[iv neg, own_lv un, .second, own_lv dg, .second, iv dec, rv a, iv at_, iv cnt, iv en, iv pos5, iv rem2, own_lv rest4, .second, iv low5] [(.int en)]) (mkF m 202 #[iv neg, own_lv un, .second, own_lv dg, .second, iv dec, rv a, iv at_, iv cnt, iv en, iv pos5, iv rem2, own_lv rest4, .second, iv low5] []) := by
      intro t kt
      refine XS.iload X5.here hx rfl (hb hby own_d8_202) rfl ?_
      show own_S p e below T5 m 204 #[iv neg, own_lv un, .second, own_lv dg, .second, iv dec, rv a, iv at_, iv cnt, iv en, iv pos5, iv rem2, own_lv rest4, .second, iv low5] [(.int en)] _
      exact kt
    refine own_st sg1504 ?_
    have A6 : own_AI Z h5 a .byte len (own_put f (decide (ks = 1)) ka U D kd) := by
      rw [hks] at hdot ⊢
      rw [hg, hdot] at A5
      exact A5
    exact own_retI X5 hx Bd.notSynchronized Bd.returns (hb hby own_d8_204) (by decide) (by decide) e5 ⟨⟨en, rfl, hend⟩, N5, K5, A6⟩
  have sg1505 : own_V p e below T5 (mkF m 192 #[iv neg, own_lv un, .second, own_lv dg, .second, iv dec, rv a, iv at_, iv cnt, iv en, iv pos5, iv rem2, own_lv rest4, .second, iv low5] []) (mkF m 189 #[iv neg, own_lv un, .second, own_lv dg, .second, iv dec, rv a, iv at_, iv cnt, iv en, iv pos5, iv rem2, own_lv rest4, .second, iv low5] [(.int neg)]) := by
    intro t kt
    refine XS.ifNo X5.here hx rfl (hb hby own_d8_189) rfl ((if0 _ _).trans (feq hc1502).1) ?_
    exact kt
  refine own_st sg1505 ?_
  have hks : ks = 1 := by
    rcases hneg with ⟨z1, -⟩ | ⟨-, z2⟩
    · exact absurd z1 hc1502
    · exact z2
  have hp1 := own_dec1 pos5 ka (by rw [hpos5]; exact congrArg Int.ofNat (own_q19 hdot hks))
  have sg1506 : own_V p e below T5 (mkF m 201 #[iv neg, own_lv un, .second, own_lv dg, .second, iv dec, rv a, iv at_, iv cnt, iv en, iv (pos5 + (-1 : Int32)), iv rem2, own_lv rest4, .second, iv low5] [(.int (45 : Int32)), (.int (pos5 + (-1 : Int32))), (.ref a)]) (mkF m 192 #[iv neg, own_lv un, .second, own_lv dg, .second, iv dec, rv a, iv at_, iv cnt, iv en, iv pos5, iv rem2, own_lv rest4, .second, iv low5] []) := by
    intro t kt
    refine XS.aload X5.here hx rfl (hb hby own_d8_192) rfl rfl ?_
    show own_S p e below T5 m 194 #[iv neg, own_lv un, .second, own_lv dg, .second, iv dec, rv a, iv at_, iv cnt, iv en, iv pos5, iv rem2, own_lv rest4, .second, iv low5] [(.ref a)] _
    refine XS.iinc X5.here hx rfl (hb hby own_d8_194) rfl (l' := #[iv neg, own_lv un, .second, own_lv dg, .second, iv dec, rv a, iv at_, iv cnt, iv en, iv (pos5 + (-1 : Int32)), iv rem2, own_lv rest4, .second, iv low5]) rfl ?_
    show own_S p e below T5 m 197 #[iv neg, own_lv un, .second, own_lv dg, .second, iv dec, rv a, iv at_, iv cnt, iv en, iv (pos5 + (-1 : Int32)), iv rem2, own_lv rest4, .second, iv low5] [(.ref a)] _
    refine XS.iload X5.here hx rfl (hb hby own_d8_197) rfl ?_
    show own_S p e below T5 m 199 #[iv neg, own_lv un, .second, own_lv dg, .second, iv dec, rv a, iv at_, iv cnt, iv en, iv (pos5 + (-1 : Int32)), iv rem2, own_lv rest4, .second, iv low5] [(.int (pos5 + (-1 : Int32))), (.ref a)] _
    refine XS.bipush X5.here hx rfl (hb hby own_d8_199) ?_
    show own_S p e below T5 m 201 #[iv neg, own_lv un, .second, own_lv dg, .second, iv dec, rv a, iv at_, iv cnt, iv en, iv (pos5 + (-1 : Int32)), iv rem2, own_lv rest4, .second, iv low5] [(.int (45 : Int32)), (.int (pos5 + (-1 : Int32))), (.ref a)] _
    exact kt
  refine own_st sg1506 ?_
  obtain ⟨T1507, h1507, X1507, e1507, W1507, A1507, st1507⟩ := own_wrB X5 hx hZ e5 A5 (k := ka) hp1 (own_q20 hlen hdot) (g := (mkF m 201 #[iv neg, own_lv un, .second, own_lv dg, .second, iv dec, rv a, iv at_, iv cnt, iv en, iv (pos5 + (-1 : Int32)), iv rem2, own_lv rest4, .second, iv low5] [(.int (45 : Int32)), (.int (pos5 + (-1 : Int32))), (.ref a)])) rfl rfl (hb hby own_d8_201)
  refine own_st st1507 ?_
  have Z1507 : n0 ≤ h1507.size := by rw [Wr.size W1507]; exact Z5
  have N1507 := Fr.snoc X1507 N5 g_a
  show own_Go p e below _ T1507 (mkF m 202 #[iv neg, own_lv un, .second, own_lv dg, .second, iv dec, rv a, iv at_, iv cnt, iv en, iv (pos5 + (-1 : Int32)), iv rem2, own_lv rest4, .second, iv low5] [])
  have sg1508 : own_V p e below T1507 (mkF m 204 #[iv neg, own_lv un, .second, own_lv dg, .second, iv dec, rv a, iv at_, iv cnt, iv en, iv (pos5 + (-1 : Int32)), iv rem2, own_lv rest4, .second, iv low5] [(.int en)]) (mkF m 202 #[iv neg, own_lv un, .second, own_lv dg, .second, iv dec, rv a, iv at_, iv cnt, iv en, iv (pos5 + (-1 : Int32)), iv rem2, own_lv rest4, .second, iv low5] []) := by
    intro t kt
    refine XS.iload X1507.here hx rfl (hb hby own_d8_202) rfl ?_
    show own_S p e below T1507 m 204 #[iv neg, own_lv un, .second, own_lv dg, .second, iv dec, rv a, iv at_, iv cnt, iv en, iv (pos5 + (-1 : Int32)), iv rem2, own_lv rest4, .second, iv low5] [(.int en)] _
    exact kt
  refine own_st sg1508 ?_
  have A6 : own_AI Z h1507 a .byte len (own_put f (decide (ks = 1)) ka U D kd) := by
    rw [hks] at hdot ⊢
    rw [hg, hdot] at A1507
    exact A1507
  exact own_retI X1507 hx Bd.notSynchronized Bd.returns (hb hby own_d8_204) (by decide) (by decide) e1507 ⟨⟨en, rfl, hend⟩, N1507, K5.wr W1507 (Or.inl (List.mem_of_getElem? (i := 0) rfl)), A6⟩
def own_Sum (Z : State) (h : Heap) (a : Nat) (i m p t : Int64) : Prop := Exa Z h a "com/example/coverfold/coverfold/Figures$Sum" ∧ Fld Z h a "com/example/coverfold/coverfold/Figures$Sum" "imageless" "J" (.long i) ∧ Fld Z h a "com/example/coverfold/coverfold/Figures$Sum" "millionths" "J" (.long m) ∧ Fld Z h a "com/example/coverfold/coverfold/Figures$Sum" "places" "J" (.long p) ∧ Fld Z h a "com/example/coverfold/coverfold/Figures$Sum" "terms" "J" (.long t)
theorem own_Sum.keep {Z : State} {h h' : Heap} {a : Nat} {i m p t : Int64} {ws : List Addr} (S : own_Sum Z h a i m p t) (K : Keep h h' ws) (q : a ∉ ws) : own_Sum Z h' a i m p t := ⟨S.1.keep K, S.2.1.keep K q, S.2.2.1.keep K q, S.2.2.2.1.keep K q, S.2.2.2.2.keep K q⟩
theorem own_d1_0 : decode jdk_29_method_65_code 0 = .ok (.iload_n 0, 1) := by decide +kernel
theorem own_d1_1 : decode jdk_29_method_65_code 1 = .ok (.iload_n 1, 1) := by decide +kernel
theorem own_d1_2 : decode jdk_29_method_65_code 2 = .ok (.if_icmp .lt 7, 3) := by decide +kernel
theorem own_d1_5 : decode jdk_29_method_65_code 5 = .ok (.iload_n 0, 1) := by decide +kernel
theorem own_d1_6 : decode jdk_29_method_65_code 6 = .ok (.goto 4, 3) := by decide +kernel
theorem own_d1_9 : decode jdk_29_method_65_code 9 = .ok (.iload_n 1, 1) := by decide +kernel
theorem own_d1_10 : decode jdk_29_method_65_code 10 = .ok (.ireturn, 1) := by decide +kernel
def own_max (x y : Int32) : Int32 := (if x < y then y else x)
theorem own_pn1 : plainFor (⟨"java/lang/Math", "max", "(II)I"⟩ : MethodName) = true := (Jvm.Free.JP.mathPlain rfl (by decide +kernel))
theorem own_efmax (m : MethodId) (x : Int32) (y : Int32) : entryFrame m #[(.int x), (.int y)] 2 = mkF m 0 #[iv x, iv y] [] := by first | (simp [entryFrame, mkF, argsToLocals, Value.category]; done) | rfl
set_option maxRecDepth 65536 in
set_option maxHeartbeats 40000000 in
theorem own_rmmax (l : Launch) (Z : State) (a0 : Array Value) (hw : ∀ d ∈ tables_1, d.before a0 Z = true) (x : Int32) (y : Int32) (h0 : Heap) (n0 : Nat) (Z0 : n0 ≤ h0.size) :
    own_Ct l Z (⟨"java/lang/Math", "max", "(II)I"⟩ : MethodName) jdk_29_method_65_code 2 (some .int) ({ frames := 0, cells := 0, slots := 0, locals := 0 } : Room) #[(.int x), (.int y)] h0 (fun v h L => v = some (.int (own_max x y)) ∧ Fr n0 L ∧ h = h0) := by
  refine own_body (y := (⟨"java/lang/Math", "max", "(II)I"⟩ : MethodName)) (Q := fun v h L => v = some (.int (own_max x y)) ∧ Fr n0 L ∧ h = h0) own_pn1 ?_
  intro p e s m below meth c s₁ Bd hml0 hZ e0
  have hx := Bd.exec
  have hby := Bd.bytes
  have hml : c.maxLocals = 2 := hml0
  have hown : s.vm.findClass "java/lang/Math" = some m.cls := findClass_of_methodNamed Bd.named
  have hnm := (name_of_methodNamed Bd.named Bd.method).1
  have X0 : Stand p l e ({ frames := 0, cells := 0, slots := 0, locals := 0 } : Room) s m #[(.int x), (.int y)] below meth c s₁ [] 0 0 := Stand.of_body Bd
  have N0 := Fr.nil n0
  rw [own_efmax]
  obtain ⟨r, hr⟩ : ∃ z : Int32, z = (if x < y then y else x) := ⟨_, rfl⟩
  have sg2 : own_V p e below s₁ (mkF m 10 #[iv x, iv y] [(.int r)]) (mkF m 0 #[iv x, iv y] []) := by
    intro t kt
    refine XS.iloadN X0.here hx rfl (hb hby own_d1_0) rfl ?_
    show own_S p e below s₁ m 1 #[iv x, iv y] [(.int x)] _
    refine XS.iloadN X0.here hx rfl (hb hby own_d1_1) rfl ?_
    show own_S p e below s₁ m 2 #[iv x, iv y] [(.int y), (.int x)] _
    by_cases hc1 : x < y
    · refine XS.icmpYes X0.here hx rfl (pc0 := 2) (pc' := 9) rfl (hb hby own_d1_2) rfl (tlt hc1).1 (by decide) (by decide) ?_
      show own_S p e below s₁ m 9 #[iv x, iv y] [] _
      refine XS.iloadN X0.here hx rfl (hb hby own_d1_9) rfl ?_
      show own_S p e below s₁ m 10 #[iv x, iv y] [(.int y)] _
      rw [show r = y from by rw [hr, if_pos hc1]] at kt
      exact kt
    · refine XS.icmpNo X0.here hx rfl (hb hby own_d1_2) rfl (flt hc1).1 ?_
      show own_S p e below s₁ m 5 #[iv x, iv y] [] _
      refine XS.iloadN X0.here hx rfl (hb hby own_d1_5) rfl ?_
      show own_S p e below s₁ m 6 #[iv x, iv y] [(.int x)] _
      refine XS.goto X0.here hx rfl (pc0 := 6) (pc' := 10) rfl (hb hby own_d1_6) (by decide) (by decide) ?_
      show own_S p e below s₁ m 10 #[iv x, iv y] [(.int x)] _
      rw [show r = x from by rw [hr, if_neg hc1]] at kt
      exact kt
  refine own_st sg2 ?_
  exact own_retI X0 hx Bd.notSynchronized Bd.returns (hb hby own_d1_10) (by decide) (by decide) e0 ⟨by rw [hr]; rfl, N0, rfl⟩
theorem own_d2_0 : decode prog_58_method_1_code 0 = .ok (.aload_n 0, 1) := by decide +kernel
theorem own_d2_1 : decode prog_58_method_1_code 1 = .ok (.invokespecial 5, 3) := by decide +kernel
theorem own_d2_4 : decode prog_58_method_1_code 4 = .ok (.return_, 1) := by decide +kernel
theorem own_pn2 : plainName "com/example/coverfold/coverfold/Figures$Sum" = true := by first | (simp [plainName, overriddenIn]; done) | decide +kernel
theorem own_efini (m : MethodId) (a : Nat) : entryFrame m #[(.ref a)] 1 = mkF m 0 #[rv a] [] := by first | (simp [entryFrame, mkF, argsToLocals, Value.category]; done) | rfl
set_option maxRecDepth 65536 in
set_option maxHeartbeats 40000000 in
theorem own_rmini (l : Launch) (Z : State) (a0 : Array Value) (hw : ∀ d ∈ tables_1, d.before a0 Z = true) (a : Nat) (h0 : Heap) (n0 : Nat) (Z0 : n0 ≤ h0.size) :
    own_Ct l Z (⟨"com/example/coverfold/coverfold/Figures$Sum", "<init>", "()V"⟩ : MethodName) prog_58_method_1_code 1 none ({ frames := 1, cells := 0, slots := 0, locals := 12 } : Room) #[(.ref a)] h0 (fun v h L => v = none ∧ Fr n0 L ∧ h = h0) := by
  refine own_body (y := (⟨"com/example/coverfold/coverfold/Figures$Sum", "<init>", "()V"⟩ : MethodName)) (Q := fun v h L => v = none ∧ Fr n0 L ∧ h = h0) (plainFor_of_name own_pn2) ?_
  intro p e s m below meth c s₁ Bd hml0 hZ e0
  have hx := Bd.exec
  have hby := Bd.bytes
  have hml : c.maxLocals = 1 := hml0
  have hown : s.vm.findClass "com/example/coverfold/coverfold/Figures$Sum" = some m.cls := findClass_of_methodNamed Bd.named
  have hnm := (name_of_methodNamed Bd.named Bd.method).1
  have X0 : Stand p l e ({ frames := 1, cells := 0, slots := 0, locals := 12 } : Room) s m #[(.ref a)] below meth c s₁ [] 0 0 := Stand.of_body Bd
  have N0 := Fr.nil n0
  rw [own_efini]
  have sg1 : own_V p e below s₁ (mkF m 1 #[rv a] [(.ref a)]) (mkF m 0 #[rv a] []) := by
    intro t kt
    refine XS.aloadN X0.here hx rfl (hb hby own_d2_0) rfl rfl ?_
    show own_S p e below s₁ m 1 #[rv a] [(.ref a)] _
    exact kt
  refine own_st sg1 ?_
  obtain ⟨T2, X2, e2, st2⟩ := initO X0 hx hZ hown (hw _ (List.mem_of_getElem? (i := 14) rfl)) (hw _ (List.mem_of_getElem? (i := 15) rfl)) (hw _ (List.mem_of_getElem? (i := 16) rfl)) e0 (g := (mkF m 1 #[rv a] [(.ref a)])) rfl (by rw [hml]; rfl) rfl (hb hby own_d2_1) (by decide) (W := 0) (by show 2 * 0 + _ ≤ _; exact Nat.le_of_eq rfl) (by decide)
  refine own_st st2 ?_
  show own_Go p e below _ T2 (mkF m 4 #[rv a] [])
  exact own_retV X2 hx Bd.notSynchronized Bd.returns (hb hby own_d2_4) (by decide) (by decide) e2 ⟨rfl, N0, rfl⟩
theorem own_d4_0 : decode prog_58_method_3_code 0 = .ok (.lload_n 1, 1) := by decide +kernel
theorem own_d4_1 : decode prog_58_method_3_code 1 = .ok (.lconst 0, 1) := by decide +kernel
theorem own_d4_2 : decode prog_58_method_3_code 2 = .ok (.lcmp, 1) := by decide +kernel
theorem own_d4_3 : decode prog_58_method_3_code 3 = .ok (.ifCond .ge 15, 3) := by decide +kernel
theorem own_d4_6 : decode prog_58_method_3_code 6 = .ok (.aload_n 0, 1) := by decide +kernel
theorem own_d4_7 : decode prog_58_method_3_code 7 = .ok (.dup, 1) := by decide +kernel
theorem own_d4_8 : decode prog_58_method_3_code 8 = .ok (.getfield 15, 3) := by decide +kernel
theorem own_d4_11 : decode prog_58_method_3_code 11 = .ok (.iload_n 3, 1) := by decide +kernel
theorem own_d4_12 : decode prog_58_method_3_code 12 = .ok (.i2l, 1) := by decide +kernel
theorem own_d4_13 : decode prog_58_method_3_code 13 = .ok (.ladd, 1) := by decide +kernel
theorem own_d4_14 : decode prog_58_method_3_code 14 = .ok (.putfield 15, 3) := by decide +kernel
theorem own_d4_17 : decode prog_58_method_3_code 17 = .ok (.return_, 1) := by decide +kernel
theorem own_d4_18 : decode prog_58_method_3_code 18 = .ok (.aload_n 0, 1) := by decide +kernel
theorem own_d4_19 : decode prog_58_method_3_code 19 = .ok (.dup, 1) := by decide +kernel
theorem own_d4_20 : decode prog_58_method_3_code 20 = .ok (.getfield 19, 3) := by decide +kernel
theorem own_d4_23 : decode prog_58_method_3_code 23 = .ok (.lload_n 1, 1) := by decide +kernel
theorem own_d4_24 : decode prog_58_method_3_code 24 = .ok (.bipush 32, 2) := by decide +kernel
theorem own_d4_26 : decode prog_58_method_3_code 26 = .ok (.lushr, 1) := by decide +kernel
theorem own_d4_27 : decode prog_58_method_3_code 27 = .ok (.iload_n 3, 1) := by decide +kernel
theorem own_d4_28 : decode prog_58_method_3_code 28 = .ok (.i2l, 1) := by decide +kernel
theorem own_d4_29 : decode prog_58_method_3_code 29 = .ok (.lmul, 1) := by decide +kernel
theorem own_d4_30 : decode prog_58_method_3_code 30 = .ok (.ladd, 1) := by decide +kernel
theorem own_d4_31 : decode prog_58_method_3_code 31 = .ok (.putfield 19, 3) := by decide +kernel
theorem own_d4_34 : decode prog_58_method_3_code 34 = .ok (.aload_n 0, 1) := by decide +kernel
theorem own_d4_35 : decode prog_58_method_3_code 35 = .ok (.dup, 1) := by decide +kernel
theorem own_d4_36 : decode prog_58_method_3_code 36 = .ok (.getfield 22, 3) := by decide +kernel
theorem own_d4_39 : decode prog_58_method_3_code 39 = .ok (.lload_n 1, 1) := by decide +kernel
theorem own_d4_40 : decode prog_58_method_3_code 40 = .ok (.ldc2_w 25, 3) := by decide +kernel
theorem own_d4_43 : decode prog_58_method_3_code 43 = .ok (.land, 1) := by decide +kernel
theorem own_d4_44 : decode prog_58_method_3_code 44 = .ok (.iload_n 3, 1) := by decide +kernel
theorem own_d4_45 : decode prog_58_method_3_code 45 = .ok (.i2l, 1) := by decide +kernel
theorem own_d4_46 : decode prog_58_method_3_code 46 = .ok (.lmul, 1) := by decide +kernel
theorem own_d4_47 : decode prog_58_method_3_code 47 = .ok (.ladd, 1) := by decide +kernel
theorem own_d4_48 : decode prog_58_method_3_code 48 = .ok (.putfield 22, 3) := by decide +kernel
theorem own_d4_51 : decode prog_58_method_3_code 51 = .ok (.aload_n 0, 1) := by decide +kernel
theorem own_d4_52 : decode prog_58_method_3_code 52 = .ok (.dup, 1) := by decide +kernel
theorem own_d4_53 : decode prog_58_method_3_code 53 = .ok (.getfield 27, 3) := by decide +kernel
theorem own_d4_56 : decode prog_58_method_3_code 56 = .ok (.iload_n 3, 1) := by decide +kernel
theorem own_d4_57 : decode prog_58_method_3_code 57 = .ok (.i2l, 1) := by decide +kernel
theorem own_d4_58 : decode prog_58_method_3_code 58 = .ok (.ladd, 1) := by decide +kernel
theorem own_d4_59 : decode prog_58_method_3_code 59 = .ok (.putfield 27, 3) := by decide +kernel
theorem own_d4_62 : decode prog_58_method_3_code 62 = .ok (.return_, 1) := by decide +kernel
def own_addi (im : Int64) (ti : Int32) (x : Int64) : Int64 := if im < (0 : Int64) then x + ti.toInt64 else x
def own_addm (im : Int64) (ti : Int32) (x : Int64) : Int64 := if im < (0 : Int64) then x else x + (((im.toUInt64 >>> ((32 : Int32) &&& 0x3f).toInt64.toUInt64).toInt64) * ti.toInt64)
def own_addp (im : Int64) (ti : Int32) (x : Int64) : Int64 := if im < (0 : Int64) then x else x + ((im &&& (4294967295 : Int64)) * ti.toInt64)
def own_addt (im : Int64) (ti : Int32) (x : Int64) : Int64 := if im < (0 : Int64) then x else x + ti.toInt64
theorem own_efadd (m : MethodId) (a : Nat) (im : Int64) (ti : Int32) : entryFrame m #[(.ref a), (.long im), (.int ti)] 4 = mkF m 0 #[rv a, own_lv im, .second, iv ti] [] := by first | (simp [entryFrame, mkF, argsToLocals, Value.category]; done) | rfl
set_option maxRecDepth 65536 in
set_option maxHeartbeats 40000000 in
theorem own_rmadd (l : Launch) (Z : State) (a0 : Array Value) (hw : ∀ d ∈ tables_1, d.before a0 Z = true) (a : Nat) (im : Int64) (ti : Int32) (vi vm vp vt : Int64) (h0 : Heap) (n0 : Nat) (Z0 : n0 ≤ h0.size) (SS : own_Sum Z h0 a vi vm vp vt) (g_a : n0 ≤ a) :
    own_Ct l Z (⟨"com/example/coverfold/coverfold/Figures$Sum", "add", "(JI)V"⟩ : MethodName) prog_58_method_3_code 4 none ({ frames := 0, cells := 0, slots := 0, locals := 0 } : Room) #[(.ref a), (.long im), (.int ti)] h0 (fun v h L => v = none ∧ Fr n0 L ∧ Keep h0 h [a] ∧ own_Sum Z h a (own_addi im ti vi) (own_addm im ti vm) (own_addp im ti vp) (own_addt im ti vt)) := by
  refine own_body (y := (⟨"com/example/coverfold/coverfold/Figures$Sum", "add", "(JI)V"⟩ : MethodName)) (Q := fun v h L => v = none ∧ Fr n0 L ∧ Keep h0 h [a] ∧ own_Sum Z h a (own_addi im ti vi) (own_addm im ti vm) (own_addp im ti vp) (own_addt im ti vt)) (plainFor_of_name own_pn2) ?_
  intro p e s m below meth c s₁ Bd hml0 hZ e0
  have hx := Bd.exec
  have hby := Bd.bytes
  have hml : c.maxLocals = 4 := hml0
  have hown : s.vm.findClass "com/example/coverfold/coverfold/Figures$Sum" = some m.cls := findClass_of_methodNamed Bd.named
  have hnm := (name_of_methodNamed Bd.named Bd.method).1
  have X0 : Stand p l e ({ frames := 0, cells := 0, slots := 0, locals := 0 } : Room) s m #[(.ref a), (.long im), (.int ti)] below meth c s₁ [] 0 0 := Stand.of_body Bd
  have N0 := Fr.nil n0
  rw [own_efadd]
  obtain ⟨EE, Fimageless, Fmillionths, Fplaces, Fterms⟩ := SS
  have sg1 : own_V p e below s₁ (mkF m 3 #[rv a, own_lv im, .second, iv ti] [(.int (lcmpW im (0 : Int64)))]) (mkF m 0 #[rv a, own_lv im, .second, iv ti] []) := by
    intro t kt
    refine XS.lloadN X0.here hx rfl (hb hby own_d4_0) rfl ?_
    show own_S p e below s₁ m 1 #[rv a, own_lv im, .second, iv ti] [(.long im)] _
    refine XS.lconst X0.here hx rfl (hb hby own_d4_1) ?_
    show own_S p e below s₁ m 2 #[rv a, own_lv im, .second, iv ti] [(.long (0 : Int64)), (.long im)] _
    refine XS.lcmp X0.here hx rfl (hb hby own_d4_2) rfl ?_
    show own_S p e below s₁ m 3 #[rv a, own_lv im, .second, iv ti] [(.int (lcmpW im (0 : Int64)))] _
    exact kt
  refine own_st sg1 ?_
  by_cases hc2 : im < (0 : Int64)
  · skip
    have sg3 : own_V p e below s₁ (mkF m 6 #[rv a, own_lv im, .second, iv ti] []) (mkF m 3 #[rv a, own_lv im, .second, iv ti] [(.int (lcmpW im (0 : Int64)))]) := by
      intro t kt
      refine XS.ifNo X0.here hx rfl (hb hby own_d4_3) rfl (own_tltL hc2).2 ?_
      exact kt
    refine own_st sg3 ?_
    have sg4 : own_V p e below s₁ (mkF m 8 #[rv a, own_lv im, .second, iv ti] [(.ref a), (.ref a)]) (mkF m 6 #[rv a, own_lv im, .second, iv ti] []) := by
      intro t kt
      refine XS.aloadN X0.here hx rfl (hb hby own_d4_6) rfl rfl ?_
      show own_S p e below s₁ m 7 #[rv a, own_lv im, .second, iv ti] [(.ref a)] _
      refine XS.dup X0.here hx rfl (hb hby own_d4_7) rfl rfl ?_
      show own_S p e below s₁ m 8 #[rv a, own_lv im, .second, iv ti] [(.ref a), (.ref a)] _
      exact kt
    refine own_st sg4 ?_
    obtain ⟨T5, X5, e5, st5⟩ := getF X0 hx hZ hown (host := "") (Or.inl (hw _ (List.mem_of_getElem? (i := 29) rfl))) Via.refl e0 Fimageless (g := (mkF m 8 #[rv a, own_lv im, .second, iv ti] [(.ref a), (.ref a)])) rfl rfl (hb hby own_d4_8)
    refine own_st st5 ?_
    show own_Go p e below _ T5 (mkF m 11 #[rv a, own_lv im, .second, iv ti] [(.long vi), (.ref a)])
    have sg6 : own_V p e below T5 (mkF m 14 #[rv a, own_lv im, .second, iv ti] [(.long (vi + ti.toInt64)), (.ref a)]) (mkF m 11 #[rv a, own_lv im, .second, iv ti] [(.long vi), (.ref a)]) := by
      intro t kt
      refine XS.iloadN X5.here hx rfl (hb hby own_d4_11) rfl ?_
      show own_S p e below T5 m 12 #[rv a, own_lv im, .second, iv ti] [(.int ti), (.long vi), (.ref a)] _
      refine XS.i2l X5.here hx rfl (hb hby own_d4_12) rfl ?_
      show own_S p e below T5 m 13 #[rv a, own_lv im, .second, iv ti] [(.long ti.toInt64), (.long vi), (.ref a)] _
      refine XS.ladd X5.here hx rfl (hb hby own_d4_13) rfl ?_
      show own_S p e below T5 m 14 #[rv a, own_lv im, .second, iv ti] [(.long (vi + ti.toInt64)), (.ref a)] _
      exact kt
    refine own_st sg6 ?_
    obtain ⟨T7, h7, X7, e7, W7, st7⟩ := putF X5 hx hZ hown (host := "") (Or.inl (hw _ (List.mem_of_getElem? (i := 29) rfl))) Via.refl e5 Fimageless EE (Or.inl (hw _ (List.mem_of_getElem? (i := 30) rfl))) (hw _ (List.mem_of_getElem? (i := 9) rfl)) (ty := .long) (by decide) rfl rfl (g := (mkF m 14 #[rv a, own_lv im, .second, iv ti] [(.long (vi + ti.toInt64)), (.ref a)])) rfl rfl (hb hby own_d4_14)
    refine own_st st7 ?_
    have Z7 : n0 ≤ h7.size := by rw [Wr.size W7]; exact Z0
    have N7 := Fr.snoc X7 N0 g_a
    show own_Go p e below _ T7 (mkF m 17 #[rv a, own_lv im, .second, iv ti] [])
    have imageless7 := Fimageless.same W7
    have millionths7 := Fmillionths.other W7 (Or.inr (slot_ne (Or.inl (hw _ (List.mem_of_getElem? (i := 23) rfl))) (Or.inl (hw _ (List.mem_of_getElem? (i := 30) rfl))) (by decide) (t := .long) (t' := .long) (by decide) (by decide)))
    have places7 := Fplaces.other W7 (Or.inr (slot_ne (Or.inl (hw _ (List.mem_of_getElem? (i := 25) rfl))) (Or.inl (hw _ (List.mem_of_getElem? (i := 30) rfl))) (by decide) (t := .long) (t' := .long) (by decide) (by decide)))
    have terms7 := Fterms.other W7 (Or.inr (slot_ne (Or.inl (hw _ (List.mem_of_getElem? (i := 28) rfl))) (Or.inl (hw _ (List.mem_of_getElem? (i := 30) rfl))) (by decide) (t := .long) (t' := .long) (by decide) (by decide)))
    have EE7 := EE.wr W7
    have K7 : Keep h0 h7 [a] := (Keep.refl h0 [a]).wr W7 (Or.inl (List.mem_of_getElem? (i := 0) rfl))
    exact own_retV X7 hx Bd.notSynchronized Bd.returns (hb hby own_d4_17) (by decide) (by decide) e7 ⟨rfl, N7, K7, by rw [show own_addi im ti vi = _ from if_pos hc2, show own_addm im ti vm = _ from if_pos hc2, show own_addp im ti vp = _ from if_pos hc2, show own_addt im ti vt = _ from if_pos hc2]; exact ⟨EE7, imageless7, millionths7, places7, terms7⟩⟩
  have sg8 : own_V p e below s₁ (mkF m 18 #[rv a, own_lv im, .second, iv ti] []) (mkF m 3 #[rv a, own_lv im, .second, iv ti] [(.int (lcmpW im (0 : Int64)))]) := by
    intro t kt
    refine XS.ifYes X0.here hx rfl (pc0 := 3) (pc' := 18) rfl (hb hby own_d4_3) rfl (own_fltL hc2).2 (by decide) (by decide) ?_
    exact kt
  refine own_st sg8 ?_
  have sg9 : own_V p e below s₁ (mkF m 20 #[rv a, own_lv im, .second, iv ti] [(.ref a), (.ref a)]) (mkF m 18 #[rv a, own_lv im, .second, iv ti] []) := by
    intro t kt
    refine XS.aloadN X0.here hx rfl (hb hby own_d4_18) rfl rfl ?_
    show own_S p e below s₁ m 19 #[rv a, own_lv im, .second, iv ti] [(.ref a)] _
    refine XS.dup X0.here hx rfl (hb hby own_d4_19) rfl rfl ?_
    show own_S p e below s₁ m 20 #[rv a, own_lv im, .second, iv ti] [(.ref a), (.ref a)] _
    exact kt
  refine own_st sg9 ?_
  obtain ⟨T10, X10, e10, st10⟩ := getF X0 hx hZ hown (host := "") (Or.inl (hw _ (List.mem_of_getElem? (i := 22) rfl))) Via.refl e0 Fmillionths (g := (mkF m 20 #[rv a, own_lv im, .second, iv ti] [(.ref a), (.ref a)])) rfl rfl (hb hby own_d4_20)
  refine own_st st10 ?_
  show own_Go p e below _ T10 (mkF m 23 #[rv a, own_lv im, .second, iv ti] [(.long vm), (.ref a)])
  have sg11 : own_V p e below T10 (mkF m 31 #[rv a, own_lv im, .second, iv ti] [(.long (vm + (((im.toUInt64 >>> ((32 : Int32) &&& 0x3f).toInt64.toUInt64).toInt64) * ti.toInt64))), (.ref a)]) (mkF m 23 #[rv a, own_lv im, .second, iv ti] [(.long vm), (.ref a)]) := by
    intro t kt
    refine XS.lloadN X10.here hx rfl (hb hby own_d4_23) rfl ?_
    show own_S p e below T10 m 24 #[rv a, own_lv im, .second, iv ti] [(.long im), (.long vm), (.ref a)] _
    refine XS.bipush X10.here hx rfl (hb hby own_d4_24) ?_
    show own_S p e below T10 m 26 #[rv a, own_lv im, .second, iv ti] [(.int (32 : Int32)), (.long im), (.long vm), (.ref a)] _
    refine XS.lushr X10.here hx rfl (hb hby own_d4_26) rfl ?_
    show own_S p e below T10 m 27 #[rv a, own_lv im, .second, iv ti] [(.long ((im.toUInt64 >>> ((32 : Int32) &&& 0x3f).toInt64.toUInt64).toInt64)), (.long vm), (.ref a)] _
    refine XS.iloadN X10.here hx rfl (hb hby own_d4_27) rfl ?_
    show own_S p e below T10 m 28 #[rv a, own_lv im, .second, iv ti] [(.int ti), (.long ((im.toUInt64 >>> ((32 : Int32) &&& 0x3f).toInt64.toUInt64).toInt64)), (.long vm), (.ref a)] _
    refine XS.i2l X10.here hx rfl (hb hby own_d4_28) rfl ?_
    show own_S p e below T10 m 29 #[rv a, own_lv im, .second, iv ti] [(.long ti.toInt64), (.long ((im.toUInt64 >>> ((32 : Int32) &&& 0x3f).toInt64.toUInt64).toInt64)), (.long vm), (.ref a)] _
    refine XS.lmul X10.here hx rfl (hb hby own_d4_29) rfl ?_
    show own_S p e below T10 m 30 #[rv a, own_lv im, .second, iv ti] [(.long (((im.toUInt64 >>> ((32 : Int32) &&& 0x3f).toInt64.toUInt64).toInt64) * ti.toInt64)), (.long vm), (.ref a)] _
    refine XS.ladd X10.here hx rfl (hb hby own_d4_30) rfl ?_
    show own_S p e below T10 m 31 #[rv a, own_lv im, .second, iv ti] [(.long (vm + (((im.toUInt64 >>> ((32 : Int32) &&& 0x3f).toInt64.toUInt64).toInt64) * ti.toInt64))), (.ref a)] _
    exact kt
  refine own_st sg11 ?_
  obtain ⟨T12, h12, X12, e12, W12, st12⟩ := putF X10 hx hZ hown (host := "") (Or.inl (hw _ (List.mem_of_getElem? (i := 22) rfl))) Via.refl e10 Fmillionths EE (Or.inl (hw _ (List.mem_of_getElem? (i := 23) rfl))) (hw _ (List.mem_of_getElem? (i := 9) rfl)) (ty := .long) (by decide) rfl rfl (g := (mkF m 31 #[rv a, own_lv im, .second, iv ti] [(.long (vm + (((im.toUInt64 >>> ((32 : Int32) &&& 0x3f).toInt64.toUInt64).toInt64) * ti.toInt64))), (.ref a)])) rfl rfl (hb hby own_d4_31)
  refine own_st st12 ?_
  have Z12 : n0 ≤ h12.size := by rw [Wr.size W12]; exact Z0
  have N12 := Fr.snoc X12 N0 g_a
  show own_Go p e below _ T12 (mkF m 34 #[rv a, own_lv im, .second, iv ti] [])
  have imageless12 := Fimageless.other W12 (Or.inr (slot_ne (Or.inl (hw _ (List.mem_of_getElem? (i := 30) rfl))) (Or.inl (hw _ (List.mem_of_getElem? (i := 23) rfl))) (by decide) (t := .long) (t' := .long) (by decide) (by decide)))
  have millionths12 := Fmillionths.same W12
  have places12 := Fplaces.other W12 (Or.inr (slot_ne (Or.inl (hw _ (List.mem_of_getElem? (i := 25) rfl))) (Or.inl (hw _ (List.mem_of_getElem? (i := 23) rfl))) (by decide) (t := .long) (t' := .long) (by decide) (by decide)))
  have terms12 := Fterms.other W12 (Or.inr (slot_ne (Or.inl (hw _ (List.mem_of_getElem? (i := 28) rfl))) (Or.inl (hw _ (List.mem_of_getElem? (i := 23) rfl))) (by decide) (t := .long) (t' := .long) (by decide) (by decide)))
  have EE12 := EE.wr W12
  have K12 : Keep h0 h12 [a] := (Keep.refl h0 [a]).wr W12 (Or.inl (List.mem_of_getElem? (i := 0) rfl))
  have sg13 : own_V p e below T12 (mkF m 36 #[rv a, own_lv im, .second, iv ti] [(.ref a), (.ref a)]) (mkF m 34 #[rv a, own_lv im, .second, iv ti] []) := by
    intro t kt
    refine XS.aloadN X12.here hx rfl (hb hby own_d4_34) rfl rfl ?_
    show own_S p e below T12 m 35 #[rv a, own_lv im, .second, iv ti] [(.ref a)] _
    refine XS.dup X12.here hx rfl (hb hby own_d4_35) rfl rfl ?_
    show own_S p e below T12 m 36 #[rv a, own_lv im, .second, iv ti] [(.ref a), (.ref a)] _
    exact kt
  refine own_st sg13 ?_
  obtain ⟨T14, X14, e14, st14⟩ := getF X12 hx hZ hown (host := "") (Or.inl (hw _ (List.mem_of_getElem? (i := 24) rfl))) Via.refl e12 places12 (g := (mkF m 36 #[rv a, own_lv im, .second, iv ti] [(.ref a), (.ref a)])) rfl rfl (hb hby own_d4_36)
  refine own_st st14 ?_
  show own_Go p e below _ T14 (mkF m 39 #[rv a, own_lv im, .second, iv ti] [(.long vp), (.ref a)])
  have sg15 : own_V p e below T14 (mkF m 48 #[rv a, own_lv im, .second, iv ti] [(.long (vp + ((im &&& (4294967295 : Int64)) * ti.toInt64))), (.ref a)]) (mkF m 39 #[rv a, own_lv im, .second, iv ti] [(.long vp), (.ref a)]) := by
    intro t kt
    refine XS.lloadN X14.here hx rfl (hb hby own_d4_39) rfl ?_
    show own_S p e below T14 m 40 #[rv a, own_lv im, .second, iv ti] [(.long im), (.long vp), (.ref a)] _
    refine X14.ldc2Long hx hown (mvT hZ (hw _ (List.mem_of_getElem? (i := 26) rfl))) (g := (mkF m 40 #[rv a, own_lv im, .second, iv ti] [(.long im), (.long vp), (.ref a)])) rfl (hb hby own_d4_40) _ ?_
    show own_S p e below T14 m 43 #[rv a, own_lv im, .second, iv ti] [(.long (4294967295 : Int64)), (.long im), (.long vp), (.ref a)] _
    refine XS.land X14.here hx rfl (hb hby own_d4_43) rfl ?_
    show own_S p e below T14 m 44 #[rv a, own_lv im, .second, iv ti] [(.long (im &&& (4294967295 : Int64))), (.long vp), (.ref a)] _
    refine XS.iloadN X14.here hx rfl (hb hby own_d4_44) rfl ?_
    show own_S p e below T14 m 45 #[rv a, own_lv im, .second, iv ti] [(.int ti), (.long (im &&& (4294967295 : Int64))), (.long vp), (.ref a)] _
    refine XS.i2l X14.here hx rfl (hb hby own_d4_45) rfl ?_
    show own_S p e below T14 m 46 #[rv a, own_lv im, .second, iv ti] [(.long ti.toInt64), (.long (im &&& (4294967295 : Int64))), (.long vp), (.ref a)] _
    refine XS.lmul X14.here hx rfl (hb hby own_d4_46) rfl ?_
    show own_S p e below T14 m 47 #[rv a, own_lv im, .second, iv ti] [(.long ((im &&& (4294967295 : Int64)) * ti.toInt64)), (.long vp), (.ref a)] _
    refine XS.ladd X14.here hx rfl (hb hby own_d4_47) rfl ?_
    show own_S p e below T14 m 48 #[rv a, own_lv im, .second, iv ti] [(.long (vp + ((im &&& (4294967295 : Int64)) * ti.toInt64))), (.ref a)] _
    exact kt
  refine own_st sg15 ?_
  obtain ⟨T16, h16, X16, e16, W16, st16⟩ := putF X14 hx hZ hown (host := "") (Or.inl (hw _ (List.mem_of_getElem? (i := 24) rfl))) Via.refl e14 places12 EE12 (Or.inl (hw _ (List.mem_of_getElem? (i := 25) rfl))) (hw _ (List.mem_of_getElem? (i := 9) rfl)) (ty := .long) (by decide) rfl rfl (g := (mkF m 48 #[rv a, own_lv im, .second, iv ti] [(.long (vp + ((im &&& (4294967295 : Int64)) * ti.toInt64))), (.ref a)])) rfl rfl (hb hby own_d4_48)
  refine own_st st16 ?_
  have Z16 : n0 ≤ h16.size := by rw [Wr.size W16]; exact Z12
  have N16 := Fr.snoc X16 N12 g_a
  show own_Go p e below _ T16 (mkF m 51 #[rv a, own_lv im, .second, iv ti] [])
  have imageless16 := imageless12.other W16 (Or.inr (slot_ne (Or.inl (hw _ (List.mem_of_getElem? (i := 30) rfl))) (Or.inl (hw _ (List.mem_of_getElem? (i := 25) rfl))) (by decide) (t := .long) (t' := .long) (by decide) (by decide)))
  have millionths16 := millionths12.other W16 (Or.inr (slot_ne (Or.inl (hw _ (List.mem_of_getElem? (i := 23) rfl))) (Or.inl (hw _ (List.mem_of_getElem? (i := 25) rfl))) (by decide) (t := .long) (t' := .long) (by decide) (by decide)))
  have places16 := places12.same W16
  have terms16 := terms12.other W16 (Or.inr (slot_ne (Or.inl (hw _ (List.mem_of_getElem? (i := 28) rfl))) (Or.inl (hw _ (List.mem_of_getElem? (i := 25) rfl))) (by decide) (t := .long) (t' := .long) (by decide) (by decide)))
  have EE16 := EE12.wr W16
  have K16 : Keep h0 h16 [a] := K12.wr W16 (Or.inl (List.mem_of_getElem? (i := 0) rfl))
  have sg17 : own_V p e below T16 (mkF m 53 #[rv a, own_lv im, .second, iv ti] [(.ref a), (.ref a)]) (mkF m 51 #[rv a, own_lv im, .second, iv ti] []) := by
    intro t kt
    refine XS.aloadN X16.here hx rfl (hb hby own_d4_51) rfl rfl ?_
    show own_S p e below T16 m 52 #[rv a, own_lv im, .second, iv ti] [(.ref a)] _
    refine XS.dup X16.here hx rfl (hb hby own_d4_52) rfl rfl ?_
    show own_S p e below T16 m 53 #[rv a, own_lv im, .second, iv ti] [(.ref a), (.ref a)] _
    exact kt
  refine own_st sg17 ?_
  obtain ⟨T18, X18, e18, st18⟩ := getF X16 hx hZ hown (host := "") (Or.inl (hw _ (List.mem_of_getElem? (i := 27) rfl))) Via.refl e16 terms16 (g := (mkF m 53 #[rv a, own_lv im, .second, iv ti] [(.ref a), (.ref a)])) rfl rfl (hb hby own_d4_53)
  refine own_st st18 ?_
  show own_Go p e below _ T18 (mkF m 56 #[rv a, own_lv im, .second, iv ti] [(.long vt), (.ref a)])
  have sg19 : own_V p e below T18 (mkF m 59 #[rv a, own_lv im, .second, iv ti] [(.long (vt + ti.toInt64)), (.ref a)]) (mkF m 56 #[rv a, own_lv im, .second, iv ti] [(.long vt), (.ref a)]) := by
    intro t kt
    refine XS.iloadN X18.here hx rfl (hb hby own_d4_56) rfl ?_
    show own_S p e below T18 m 57 #[rv a, own_lv im, .second, iv ti] [(.int ti), (.long vt), (.ref a)] _
    refine XS.i2l X18.here hx rfl (hb hby own_d4_57) rfl ?_
    show own_S p e below T18 m 58 #[rv a, own_lv im, .second, iv ti] [(.long ti.toInt64), (.long vt), (.ref a)] _
    refine XS.ladd X18.here hx rfl (hb hby own_d4_58) rfl ?_
    show own_S p e below T18 m 59 #[rv a, own_lv im, .second, iv ti] [(.long (vt + ti.toInt64)), (.ref a)] _
    exact kt
  refine own_st sg19 ?_
  obtain ⟨T20, h20, X20, e20, W20, st20⟩ := putF X18 hx hZ hown (host := "") (Or.inl (hw _ (List.mem_of_getElem? (i := 27) rfl))) Via.refl e18 terms16 EE16 (Or.inl (hw _ (List.mem_of_getElem? (i := 28) rfl))) (hw _ (List.mem_of_getElem? (i := 9) rfl)) (ty := .long) (by decide) rfl rfl (g := (mkF m 59 #[rv a, own_lv im, .second, iv ti] [(.long (vt + ti.toInt64)), (.ref a)])) rfl rfl (hb hby own_d4_59)
  refine own_st st20 ?_
  have Z20 : n0 ≤ h20.size := by rw [Wr.size W20]; exact Z16
  have N20 := Fr.snoc X20 N16 g_a
  show own_Go p e below _ T20 (mkF m 62 #[rv a, own_lv im, .second, iv ti] [])
  have imageless20 := imageless16.other W20 (Or.inr (slot_ne (Or.inl (hw _ (List.mem_of_getElem? (i := 30) rfl))) (Or.inl (hw _ (List.mem_of_getElem? (i := 28) rfl))) (by decide) (t := .long) (t' := .long) (by decide) (by decide)))
  have millionths20 := millionths16.other W20 (Or.inr (slot_ne (Or.inl (hw _ (List.mem_of_getElem? (i := 23) rfl))) (Or.inl (hw _ (List.mem_of_getElem? (i := 28) rfl))) (by decide) (t := .long) (t' := .long) (by decide) (by decide)))
  have places20 := places16.other W20 (Or.inr (slot_ne (Or.inl (hw _ (List.mem_of_getElem? (i := 25) rfl))) (Or.inl (hw _ (List.mem_of_getElem? (i := 28) rfl))) (by decide) (t := .long) (t' := .long) (by decide) (by decide)))
  have terms20 := terms16.same W20
  have EE20 := EE16.wr W20
  have K20 : Keep h0 h20 [a] := K16.wr W20 (Or.inl (List.mem_of_getElem? (i := 0) rfl))
  exact own_retV X20 hx Bd.notSynchronized Bd.returns (hb hby own_d4_62) (by decide) (by decide) e20 ⟨rfl, N20, K20, by rw [show own_addi im ti vi = _ from if_neg hc2, show own_addm im ti vm = _ from if_neg hc2, show own_addp im ti vp = _ from if_neg hc2, show own_addt im ti vt = _ from if_neg hc2]; exact ⟨EE20, imageless20, millionths20, places20, terms20⟩⟩
theorem own_d6_0 : decode prog_58_method_7_code 0 = .ok (.aload_n 0, 1) := by decide +kernel
theorem own_d6_1 : decode prog_58_method_7_code 1 = .ok (.getfield 15, 3) := by decide +kernel
theorem own_d6_4 : decode prog_58_method_7_code 4 = .ok (.lconst 0, 1) := by decide +kernel
theorem own_d6_5 : decode prog_58_method_7_code 5 = .ok (.lcmp, 1) := by decide +kernel
theorem own_d6_6 : decode prog_58_method_7_code 6 = .ok (.ifCond .gt 14, 3) := by decide +kernel
theorem own_d6_9 : decode prog_58_method_7_code 9 = .ok (.aload_n 0, 1) := by decide +kernel
theorem own_d6_10 : decode prog_58_method_7_code 10 = .ok (.getfield 27, 3) := by decide +kernel
theorem own_d6_13 : decode prog_58_method_7_code 13 = .ok (.ldc2_w 42, 3) := by decide +kernel
theorem own_d6_16 : decode prog_58_method_7_code 16 = .ok (.lcmp, 1) := by decide +kernel
theorem own_d6_17 : decode prog_58_method_7_code 17 = .ok (.ifCond .le 7, 3) := by decide +kernel
theorem own_d6_20 : decode prog_58_method_7_code 20 = .ok (.ldc2_w 44, 3) := by decide +kernel
theorem own_d6_23 : decode prog_58_method_7_code 23 = .ok (.lreturn, 1) := by decide +kernel
theorem own_d6_24 : decode prog_58_method_7_code 24 = .ok (.aload_n 0, 1) := by decide +kernel
theorem own_d6_25 : decode prog_58_method_7_code 25 = .ok (.getfield 19, 3) := by decide +kernel
theorem own_d6_28 : decode prog_58_method_7_code 28 = .ok (.aload_n 0, 1) := by decide +kernel
theorem own_d6_29 : decode prog_58_method_7_code 29 = .ok (.getfield 22, 3) := by decide +kernel
theorem own_d6_32 : decode prog_58_method_7_code 32 = .ok (.bipush 32, 2) := by decide +kernel
theorem own_d6_34 : decode prog_58_method_7_code 34 = .ok (.lushr, 1) := by decide +kernel
theorem own_d6_35 : decode prog_58_method_7_code 35 = .ok (.ladd, 1) := by decide +kernel
theorem own_d6_36 : decode prog_58_method_7_code 36 = .ok (.lstore_n 1, 1) := by decide +kernel
theorem own_d6_37 : decode prog_58_method_7_code 37 = .ok (.aload_n 0, 1) := by decide +kernel
theorem own_d6_38 : decode prog_58_method_7_code 38 = .ok (.getfield 22, 3) := by decide +kernel
theorem own_d6_41 : decode prog_58_method_7_code 41 = .ok (.ldc2_w 25, 3) := by decide +kernel
theorem own_d6_44 : decode prog_58_method_7_code 44 = .ok (.land, 1) := by decide +kernel
theorem own_d6_45 : decode prog_58_method_7_code 45 = .ok (.lstore_n 3, 1) := by decide +kernel
theorem own_d6_46 : decode prog_58_method_7_code 46 = .ok (.lload_n 3, 1) := by decide +kernel
theorem own_d6_47 : decode prog_58_method_7_code 47 = .ok (.aload_n 0, 1) := by decide +kernel
theorem own_d6_48 : decode prog_58_method_7_code 48 = .ok (.getfield 27, 3) := by decide +kernel
theorem own_d6_51 : decode prog_58_method_7_code 51 = .ok (.ladd, 1) := by decide +kernel
theorem own_d6_52 : decode prog_58_method_7_code 52 = .ok (.ldc2_w 46, 3) := by decide +kernel
theorem own_d6_55 : decode prog_58_method_7_code 55 = .ok (.lcmp, 1) := by decide +kernel
theorem own_d6_56 : decode prog_58_method_7_code 56 = .ok (.ifCond .gt 5, 3) := by decide +kernel
theorem own_d6_59 : decode prog_58_method_7_code 59 = .ok (.lload_n 1, 1) := by decide +kernel
theorem own_d6_60 : decode prog_58_method_7_code 60 = .ok (.lreturn, 1) := by decide +kernel
theorem own_d6_61 : decode prog_58_method_7_code 61 = .ok (.lload_n 3, 1) := by decide +kernel
theorem own_d6_62 : decode prog_58_method_7_code 62 = .ok (.ldc2_w 46, 3) := by decide +kernel
theorem own_d6_65 : decode prog_58_method_7_code 65 = .ok (.lcmp, 1) := by decide +kernel
theorem own_d6_66 : decode prog_58_method_7_code 66 = .ok (.ifCond .le 7, 3) := by decide +kernel
theorem own_d6_69 : decode prog_58_method_7_code 69 = .ok (.lload_n 1, 1) := by decide +kernel
theorem own_d6_70 : decode prog_58_method_7_code 70 = .ok (.lconst 1, 1) := by decide +kernel
theorem own_d6_71 : decode prog_58_method_7_code 71 = .ok (.ladd, 1) := by decide +kernel
theorem own_d6_72 : decode prog_58_method_7_code 72 = .ok (.lreturn, 1) := by decide +kernel
theorem own_d6_73 : decode prog_58_method_7_code 73 = .ok (.ldc2_w 44, 3) := by decide +kernel
theorem own_d6_76 : decode prog_58_method_7_code 76 = .ok (.lreturn, 1) := by decide +kernel
def own_rnd (vi vm vp vt : Int64) : Int64 := if (0 : Int64) < vi then (-1 : Int64) else (if (1073741824 : Int64) < vt then (-1 : Int64) else (if (2147483648 : Int64) < ((vp &&& (4294967295 : Int64)) + vt) then (if (2147483648 : Int64) < (vp &&& (4294967295 : Int64)) then ((vm + ((vp.toUInt64 >>> ((32 : Int32) &&& 0x3f).toInt64.toUInt64).toInt64)) + (1 : Int64)) else (-1 : Int64)) else (vm + ((vp.toUInt64 >>> ((32 : Int32) &&& 0x3f).toInt64.toUInt64).toInt64))))
theorem own_efrnd (m : MethodId) (a : Nat) : entryFrame m #[(.ref a)] 5 = mkF m 0 #[rv a, .unset, .unset, .unset, .unset] [] := by first | (simp [entryFrame, mkF, argsToLocals, Value.category]; done) | rfl
set_option maxRecDepth 65536 in
set_option maxHeartbeats 40000000 in
theorem own_rmrnd (l : Launch) (Z : State) (a0 : Array Value) (hw : ∀ d ∈ tables_1, d.before a0 Z = true) (a : Nat) (vi vm vp vt : Int64) (h0 : Heap) (n0 : Nat) (Z0 : n0 ≤ h0.size) (SS : own_Sum Z h0 a vi vm vp vt) :
    own_Ct l Z (⟨"com/example/coverfold/coverfold/Figures$Sum", "rounded", "()J"⟩ : MethodName) prog_58_method_7_code 5 (some .long) ({ frames := 0, cells := 0, slots := 0, locals := 0 } : Room) #[(.ref a)] h0 (fun v h L => v = some (.long (own_rnd vi vm vp vt)) ∧ Fr n0 L ∧ h = h0) := by
  refine own_body (y := (⟨"com/example/coverfold/coverfold/Figures$Sum", "rounded", "()J"⟩ : MethodName)) (Q := fun v h L => v = some (.long (own_rnd vi vm vp vt)) ∧ Fr n0 L ∧ h = h0) (plainFor_of_name own_pn2) ?_
  intro p e s m below meth c s₁ Bd hml0 hZ e0
  have hx := Bd.exec
  have hby := Bd.bytes
  have hml : c.maxLocals = 5 := hml0
  have hown : s.vm.findClass "com/example/coverfold/coverfold/Figures$Sum" = some m.cls := findClass_of_methodNamed Bd.named
  have hnm := (name_of_methodNamed Bd.named Bd.method).1
  have X0 : Stand p l e ({ frames := 0, cells := 0, slots := 0, locals := 0 } : Room) s m #[(.ref a)] below meth c s₁ [] 0 0 := Stand.of_body Bd
  have N0 := Fr.nil n0
  rw [own_efrnd]
  obtain ⟨EE, Fimageless, Fmillionths, Fplaces, Fterms⟩ := SS
  have sg1 : own_V p e below s₁ (mkF m 1 #[rv a, .unset, .unset, .unset, .unset] [(.ref a)]) (mkF m 0 #[rv a, .unset, .unset, .unset, .unset] []) := by
    intro t kt
    refine XS.aloadN X0.here hx rfl (hb hby own_d6_0) rfl rfl ?_
    show own_S p e below s₁ m 1 #[rv a, .unset, .unset, .unset, .unset] [(.ref a)] _
    exact kt
  refine own_st sg1 ?_
  obtain ⟨T2, X2, e2, st2⟩ := getF X0 hx hZ hown (host := "") (Or.inl (hw _ (List.mem_of_getElem? (i := 29) rfl))) Via.refl e0 Fimageless (g := (mkF m 1 #[rv a, .unset, .unset, .unset, .unset] [(.ref a)])) rfl rfl (hb hby own_d6_1)
  refine own_st st2 ?_
  show own_Go p e below _ T2 (mkF m 4 #[rv a, .unset, .unset, .unset, .unset] [(.long vi)])
  have sg3 : own_V p e below T2 (mkF m 6 #[rv a, .unset, .unset, .unset, .unset] [(.int (lcmpW vi (0 : Int64)))]) (mkF m 4 #[rv a, .unset, .unset, .unset, .unset] [(.long vi)]) := by
    intro t kt
    refine XS.lconst X2.here hx rfl (hb hby own_d6_4) ?_
    show own_S p e below T2 m 5 #[rv a, .unset, .unset, .unset, .unset] [(.long (0 : Int64)), (.long vi)] _
    refine XS.lcmp X2.here hx rfl (hb hby own_d6_5) rfl ?_
    show own_S p e below T2 m 6 #[rv a, .unset, .unset, .unset, .unset] [(.int (lcmpW vi (0 : Int64)))] _
    exact kt
  refine own_st sg3 ?_
  by_cases hc4 : (0 : Int64) < vi
  · skip
    have sg5 : own_V p e below T2 (mkF m 20 #[rv a, .unset, .unset, .unset, .unset] []) (mkF m 6 #[rv a, .unset, .unset, .unset, .unset] [(.int (lcmpW vi (0 : Int64)))]) := by
      intro t kt
      refine XS.ifYes X2.here hx rfl (pc0 := 6) (pc' := 20) rfl (hb hby own_d6_6) rfl (own_tgtL hc4).1 (by decide) (by decide) ?_
      exact kt
    refine own_st sg5 ?_
    have sg6 : own_V p e below T2 (mkF m 23 #[rv a, .unset, .unset, .unset, .unset] [(.long (-1 : Int64))]) (mkF m 20 #[rv a, .unset, .unset, .unset, .unset] []) := by
      intro t kt
      refine X2.ldc2Long hx hown (mvT hZ (hw _ (List.mem_of_getElem? (i := 42) rfl))) (g := (mkF m 20 #[rv a, .unset, .unset, .unset, .unset] [])) rfl (hb hby own_d6_20) _ ?_
      show own_S p e below T2 m 23 #[rv a, .unset, .unset, .unset, .unset] [(.long (-1 : Int64))] _
      exact kt
    refine own_st sg6 ?_
    have hF : own_rnd vi vm vp vt = (-1 : Int64) := by unfold own_rnd; rw [if_pos hc4]
    exact own_retJ X2 hx Bd.notSynchronized Bd.returns (hb hby own_d6_23) (by decide) (by decide) e2 ⟨by rw [hF], N0, rfl⟩
  have sg7 : own_V p e below T2 (mkF m 9 #[rv a, .unset, .unset, .unset, .unset] []) (mkF m 6 #[rv a, .unset, .unset, .unset, .unset] [(.int (lcmpW vi (0 : Int64)))]) := by
    intro t kt
    refine XS.ifNo X2.here hx rfl (hb hby own_d6_6) rfl (own_fgtL hc4).1 ?_
    exact kt
  refine own_st sg7 ?_
  have sg8 : own_V p e below T2 (mkF m 10 #[rv a, .unset, .unset, .unset, .unset] [(.ref a)]) (mkF m 9 #[rv a, .unset, .unset, .unset, .unset] []) := by
    intro t kt
    refine XS.aloadN X2.here hx rfl (hb hby own_d6_9) rfl rfl ?_
    show own_S p e below T2 m 10 #[rv a, .unset, .unset, .unset, .unset] [(.ref a)] _
    exact kt
  refine own_st sg8 ?_
  obtain ⟨T9, X9, e9, st9⟩ := getF X2 hx hZ hown (host := "") (Or.inl (hw _ (List.mem_of_getElem? (i := 27) rfl))) Via.refl e2 Fterms (g := (mkF m 10 #[rv a, .unset, .unset, .unset, .unset] [(.ref a)])) rfl rfl (hb hby own_d6_10)
  refine own_st st9 ?_
  show own_Go p e below _ T9 (mkF m 13 #[rv a, .unset, .unset, .unset, .unset] [(.long vt)])
  have sg10 : own_V p e below T9 (mkF m 17 #[rv a, .unset, .unset, .unset, .unset] [(.int (lcmpW vt (1073741824 : Int64)))]) (mkF m 13 #[rv a, .unset, .unset, .unset, .unset] [(.long vt)]) := by
    intro t kt
    refine X9.ldc2Long hx hown (mvT hZ (hw _ (List.mem_of_getElem? (i := 44) rfl))) (g := (mkF m 13 #[rv a, .unset, .unset, .unset, .unset] [(.long vt)])) rfl (hb hby own_d6_13) _ ?_
    show own_S p e below T9 m 16 #[rv a, .unset, .unset, .unset, .unset] [(.long (1073741824 : Int64)), (.long vt)] _
    refine XS.lcmp X9.here hx rfl (hb hby own_d6_16) rfl ?_
    show own_S p e below T9 m 17 #[rv a, .unset, .unset, .unset, .unset] [(.int (lcmpW vt (1073741824 : Int64)))] _
    exact kt
  refine own_st sg10 ?_
  by_cases hc11 : (1073741824 : Int64) < vt
  · skip
    have sg12 : own_V p e below T9 (mkF m 20 #[rv a, .unset, .unset, .unset, .unset] []) (mkF m 17 #[rv a, .unset, .unset, .unset, .unset] [(.int (lcmpW vt (1073741824 : Int64)))]) := by
      intro t kt
      refine XS.ifNo X9.here hx rfl (hb hby own_d6_17) rfl (own_tgtL hc11).2 ?_
      exact kt
    refine own_st sg12 ?_
    have sg13 : own_V p e below T9 (mkF m 23 #[rv a, .unset, .unset, .unset, .unset] [(.long (-1 : Int64))]) (mkF m 20 #[rv a, .unset, .unset, .unset, .unset] []) := by
      intro t kt
      refine X9.ldc2Long hx hown (mvT hZ (hw _ (List.mem_of_getElem? (i := 42) rfl))) (g := (mkF m 20 #[rv a, .unset, .unset, .unset, .unset] [])) rfl (hb hby own_d6_20) _ ?_
      show own_S p e below T9 m 23 #[rv a, .unset, .unset, .unset, .unset] [(.long (-1 : Int64))] _
      exact kt
    refine own_st sg13 ?_
    have hF : own_rnd vi vm vp vt = (-1 : Int64) := by unfold own_rnd; rw [if_neg hc4, if_pos hc11]
    exact own_retJ X9 hx Bd.notSynchronized Bd.returns (hb hby own_d6_23) (by decide) (by decide) e9 ⟨by rw [hF], N0, rfl⟩
  have sg14 : own_V p e below T9 (mkF m 24 #[rv a, .unset, .unset, .unset, .unset] []) (mkF m 17 #[rv a, .unset, .unset, .unset, .unset] [(.int (lcmpW vt (1073741824 : Int64)))]) := by
    intro t kt
    refine XS.ifYes X9.here hx rfl (pc0 := 17) (pc' := 24) rfl (hb hby own_d6_17) rfl (own_fgtL hc11).2 (by decide) (by decide) ?_
    exact kt
  refine own_st sg14 ?_
  have sg15 : own_V p e below T9 (mkF m 25 #[rv a, .unset, .unset, .unset, .unset] [(.ref a)]) (mkF m 24 #[rv a, .unset, .unset, .unset, .unset] []) := by
    intro t kt
    refine XS.aloadN X9.here hx rfl (hb hby own_d6_24) rfl rfl ?_
    show own_S p e below T9 m 25 #[rv a, .unset, .unset, .unset, .unset] [(.ref a)] _
    exact kt
  refine own_st sg15 ?_
  obtain ⟨T16, X16, e16, st16⟩ := getF X9 hx hZ hown (host := "") (Or.inl (hw _ (List.mem_of_getElem? (i := 22) rfl))) Via.refl e9 Fmillionths (g := (mkF m 25 #[rv a, .unset, .unset, .unset, .unset] [(.ref a)])) rfl rfl (hb hby own_d6_25)
  refine own_st st16 ?_
  show own_Go p e below _ T16 (mkF m 28 #[rv a, .unset, .unset, .unset, .unset] [(.long vm)])
  have sg17 : own_V p e below T16 (mkF m 29 #[rv a, .unset, .unset, .unset, .unset] [(.ref a), (.long vm)]) (mkF m 28 #[rv a, .unset, .unset, .unset, .unset] [(.long vm)]) := by
    intro t kt
    refine XS.aloadN X16.here hx rfl (hb hby own_d6_28) rfl rfl ?_
    show own_S p e below T16 m 29 #[rv a, .unset, .unset, .unset, .unset] [(.ref a), (.long vm)] _
    exact kt
  refine own_st sg17 ?_
  obtain ⟨T18, X18, e18, st18⟩ := getF X16 hx hZ hown (host := "") (Or.inl (hw _ (List.mem_of_getElem? (i := 24) rfl))) Via.refl e16 Fplaces (g := (mkF m 29 #[rv a, .unset, .unset, .unset, .unset] [(.ref a), (.long vm)])) rfl rfl (hb hby own_d6_29)
  refine own_st st18 ?_
  show own_Go p e below _ T18 (mkF m 32 #[rv a, .unset, .unset, .unset, .unset] [(.long vp), (.long vm)])
  have sg19 : own_V p e below T18 (mkF m 38 #[rv a, own_lv (vm + ((vp.toUInt64 >>> ((32 : Int32) &&& 0x3f).toInt64.toUInt64).toInt64)), .second, .unset, .unset] [(.ref a)]) (mkF m 32 #[rv a, .unset, .unset, .unset, .unset] [(.long vp), (.long vm)]) := by
    intro t kt
    refine XS.bipush X18.here hx rfl (hb hby own_d6_32) ?_
    show own_S p e below T18 m 34 #[rv a, .unset, .unset, .unset, .unset] [(.int (32 : Int32)), (.long vp), (.long vm)] _
    refine XS.lushr X18.here hx rfl (hb hby own_d6_34) rfl ?_
    show own_S p e below T18 m 35 #[rv a, .unset, .unset, .unset, .unset] [(.long ((vp.toUInt64 >>> ((32 : Int32) &&& 0x3f).toInt64.toUInt64).toInt64)), (.long vm)] _
    refine XS.ladd X18.here hx rfl (hb hby own_d6_35) rfl ?_
    show own_S p e below T18 m 36 #[rv a, .unset, .unset, .unset, .unset] [(.long (vm + ((vp.toUInt64 >>> ((32 : Int32) &&& 0x3f).toInt64.toUInt64).toInt64)))] _
    refine XS.lstoreN X18.here hx rfl (hb hby own_d6_36) rfl (l' := #[rv a, own_lv (vm + ((vp.toUInt64 >>> ((32 : Int32) &&& 0x3f).toInt64.toUInt64).toInt64)), .second, .unset, .unset]) rfl ?_
    show own_S p e below T18 m 37 #[rv a, own_lv (vm + ((vp.toUInt64 >>> ((32 : Int32) &&& 0x3f).toInt64.toUInt64).toInt64)), .second, .unset, .unset] [] _
    refine XS.aloadN X18.here hx rfl (hb hby own_d6_37) rfl rfl ?_
    show own_S p e below T18 m 38 #[rv a, own_lv (vm + ((vp.toUInt64 >>> ((32 : Int32) &&& 0x3f).toInt64.toUInt64).toInt64)), .second, .unset, .unset] [(.ref a)] _
    exact kt
  refine own_st sg19 ?_
  obtain ⟨T20, X20, e20, st20⟩ := getF X18 hx hZ hown (host := "") (Or.inl (hw _ (List.mem_of_getElem? (i := 24) rfl))) Via.refl e18 Fplaces (g := (mkF m 38 #[rv a, own_lv (vm + ((vp.toUInt64 >>> ((32 : Int32) &&& 0x3f).toInt64.toUInt64).toInt64)), .second, .unset, .unset] [(.ref a)])) rfl rfl (hb hby own_d6_38)
  refine own_st st20 ?_
  show own_Go p e below _ T20 (mkF m 41 #[rv a, own_lv (vm + ((vp.toUInt64 >>> ((32 : Int32) &&& 0x3f).toInt64.toUInt64).toInt64)), .second, .unset, .unset] [(.long vp)])
  have sg21 : own_V p e below T20 (mkF m 48 #[rv a, own_lv (vm + ((vp.toUInt64 >>> ((32 : Int32) &&& 0x3f).toInt64.toUInt64).toInt64)), .second, own_lv (vp &&& (4294967295 : Int64)), .second] [(.ref a), (.long (vp &&& (4294967295 : Int64)))]) (mkF m 41 #[rv a, own_lv (vm + ((vp.toUInt64 >>> ((32 : Int32) &&& 0x3f).toInt64.toUInt64).toInt64)), .second, .unset, .unset] [(.long vp)]) := by
    intro t kt
    refine X20.ldc2Long hx hown (mvT hZ (hw _ (List.mem_of_getElem? (i := 26) rfl))) (g := (mkF m 41 #[rv a, own_lv (vm + ((vp.toUInt64 >>> ((32 : Int32) &&& 0x3f).toInt64.toUInt64).toInt64)), .second, .unset, .unset] [(.long vp)])) rfl (hb hby own_d6_41) _ ?_
    show own_S p e below T20 m 44 #[rv a, own_lv (vm + ((vp.toUInt64 >>> ((32 : Int32) &&& 0x3f).toInt64.toUInt64).toInt64)), .second, .unset, .unset] [(.long (4294967295 : Int64)), (.long vp)] _
    refine XS.land X20.here hx rfl (hb hby own_d6_44) rfl ?_
    show own_S p e below T20 m 45 #[rv a, own_lv (vm + ((vp.toUInt64 >>> ((32 : Int32) &&& 0x3f).toInt64.toUInt64).toInt64)), .second, .unset, .unset] [(.long (vp &&& (4294967295 : Int64)))] _
    refine XS.lstoreN X20.here hx rfl (hb hby own_d6_45) rfl (l' := #[rv a, own_lv (vm + ((vp.toUInt64 >>> ((32 : Int32) &&& 0x3f).toInt64.toUInt64).toInt64)), .second, own_lv (vp &&& (4294967295 : Int64)), .second]) rfl ?_
    show own_S p e below T20 m 46 #[rv a, own_lv (vm + ((vp.toUInt64 >>> ((32 : Int32) &&& 0x3f).toInt64.toUInt64).toInt64)), .second, own_lv (vp &&& (4294967295 : Int64)), .second] [] _
    refine XS.lloadN X20.here hx rfl (hb hby own_d6_46) rfl ?_
    show own_S p e below T20 m 47 #[rv a, own_lv (vm + ((vp.toUInt64 >>> ((32 : Int32) &&& 0x3f).toInt64.toUInt64).toInt64)), .second, own_lv (vp &&& (4294967295 : Int64)), .second] [(.long (vp &&& (4294967295 : Int64)))] _
    refine XS.aloadN X20.here hx rfl (hb hby own_d6_47) rfl rfl ?_
    show own_S p e below T20 m 48 #[rv a, own_lv (vm + ((vp.toUInt64 >>> ((32 : Int32) &&& 0x3f).toInt64.toUInt64).toInt64)), .second, own_lv (vp &&& (4294967295 : Int64)), .second] [(.ref a), (.long (vp &&& (4294967295 : Int64)))] _
    exact kt
  refine own_st sg21 ?_
  obtain ⟨T22, X22, e22, st22⟩ := getF X20 hx hZ hown (host := "") (Or.inl (hw _ (List.mem_of_getElem? (i := 27) rfl))) Via.refl e20 Fterms (g := (mkF m 48 #[rv a, own_lv (vm + ((vp.toUInt64 >>> ((32 : Int32) &&& 0x3f).toInt64.toUInt64).toInt64)), .second, own_lv (vp &&& (4294967295 : Int64)), .second] [(.ref a), (.long (vp &&& (4294967295 : Int64)))])) rfl rfl (hb hby own_d6_48)
  refine own_st st22 ?_
  show own_Go p e below _ T22 (mkF m 51 #[rv a, own_lv (vm + ((vp.toUInt64 >>> ((32 : Int32) &&& 0x3f).toInt64.toUInt64).toInt64)), .second, own_lv (vp &&& (4294967295 : Int64)), .second] [(.long vt), (.long (vp &&& (4294967295 : Int64)))])
  have sg23 : own_V p e below T22 (mkF m 56 #[rv a, own_lv (vm + ((vp.toUInt64 >>> ((32 : Int32) &&& 0x3f).toInt64.toUInt64).toInt64)), .second, own_lv (vp &&& (4294967295 : Int64)), .second] [(.int (lcmpW ((vp &&& (4294967295 : Int64)) + vt) (2147483648 : Int64)))]) (mkF m 51 #[rv a, own_lv (vm + ((vp.toUInt64 >>> ((32 : Int32) &&& 0x3f).toInt64.toUInt64).toInt64)), .second, own_lv (vp &&& (4294967295 : Int64)), .second] [(.long vt), (.long (vp &&& (4294967295 : Int64)))]) := by
    intro t kt
    refine XS.ladd X22.here hx rfl (hb hby own_d6_51) rfl ?_
    show own_S p e below T22 m 52 #[rv a, own_lv (vm + ((vp.toUInt64 >>> ((32 : Int32) &&& 0x3f).toInt64.toUInt64).toInt64)), .second, own_lv (vp &&& (4294967295 : Int64)), .second] [(.long ((vp &&& (4294967295 : Int64)) + vt))] _
    refine X22.ldc2Long hx hown (mvT hZ (hw _ (List.mem_of_getElem? (i := 45) rfl))) (g := (mkF m 52 #[rv a, own_lv (vm + ((vp.toUInt64 >>> ((32 : Int32) &&& 0x3f).toInt64.toUInt64).toInt64)), .second, own_lv (vp &&& (4294967295 : Int64)), .second] [(.long ((vp &&& (4294967295 : Int64)) + vt))])) rfl (hb hby own_d6_52) _ ?_
    show own_S p e below T22 m 55 #[rv a, own_lv (vm + ((vp.toUInt64 >>> ((32 : Int32) &&& 0x3f).toInt64.toUInt64).toInt64)), .second, own_lv (vp &&& (4294967295 : Int64)), .second] [(.long (2147483648 : Int64)), (.long ((vp &&& (4294967295 : Int64)) + vt))] _
    refine XS.lcmp X22.here hx rfl (hb hby own_d6_55) rfl ?_
    show own_S p e below T22 m 56 #[rv a, own_lv (vm + ((vp.toUInt64 >>> ((32 : Int32) &&& 0x3f).toInt64.toUInt64).toInt64)), .second, own_lv (vp &&& (4294967295 : Int64)), .second] [(.int (lcmpW ((vp &&& (4294967295 : Int64)) + vt) (2147483648 : Int64)))] _
    exact kt
  refine own_st sg23 ?_
  by_cases hc24 : (2147483648 : Int64) < ((vp &&& (4294967295 : Int64)) + vt)
  · skip
    have sg25 : own_V p e below T22 (mkF m 61 #[rv a, own_lv (vm + ((vp.toUInt64 >>> ((32 : Int32) &&& 0x3f).toInt64.toUInt64).toInt64)), .second, own_lv (vp &&& (4294967295 : Int64)), .second] []) (mkF m 56 #[rv a, own_lv (vm + ((vp.toUInt64 >>> ((32 : Int32) &&& 0x3f).toInt64.toUInt64).toInt64)), .second, own_lv (vp &&& (4294967295 : Int64)), .second] [(.int (lcmpW ((vp &&& (4294967295 : Int64)) + vt) (2147483648 : Int64)))]) := by
      intro t kt
      refine XS.ifYes X22.here hx rfl (pc0 := 56) (pc' := 61) rfl (hb hby own_d6_56) rfl (own_tgtL hc24).1 (by decide) (by decide) ?_
      exact kt
    refine own_st sg25 ?_
    have sg26 : own_V p e below T22 (mkF m 66 #[rv a, own_lv (vm + ((vp.toUInt64 >>> ((32 : Int32) &&& 0x3f).toInt64.toUInt64).toInt64)), .second, own_lv (vp &&& (4294967295 : Int64)), .second] [(.int (lcmpW (vp &&& (4294967295 : Int64)) (2147483648 : Int64)))]) (mkF m 61 #[rv a, own_lv (vm + ((vp.toUInt64 >>> ((32 : Int32) &&& 0x3f).toInt64.toUInt64).toInt64)), .second, own_lv (vp &&& (4294967295 : Int64)), .second] []) := by
      intro t kt
      refine XS.lloadN X22.here hx rfl (hb hby own_d6_61) rfl ?_
      show own_S p e below T22 m 62 #[rv a, own_lv (vm + ((vp.toUInt64 >>> ((32 : Int32) &&& 0x3f).toInt64.toUInt64).toInt64)), .second, own_lv (vp &&& (4294967295 : Int64)), .second] [(.long (vp &&& (4294967295 : Int64)))] _
      refine X22.ldc2Long hx hown (mvT hZ (hw _ (List.mem_of_getElem? (i := 45) rfl))) (g := (mkF m 62 #[rv a, own_lv (vm + ((vp.toUInt64 >>> ((32 : Int32) &&& 0x3f).toInt64.toUInt64).toInt64)), .second, own_lv (vp &&& (4294967295 : Int64)), .second] [(.long (vp &&& (4294967295 : Int64)))])) rfl (hb hby own_d6_62) _ ?_
      show own_S p e below T22 m 65 #[rv a, own_lv (vm + ((vp.toUInt64 >>> ((32 : Int32) &&& 0x3f).toInt64.toUInt64).toInt64)), .second, own_lv (vp &&& (4294967295 : Int64)), .second] [(.long (2147483648 : Int64)), (.long (vp &&& (4294967295 : Int64)))] _
      refine XS.lcmp X22.here hx rfl (hb hby own_d6_65) rfl ?_
      show own_S p e below T22 m 66 #[rv a, own_lv (vm + ((vp.toUInt64 >>> ((32 : Int32) &&& 0x3f).toInt64.toUInt64).toInt64)), .second, own_lv (vp &&& (4294967295 : Int64)), .second] [(.int (lcmpW (vp &&& (4294967295 : Int64)) (2147483648 : Int64)))] _
      exact kt
    refine own_st sg26 ?_
    by_cases hc27 : (2147483648 : Int64) < (vp &&& (4294967295 : Int64))
    · skip
      have sg28 : own_V p e below T22 (mkF m 69 #[rv a, own_lv (vm + ((vp.toUInt64 >>> ((32 : Int32) &&& 0x3f).toInt64.toUInt64).toInt64)), .second, own_lv (vp &&& (4294967295 : Int64)), .second] []) (mkF m 66 #[rv a, own_lv (vm + ((vp.toUInt64 >>> ((32 : Int32) &&& 0x3f).toInt64.toUInt64).toInt64)), .second, own_lv (vp &&& (4294967295 : Int64)), .second] [(.int (lcmpW (vp &&& (4294967295 : Int64)) (2147483648 : Int64)))]) := by
        intro t kt
        refine XS.ifNo X22.here hx rfl (hb hby own_d6_66) rfl (own_tgtL hc27).2 ?_
        exact kt
      refine own_st sg28 ?_
      have sg29 : own_V p e below T22 (mkF m 72 #[rv a, own_lv (vm + ((vp.toUInt64 >>> ((32 : Int32) &&& 0x3f).toInt64.toUInt64).toInt64)), .second, own_lv (vp &&& (4294967295 : Int64)), .second] [(.long ((vm + ((vp.toUInt64 >>> ((32 : Int32) &&& 0x3f).toInt64.toUInt64).toInt64)) + (1 : Int64)))]) (mkF m 69 #[rv a, own_lv (vm + ((vp.toUInt64 >>> ((32 : Int32) &&& 0x3f).toInt64.toUInt64).toInt64)), .second, own_lv (vp &&& (4294967295 : Int64)), .second] []) := by
        intro t kt
        refine XS.lloadN X22.here hx rfl (hb hby own_d6_69) rfl ?_
        show own_S p e below T22 m 70 #[rv a, own_lv (vm + ((vp.toUInt64 >>> ((32 : Int32) &&& 0x3f).toInt64.toUInt64).toInt64)), .second, own_lv (vp &&& (4294967295 : Int64)), .second] [(.long (vm + ((vp.toUInt64 >>> ((32 : Int32) &&& 0x3f).toInt64.toUInt64).toInt64)))] _
        refine XS.lconst X22.here hx rfl (hb hby own_d6_70) ?_
        show own_S p e below T22 m 71 #[rv a, own_lv (vm + ((vp.toUInt64 >>> ((32 : Int32) &&& 0x3f).toInt64.toUInt64).toInt64)), .second, own_lv (vp &&& (4294967295 : Int64)), .second] [(.long (1 : Int64)), (.long (vm + ((vp.toUInt64 >>> ((32 : Int32) &&& 0x3f).toInt64.toUInt64).toInt64)))] _
        refine XS.ladd X22.here hx rfl (hb hby own_d6_71) rfl ?_
        show own_S p e below T22 m 72 #[rv a, own_lv (vm + ((vp.toUInt64 >>> ((32 : Int32) &&& 0x3f).toInt64.toUInt64).toInt64)), .second, own_lv (vp &&& (4294967295 : Int64)), .second] [(.long ((vm + ((vp.toUInt64 >>> ((32 : Int32) &&& 0x3f).toInt64.toUInt64).toInt64)) + (1 : Int64)))] _
        exact kt
      refine own_st sg29 ?_
      have hF : own_rnd vi vm vp vt = ((vm + ((vp.toUInt64 >>> ((32 : Int32) &&& 0x3f).toInt64.toUInt64).toInt64)) + (1 : Int64)) := by unfold own_rnd; rw [if_neg hc4, if_neg hc11, if_pos hc24, if_pos hc27]
      exact own_retJ X22 hx Bd.notSynchronized Bd.returns (hb hby own_d6_72) (by decide) (by decide) e22 ⟨by rw [hF], N0, rfl⟩
    have sg30 : own_V p e below T22 (mkF m 73 #[rv a, own_lv (vm + ((vp.toUInt64 >>> ((32 : Int32) &&& 0x3f).toInt64.toUInt64).toInt64)), .second, own_lv (vp &&& (4294967295 : Int64)), .second] []) (mkF m 66 #[rv a, own_lv (vm + ((vp.toUInt64 >>> ((32 : Int32) &&& 0x3f).toInt64.toUInt64).toInt64)), .second, own_lv (vp &&& (4294967295 : Int64)), .second] [(.int (lcmpW (vp &&& (4294967295 : Int64)) (2147483648 : Int64)))]) := by
      intro t kt
      refine XS.ifYes X22.here hx rfl (pc0 := 66) (pc' := 73) rfl (hb hby own_d6_66) rfl (own_fgtL hc27).2 (by decide) (by decide) ?_
      exact kt
    refine own_st sg30 ?_
    have sg31 : own_V p e below T22 (mkF m 76 #[rv a, own_lv (vm + ((vp.toUInt64 >>> ((32 : Int32) &&& 0x3f).toInt64.toUInt64).toInt64)), .second, own_lv (vp &&& (4294967295 : Int64)), .second] [(.long (-1 : Int64))]) (mkF m 73 #[rv a, own_lv (vm + ((vp.toUInt64 >>> ((32 : Int32) &&& 0x3f).toInt64.toUInt64).toInt64)), .second, own_lv (vp &&& (4294967295 : Int64)), .second] []) := by
      intro t kt
      refine X22.ldc2Long hx hown (mvT hZ (hw _ (List.mem_of_getElem? (i := 42) rfl))) (g := (mkF m 73 #[rv a, own_lv (vm + ((vp.toUInt64 >>> ((32 : Int32) &&& 0x3f).toInt64.toUInt64).toInt64)), .second, own_lv (vp &&& (4294967295 : Int64)), .second] [])) rfl (hb hby own_d6_73) _ ?_
      show own_S p e below T22 m 76 #[rv a, own_lv (vm + ((vp.toUInt64 >>> ((32 : Int32) &&& 0x3f).toInt64.toUInt64).toInt64)), .second, own_lv (vp &&& (4294967295 : Int64)), .second] [(.long (-1 : Int64))] _
      exact kt
    refine own_st sg31 ?_
    have hF : own_rnd vi vm vp vt = (-1 : Int64) := by unfold own_rnd; rw [if_neg hc4, if_neg hc11, if_pos hc24, if_neg hc27]
    exact own_retJ X22 hx Bd.notSynchronized Bd.returns (hb hby own_d6_76) (by decide) (by decide) e22 ⟨by rw [hF], N0, rfl⟩
  have sg32 : own_V p e below T22 (mkF m 59 #[rv a, own_lv (vm + ((vp.toUInt64 >>> ((32 : Int32) &&& 0x3f).toInt64.toUInt64).toInt64)), .second, own_lv (vp &&& (4294967295 : Int64)), .second] []) (mkF m 56 #[rv a, own_lv (vm + ((vp.toUInt64 >>> ((32 : Int32) &&& 0x3f).toInt64.toUInt64).toInt64)), .second, own_lv (vp &&& (4294967295 : Int64)), .second] [(.int (lcmpW ((vp &&& (4294967295 : Int64)) + vt) (2147483648 : Int64)))]) := by
    intro t kt
    refine XS.ifNo X22.here hx rfl (hb hby own_d6_56) rfl (own_fgtL hc24).1 ?_
    exact kt
  refine own_st sg32 ?_
  have sg33 : own_V p e below T22 (mkF m 60 #[rv a, own_lv (vm + ((vp.toUInt64 >>> ((32 : Int32) &&& 0x3f).toInt64.toUInt64).toInt64)), .second, own_lv (vp &&& (4294967295 : Int64)), .second] [(.long (vm + ((vp.toUInt64 >>> ((32 : Int32) &&& 0x3f).toInt64.toUInt64).toInt64)))]) (mkF m 59 #[rv a, own_lv (vm + ((vp.toUInt64 >>> ((32 : Int32) &&& 0x3f).toInt64.toUInt64).toInt64)), .second, own_lv (vp &&& (4294967295 : Int64)), .second] []) := by
    intro t kt
    refine XS.lloadN X22.here hx rfl (hb hby own_d6_59) rfl ?_
    show own_S p e below T22 m 60 #[rv a, own_lv (vm + ((vp.toUInt64 >>> ((32 : Int32) &&& 0x3f).toInt64.toUInt64).toInt64)), .second, own_lv (vp &&& (4294967295 : Int64)), .second] [(.long (vm + ((vp.toUInt64 >>> ((32 : Int32) &&& 0x3f).toInt64.toUInt64).toInt64)))] _
    exact kt
  refine own_st sg33 ?_
  have hF : own_rnd vi vm vp vt = (vm + ((vp.toUInt64 >>> ((32 : Int32) &&& 0x3f).toInt64.toUInt64).toInt64)) := by unfold own_rnd; rw [if_neg hc4, if_neg hc11, if_neg hc24]
  exact own_retJ X22 hx Bd.notSynchronized Bd.returns (hb hby own_d6_60) (by decide) (by decide) e22 ⟨by rw [hF], N0, rfl⟩
theorem own_d5_0 : decode prog_58_method_5_code 0 = .ok (.aload_n 0, 1) := by decide +kernel
theorem own_d5_1 : decode prog_58_method_5_code 1 = .ok (.invokevirtual 30, 3) := by decide +kernel
theorem own_d5_4 : decode prog_58_method_5_code 4 = .ok (.lconst 0, 1) := by decide +kernel
theorem own_d5_5 : decode prog_58_method_5_code 5 = .ok (.lcmp, 1) := by decide +kernel
theorem own_d5_6 : decode prog_58_method_5_code 6 = .ok (.ifCond .lt 7, 3) := by decide +kernel
theorem own_d5_9 : decode prog_58_method_5_code 9 = .ok (.iconst 1, 1) := by decide +kernel
theorem own_d5_10 : decode prog_58_method_5_code 10 = .ok (.goto 4, 3) := by decide +kernel
theorem own_d5_13 : decode prog_58_method_5_code 13 = .ok (.iconst 0, 1) := by decide +kernel
theorem own_d5_14 : decode prog_58_method_5_code 14 = .ok (.ireturn, 1) := by decide +kernel
theorem own_pd0 : parseMethodDescriptor "()J" = some ⟨[], some .long⟩ := by decide +kernel
theorem own_efisd (m : MethodId) (a : Nat) : entryFrame m #[(.ref a)] 1 = mkF m 0 #[rv a] [] := by first | (simp [entryFrame, mkF, argsToLocals, Value.category]; done) | rfl
set_option maxRecDepth 65536 in
set_option maxHeartbeats 40000000 in
theorem own_rmisd (l : Launch) (Z : State) (a0 : Array Value) (hw : ∀ d ∈ tables_1, d.before a0 Z = true) (a : Nat) (vi vm vp vt : Int64) (h0 : Heap) (n0 : Nat) (Z0 : n0 ≤ h0.size) (SS : own_Sum Z h0 a vi vm vp vt) :
    own_Ct l Z (⟨"com/example/coverfold/coverfold/Figures$Sum", "isDecided", "()Z"⟩ : MethodName) prog_58_method_5_code 1 (some .boolean) ({ frames := 1, cells := 0, slots := 0, locals := 16 } : Room) #[(.ref a)] h0 (fun v h L => v = some (.int (if own_rnd vi vm vp vt < (0 : Int64) then (0 : Int32) else (1 : Int32))) ∧ Fr n0 L ∧ h = h0) := by
  refine own_body (y := (⟨"com/example/coverfold/coverfold/Figures$Sum", "isDecided", "()Z"⟩ : MethodName)) (Q := fun v h L => v = some (.int (if own_rnd vi vm vp vt < (0 : Int64) then (0 : Int32) else (1 : Int32))) ∧ Fr n0 L ∧ h = h0) (plainFor_of_name own_pn2) ?_
  intro p e s m below meth c s₁ Bd hml0 hZ e0
  have hx := Bd.exec
  have hby := Bd.bytes
  have hml : c.maxLocals = 1 := hml0
  have hown : s.vm.findClass "com/example/coverfold/coverfold/Figures$Sum" = some m.cls := findClass_of_methodNamed Bd.named
  have hnm := (name_of_methodNamed Bd.named Bd.method).1
  have X0 : Stand p l e ({ frames := 1, cells := 0, slots := 0, locals := 16 } : Room) s m #[(.ref a)] below meth c s₁ [] 0 0 := Stand.of_body Bd
  have N0 := Fr.nil n0
  rw [own_efisd]
  have sg1 : own_V p e below s₁ (mkF m 1 #[rv a] [(.ref a)]) (mkF m 0 #[rv a] []) := by
    intro t kt
    refine XS.aloadN X0.here hx rfl (hb hby own_d5_0) rfl rfl ?_
    show own_S p e below s₁ m 1 #[rv a] [(.ref a)] _
    exact kt
  refine own_st sg1 ?_
  obtain ⟨_, T2, L2, X2, hQ2, st2⟩ := own_callP (y := (⟨"com/example/coverfold/coverfold/Figures$Sum", "rounded", "()J"⟩ : MethodName)) (z := (⟨"com/example/coverfold/coverfold/Figures$Sum", "add", "(JI)V"⟩ : MethodName)) (a := a) X0 hx hZ hown SS.1 rfl (hw _ (List.mem_of_getElem? (i := 38) rfl)) (hw _ (List.mem_of_getElem? (i := 39) rfl)) (hw _ (List.mem_of_getElem? (i := 20) rfl)) (hw _ (List.mem_of_getElem? (i := 40) rfl)) (hw _ (List.mem_of_getElem? (i := 10) rfl)) (hw _ (List.mem_of_getElem? (i := 41) rfl)) (by decide) (own_rmrnd l Z a0 hw a vi vm vp vt h0 n0 Z0 SS) e0 (g := (mkF m 1 #[rv a] [(.ref a)])) rfl (by rw [hml]; rfl) (argsL := []) (rest := []) (lenOf own_pd0 rfl) rfl (W := 0) (by show 2 * 0 + _ ≤ _; exact Nat.le_of_eq rfl) (hb hby own_d5_1) (by decide) (by decide) (by decide) (by decide)
  obtain ⟨rfl, Nq2, e2⟩ := hQ2
  refine own_st st2 ?_
  have N2 := Fr.app N0 Nq2
  show own_Go p e below _ T2 (mkF m 4 #[rv a] [(.long (own_rnd vi vm vp vt))])
  obtain ⟨r, hr⟩ : ∃ z : Int32, z = (if (own_rnd vi vm vp vt) < (0 : Int64) then (0 : Int32) else (1 : Int32)) := ⟨_, rfl⟩
  have sg4 : own_V p e below T2 (mkF m 14 #[rv a] [(.int r)]) (mkF m 4 #[rv a] [(.long (own_rnd vi vm vp vt))]) := by
    intro t kt
    refine XS.lconst X2.here hx rfl (hb hby own_d5_4) ?_
    show own_S p e below T2 m 5 #[rv a] [(.long (0 : Int64)), (.long (own_rnd vi vm vp vt))] _
    refine XS.lcmp X2.here hx rfl (hb hby own_d5_5) rfl ?_
    show own_S p e below T2 m 6 #[rv a] [(.int (lcmpW (own_rnd vi vm vp vt) (0 : Int64)))] _
    by_cases hc3 : (own_rnd vi vm vp vt) < (0 : Int64)
    · refine XS.ifYes X2.here hx rfl (pc0 := 6) (pc' := 13) rfl (hb hby own_d5_6) rfl (own_tltL hc3).1 (by decide) (by decide) ?_
      show own_S p e below T2 m 13 #[rv a] [] _
      refine XS.iconst X2.here hx rfl (hb hby own_d5_13) ?_
      show own_S p e below T2 m 14 #[rv a] [(.int (0 : Int32))] _
      rw [show r = (0 : Int32) from by rw [hr, if_pos hc3]] at kt
      exact kt
    · refine XS.ifNo X2.here hx rfl (hb hby own_d5_6) rfl (own_fltL hc3).1 ?_
      show own_S p e below T2 m 9 #[rv a] [] _
      refine XS.iconst X2.here hx rfl (hb hby own_d5_9) ?_
      show own_S p e below T2 m 10 #[rv a] [(.int (1 : Int32))] _
      refine XS.goto X2.here hx rfl (pc0 := 10) (pc' := 14) rfl (hb hby own_d5_10) (by decide) (by decide) ?_
      show own_S p e below T2 m 14 #[rv a] [(.int (1 : Int32))] _
      rw [show r = (1 : Int32) from by rw [hr, if_neg hc3]] at kt
      exact kt
  refine own_st sg4 ?_
  exact own_retZ X2 hx Bd.notSynchronized Bd.returns (hb hby own_d5_14) (by rw [hr]; split; exact Or.inl rfl; exact Or.inr rfl) (by decide) (by decide) e2 ⟨by rw [hr], N2, rfl⟩
theorem own_d7_0 : decode prog_58_method_6_code 0 = .ok (.aload_n 0, 1) := by decide +kernel
theorem own_d7_1 : decode prog_58_method_6_code 1 = .ok (.invokevirtual 30, 3) := by decide +kernel
theorem own_d7_4 : decode prog_58_method_6_code 4 = .ok (.lstore_n 3, 1) := by decide +kernel
theorem own_d7_5 : decode prog_58_method_6_code 5 = .ok (.iconst 0, 1) := by decide +kernel
theorem own_d7_6 : decode prog_58_method_6_code 6 = .ok (.lload_n 3, 1) := by decide +kernel
theorem own_d7_7 : decode prog_58_method_6_code 7 = .ok (.ldc2_w 34, 3) := by decide +kernel
theorem own_d7_10 : decode prog_58_method_6_code 10 = .ok (.ldiv, 1) := by decide +kernel
theorem own_d7_11 : decode prog_58_method_6_code 11 = .ok (.lload_n 3, 1) := by decide +kernel
theorem own_d7_12 : decode prog_58_method_6_code 12 = .ok (.ldc2_w 34, 3) := by decide +kernel
theorem own_d7_15 : decode prog_58_method_6_code 15 = .ok (.lrem, 1) := by decide +kernel
theorem own_d7_16 : decode prog_58_method_6_code 16 = .ok (.bipush 6, 2) := by decide +kernel
theorem own_d7_18 : decode prog_58_method_6_code 18 = .ok (.aload_n 1, 1) := by decide +kernel
theorem own_d7_19 : decode prog_58_method_6_code 19 = .ok (.iload_n 2, 1) := by decide +kernel
theorem own_d7_20 : decode prog_58_method_6_code 20 = .ok (.invokestatic 36, 3) := by decide +kernel
theorem own_d7_23 : decode prog_58_method_6_code 23 = .ok (.ireturn, 1) := by decide +kernel
theorem own_mil (x : Int64) (R : Nat) (h : x.toInt = (R : Int)) : (x / (1000000 : Int64)).toInt = ((R / 1000000 : Nat) : Int) ∧ (x - (x / (1000000 : Int64)) * (1000000 : Int64)).toInt = ((R % 1000000 : Nat) : Int) := by
  have a := (c_ldiv x 1000000 1000000 (by decide) (by decide)).1 (by omega)
  have b := (c_lrem x 1000000 1000000 (by decide)).1 (by omega)
  constructor <;> omega
theorem own_pd1 : parseMethodDescriptor "(ZJJI[BI)I" = some ⟨[.boolean, .long, .long, .int, (.array .byte), .int], some .int⟩ := by decide +kernel
theorem own_efput (m : MethodId) (a : Nat) (b : Nat) (at_ : Int32) : entryFrame m #[(.ref a), (.ref b), (.int at_)] 5 = mkF m 0 #[rv a, rv b, iv at_, .unset, .unset] [] := by first | (simp [entryFrame, mkF, argsToLocals, Value.category]; done) | rfl
set_option maxRecDepth 65536 in
set_option maxHeartbeats 40000000 in
theorem own_rmput (l : Launch) (Z : State) (a0 : Array Value) (hw : ∀ d ∈ tables_1, d.before a0 Z = true) (a : Nat) (b : Nat) (at_ : Int32) (vi vm vp vt : Int64) (f : Nat → Int32) (R : Nat) (h0 : Heap) (n0 : Nat) (Z0 : n0 ≤ h0.size) (SS : own_Sum Z h0 a vi vm vp vt) (A : own_AI Z h0 b .byte 27 f) (g_b : n0 ≤ b) (hat : at_ = 0) (hR : (own_rnd vi vm vp vt).toInt = (R : Int)) (hR9 : R < 9000000000000000000) (hlen : 0 + 0 + own_nd (R / 1000000) + 1 + 6 ≤ 27) :
    own_Ct l Z (⟨"com/example/coverfold/coverfold/Figures$Sum", "put", "([BI)I"⟩ : MethodName) prog_58_method_6_code 5 (some .int) ({ frames := 1, cells := 0, slots := 0, locals := 26 } : Room) #[(.ref a), (.ref b), (.int at_)] h0 (fun v h L => (∃ z : Int32, v = some (.int z) ∧ z.toInt = ((0 + 0 + own_nd (R / 1000000) + 1 + 6 : Nat) : Int)) ∧ Fr n0 L ∧ Keep h0 h [b] ∧ own_AI Z h b .byte 27 (own_put f (decide (0 = 1)) 0 (R / 1000000) (R % 1000000) 6)) := by
  refine own_body (y := (⟨"com/example/coverfold/coverfold/Figures$Sum", "put", "([BI)I"⟩ : MethodName)) (Q := fun v h L => (∃ z : Int32, v = some (.int z) ∧ z.toInt = ((0 + 0 + own_nd (R / 1000000) + 1 + 6 : Nat) : Int)) ∧ Fr n0 L ∧ Keep h0 h [b] ∧ own_AI Z h b .byte 27 (own_put f (decide (0 = 1)) 0 (R / 1000000) (R % 1000000) 6)) (plainFor_of_name own_pn2) ?_
  intro p e s m below meth c s₁ Bd hml0 hZ e0
  have hx := Bd.exec
  have hby := Bd.bytes
  have hml : c.maxLocals = 5 := hml0
  have hown : s.vm.findClass "com/example/coverfold/coverfold/Figures$Sum" = some m.cls := findClass_of_methodNamed Bd.named
  have hnm := (name_of_methodNamed Bd.named Bd.method).1
  have X0 : Stand p l e ({ frames := 1, cells := 0, slots := 0, locals := 26 } : Room) s m #[(.ref a), (.ref b), (.int at_)] below meth c s₁ [] 0 0 := Stand.of_body Bd
  have N0 := Fr.nil n0
  rw [own_efput]
  obtain ⟨hm1, hm2⟩ := own_mil _ R hR
  have sg1 : own_V p e below s₁ (mkF m 1 #[rv a, rv b, iv at_, .unset, .unset] [(.ref a)]) (mkF m 0 #[rv a, rv b, iv at_, .unset, .unset] []) := by
    intro t kt
    refine XS.aloadN X0.here hx rfl (hb hby own_d7_0) rfl rfl ?_
    show own_S p e below s₁ m 1 #[rv a, rv b, iv at_, .unset, .unset] [(.ref a)] _
    exact kt
  refine own_st sg1 ?_
  obtain ⟨_, T2, L2, X2, hQ2, st2⟩ := own_callP (y := (⟨"com/example/coverfold/coverfold/Figures$Sum", "rounded", "()J"⟩ : MethodName)) (z := (⟨"com/example/coverfold/coverfold/Figures$Sum", "add", "(JI)V"⟩ : MethodName)) (a := a) X0 hx hZ hown SS.1 rfl (hw _ (List.mem_of_getElem? (i := 38) rfl)) (hw _ (List.mem_of_getElem? (i := 39) rfl)) (hw _ (List.mem_of_getElem? (i := 20) rfl)) (hw _ (List.mem_of_getElem? (i := 40) rfl)) (hw _ (List.mem_of_getElem? (i := 10) rfl)) (hw _ (List.mem_of_getElem? (i := 41) rfl)) (by decide) (own_rmrnd l Z a0 hw a vi vm vp vt h0 n0 Z0 SS) e0 (g := (mkF m 1 #[rv a, rv b, iv at_, .unset, .unset] [(.ref a)])) rfl (by rw [hml]; rfl) (argsL := []) (rest := []) (lenOf own_pd0 rfl) rfl (W := 0) (by show 2 * 0 + _ ≤ _; exact Nat.le_of_eq rfl) (hb hby own_d7_1) (by decide) (by decide) (by decide) (by decide)
  obtain ⟨rfl, Nq2, e2⟩ := hQ2
  refine own_st st2 ?_
  have N2 := Fr.app N0 Nq2
  show own_Go p e below _ T2 (mkF m 4 #[rv a, rv b, iv at_, .unset, .unset] [(.long (own_rnd vi vm vp vt))])
  have sg3 : own_V p e below T2 (mkF m 20 #[rv a, rv b, iv at_, own_lv (own_rnd vi vm vp vt), .second] [(.int at_), (.ref b), (.int (6 : Int32)), (.long ((own_rnd vi vm vp vt) - ((own_rnd vi vm vp vt) / (1000000 : Int64)) * (1000000 : Int64))), (.long ((own_rnd vi vm vp vt) / (1000000 : Int64))), (.int (0 : Int32))]) (mkF m 4 #[rv a, rv b, iv at_, .unset, .unset] [(.long (own_rnd vi vm vp vt))]) := by
    intro t kt
    refine XS.lstoreN X2.here hx rfl (hb hby own_d7_4) rfl (l' := #[rv a, rv b, iv at_, own_lv (own_rnd vi vm vp vt), .second]) rfl ?_
    show own_S p e below T2 m 5 #[rv a, rv b, iv at_, own_lv (own_rnd vi vm vp vt), .second] [] _
    refine XS.iconst X2.here hx rfl (hb hby own_d7_5) ?_
    show own_S p e below T2 m 6 #[rv a, rv b, iv at_, own_lv (own_rnd vi vm vp vt), .second] [(.int (0 : Int32))] _
    refine XS.lloadN X2.here hx rfl (hb hby own_d7_6) rfl ?_
    show own_S p e below T2 m 7 #[rv a, rv b, iv at_, own_lv (own_rnd vi vm vp vt), .second] [(.long (own_rnd vi vm vp vt)), (.int (0 : Int32))] _
    refine X2.ldc2Long hx hown (mvT hZ (hw _ (List.mem_of_getElem? (i := 51) rfl))) (g := (mkF m 7 #[rv a, rv b, iv at_, own_lv (own_rnd vi vm vp vt), .second] [(.long (own_rnd vi vm vp vt)), (.int (0 : Int32))])) rfl (hb hby own_d7_7) _ ?_
    show own_S p e below T2 m 10 #[rv a, rv b, iv at_, own_lv (own_rnd vi vm vp vt), .second] [(.long (1000000 : Int64)), (.long (own_rnd vi vm vp vt)), (.int (0 : Int32))] _
    refine XS.ldiv X2.here hx rfl (hb hby own_d7_10) rfl (by decide) ?_
    show own_S p e below T2 m 11 #[rv a, rv b, iv at_, own_lv (own_rnd vi vm vp vt), .second] [(.long ((own_rnd vi vm vp vt) / (1000000 : Int64))), (.int (0 : Int32))] _
    refine XS.lloadN X2.here hx rfl (hb hby own_d7_11) rfl ?_
    show own_S p e below T2 m 12 #[rv a, rv b, iv at_, own_lv (own_rnd vi vm vp vt), .second] [(.long (own_rnd vi vm vp vt)), (.long ((own_rnd vi vm vp vt) / (1000000 : Int64))), (.int (0 : Int32))] _
    refine X2.ldc2Long hx hown (mvT hZ (hw _ (List.mem_of_getElem? (i := 51) rfl))) (g := (mkF m 12 #[rv a, rv b, iv at_, own_lv (own_rnd vi vm vp vt), .second] [(.long (own_rnd vi vm vp vt)), (.long ((own_rnd vi vm vp vt) / (1000000 : Int64))), (.int (0 : Int32))])) rfl (hb hby own_d7_12) _ ?_
    show own_S p e below T2 m 15 #[rv a, rv b, iv at_, own_lv (own_rnd vi vm vp vt), .second] [(.long (1000000 : Int64)), (.long (own_rnd vi vm vp vt)), (.long ((own_rnd vi vm vp vt) / (1000000 : Int64))), (.int (0 : Int32))] _
    refine XS.lrem X2.here hx rfl (hb hby own_d7_15) rfl (by decide) ?_
    show own_S p e below T2 m 16 #[rv a, rv b, iv at_, own_lv (own_rnd vi vm vp vt), .second] [(.long ((own_rnd vi vm vp vt) - ((own_rnd vi vm vp vt) / (1000000 : Int64)) * (1000000 : Int64))), (.long ((own_rnd vi vm vp vt) / (1000000 : Int64))), (.int (0 : Int32))] _
    refine XS.bipush X2.here hx rfl (hb hby own_d7_16) ?_
    show own_S p e below T2 m 18 #[rv a, rv b, iv at_, own_lv (own_rnd vi vm vp vt), .second] [(.int (6 : Int32)), (.long ((own_rnd vi vm vp vt) - ((own_rnd vi vm vp vt) / (1000000 : Int64)) * (1000000 : Int64))), (.long ((own_rnd vi vm vp vt) / (1000000 : Int64))), (.int (0 : Int32))] _
    refine XS.aloadN X2.here hx rfl (hb hby own_d7_18) rfl rfl ?_
    show own_S p e below T2 m 19 #[rv a, rv b, iv at_, own_lv (own_rnd vi vm vp vt), .second] [(.ref b), (.int (6 : Int32)), (.long ((own_rnd vi vm vp vt) - ((own_rnd vi vm vp vt) / (1000000 : Int64)) * (1000000 : Int64))), (.long ((own_rnd vi vm vp vt) / (1000000 : Int64))), (.int (0 : Int32))] _
    refine XS.iloadN X2.here hx rfl (hb hby own_d7_19) rfl ?_
    show own_S p e below T2 m 20 #[rv a, rv b, iv at_, own_lv (own_rnd vi vm vp vt), .second] [(.int at_), (.ref b), (.int (6 : Int32)), (.long ((own_rnd vi vm vp vt) - ((own_rnd vi vm vp vt) / (1000000 : Int64)) * (1000000 : Int64))), (.long ((own_rnd vi vm vp vt) / (1000000 : Int64))), (.int (0 : Int32))] _
    exact kt
  refine own_st sg3 ?_
  obtain ⟨_, T4, L4, X4, hQ4, st4⟩ := own_callS (y := (⟨"com/example/coverfold/coverfold/Rational", "putFixed", "(ZJJI[BI)I"⟩ : MethodName)) X2 hx hZ hown (hw _ (List.mem_of_getElem? (i := 52) rfl)) (hw _ (List.mem_of_getElem? (i := 53) rfl)) (hw _ (List.mem_of_getElem? (i := 54) rfl)) (hw _ (List.mem_of_getElem? (i := 55) rfl)) (by decide) (own_rmpf l Z a0 hw (0 : Int32) ((own_rnd vi vm vp vt) / (1000000 : Int64)) ((own_rnd vi vm vp vt) - ((own_rnd vi vm vp vt) / (1000000 : Int64)) * (1000000 : Int64)) (6 : Int32) b at_ f 27 0 0 6 (R / 1000000) (R % 1000000) h0 n0 Z0 A g_b (Or.inl ⟨rfl, rfl⟩) hm1 hm2 (by decide) (by rw [hat]; decide) (by omega) hlen (by decide)) e2 (g := (mkF m 20 #[rv a, rv b, iv at_, own_lv (own_rnd vi vm vp vt), .second] [(.int at_), (.ref b), (.int (6 : Int32)), (.long ((own_rnd vi vm vp vt) - ((own_rnd vi vm vp vt) / (1000000 : Int64)) * (1000000 : Int64))), (.long ((own_rnd vi vm vp vt) / (1000000 : Int64))), (.int (0 : Int32))])) rfl (by rw [hml]; rfl) (argsL := [(.int (0 : Int32)), (.long ((own_rnd vi vm vp vt) / (1000000 : Int64))), (.long ((own_rnd vi vm vp vt) - ((own_rnd vi vm vp vt) / (1000000 : Int64)) * (1000000 : Int64))), (.int (6 : Int32)), (.ref b), (.int at_)]) (rest := []) (lenOf own_pd1 rfl) rfl (W := 0) (by show 2 * 0 + _ ≤ _; exact Nat.le_of_eq rfl) (hb hby own_d7_20) (by decide) (by decide) (by decide) (by decide)
  obtain ⟨⟨z4, rfl, hz4⟩, Nq4, K4, A4⟩ := hQ4
  refine own_st st4 ?_
  have Z4 : n0 ≤ T4.heap.size := Nat.le_trans Z0 K4.1
  have N4 := Fr.app N2 Nq4
  show own_Go p e below _ T4 (mkF m 23 #[rv a, rv b, iv at_, own_lv (own_rnd vi vm vp vt), .second] [(.int z4)])
  exact own_retI X4 hx Bd.notSynchronized Bd.returns (hb hby own_d7_23) (by decide) (by decide) rfl ⟨⟨z4, rfl, hz4⟩, N4, K4, A4⟩
theorem own_d9_0 : decode method_3_code 0 = .ok (.aload_n 0, 1) := by decide +kernel
theorem own_d9_1 : decode method_3_code 1 = .ok (.iconst 0, 1) := by decide +kernel
theorem own_d9_2 : decode method_3_code 2 = .ok (.baload, 1) := by decide +kernel
theorem own_d9_3 : decode method_3_code 3 = .ok (.aload_n 1, 1) := by decide +kernel
theorem own_d9_4 : decode method_3_code 4 = .ok (.iconst 0, 1) := by decide +kernel
theorem own_d9_5 : decode method_3_code 5 = .ok (.baload, 1) := by decide +kernel
theorem own_d9_6 : decode method_3_code 6 = .ok (.if_icmp .ne 283, 3) := by decide +kernel
theorem own_d9_9 : decode method_3_code 9 = .ok (.aload_n 0, 1) := by decide +kernel
theorem own_d9_10 : decode method_3_code 10 = .ok (.iconst 1, 1) := by decide +kernel
theorem own_d9_11 : decode method_3_code 11 = .ok (.baload, 1) := by decide +kernel
theorem own_d9_12 : decode method_3_code 12 = .ok (.aload_n 1, 1) := by decide +kernel
theorem own_d9_13 : decode method_3_code 13 = .ok (.iconst 1, 1) := by decide +kernel
theorem own_d9_14 : decode method_3_code 14 = .ok (.baload, 1) := by decide +kernel
theorem own_d9_15 : decode method_3_code 15 = .ok (.if_icmp .ne 274, 3) := by decide +kernel
theorem own_d9_18 : decode method_3_code 18 = .ok (.aload_n 0, 1) := by decide +kernel
theorem own_d9_19 : decode method_3_code 19 = .ok (.iconst 2, 1) := by decide +kernel
theorem own_d9_20 : decode method_3_code 20 = .ok (.baload, 1) := by decide +kernel
theorem own_d9_21 : decode method_3_code 21 = .ok (.aload_n 1, 1) := by decide +kernel
theorem own_d9_22 : decode method_3_code 22 = .ok (.iconst 2, 1) := by decide +kernel
theorem own_d9_23 : decode method_3_code 23 = .ok (.baload, 1) := by decide +kernel
theorem own_d9_24 : decode method_3_code 24 = .ok (.if_icmp .ne 265, 3) := by decide +kernel
theorem own_d9_27 : decode method_3_code 27 = .ok (.aload_n 0, 1) := by decide +kernel
theorem own_d9_28 : decode method_3_code 28 = .ok (.iconst 3, 1) := by decide +kernel
theorem own_d9_29 : decode method_3_code 29 = .ok (.baload, 1) := by decide +kernel
theorem own_d9_30 : decode method_3_code 30 = .ok (.aload_n 1, 1) := by decide +kernel
theorem own_d9_31 : decode method_3_code 31 = .ok (.iconst 3, 1) := by decide +kernel
theorem own_d9_32 : decode method_3_code 32 = .ok (.baload, 1) := by decide +kernel
theorem own_d9_33 : decode method_3_code 33 = .ok (.if_icmp .ne 256, 3) := by decide +kernel
theorem own_d9_36 : decode method_3_code 36 = .ok (.aload_n 0, 1) := by decide +kernel
theorem own_d9_37 : decode method_3_code 37 = .ok (.iconst 4, 1) := by decide +kernel
theorem own_d9_38 : decode method_3_code 38 = .ok (.baload, 1) := by decide +kernel
theorem own_d9_39 : decode method_3_code 39 = .ok (.aload_n 1, 1) := by decide +kernel
theorem own_d9_40 : decode method_3_code 40 = .ok (.iconst 4, 1) := by decide +kernel
theorem own_d9_41 : decode method_3_code 41 = .ok (.baload, 1) := by decide +kernel
theorem own_d9_42 : decode method_3_code 42 = .ok (.if_icmp .ne 247, 3) := by decide +kernel
theorem own_d9_45 : decode method_3_code 45 = .ok (.aload_n 0, 1) := by decide +kernel
theorem own_d9_46 : decode method_3_code 46 = .ok (.iconst 5, 1) := by decide +kernel
theorem own_d9_47 : decode method_3_code 47 = .ok (.baload, 1) := by decide +kernel
theorem own_d9_48 : decode method_3_code 48 = .ok (.aload_n 1, 1) := by decide +kernel
theorem own_d9_49 : decode method_3_code 49 = .ok (.iconst 5, 1) := by decide +kernel
theorem own_d9_50 : decode method_3_code 50 = .ok (.baload, 1) := by decide +kernel
theorem own_d9_51 : decode method_3_code 51 = .ok (.if_icmp .ne 238, 3) := by decide +kernel
theorem own_d9_54 : decode method_3_code 54 = .ok (.aload_n 0, 1) := by decide +kernel
theorem own_d9_55 : decode method_3_code 55 = .ok (.bipush 6, 2) := by decide +kernel
theorem own_d9_57 : decode method_3_code 57 = .ok (.baload, 1) := by decide +kernel
theorem own_d9_58 : decode method_3_code 58 = .ok (.aload_n 1, 1) := by decide +kernel
theorem own_d9_59 : decode method_3_code 59 = .ok (.bipush 6, 2) := by decide +kernel
theorem own_d9_61 : decode method_3_code 61 = .ok (.baload, 1) := by decide +kernel
theorem own_d9_62 : decode method_3_code 62 = .ok (.if_icmp .ne 227, 3) := by decide +kernel
theorem own_d9_65 : decode method_3_code 65 = .ok (.aload_n 0, 1) := by decide +kernel
theorem own_d9_66 : decode method_3_code 66 = .ok (.bipush 7, 2) := by decide +kernel
theorem own_d9_68 : decode method_3_code 68 = .ok (.baload, 1) := by decide +kernel
theorem own_d9_69 : decode method_3_code 69 = .ok (.aload_n 1, 1) := by decide +kernel
theorem own_d9_70 : decode method_3_code 70 = .ok (.bipush 7, 2) := by decide +kernel
theorem own_d9_72 : decode method_3_code 72 = .ok (.baload, 1) := by decide +kernel
theorem own_d9_73 : decode method_3_code 73 = .ok (.if_icmp .ne 216, 3) := by decide +kernel
theorem own_d9_76 : decode method_3_code 76 = .ok (.aload_n 0, 1) := by decide +kernel
theorem own_d9_77 : decode method_3_code 77 = .ok (.bipush 8, 2) := by decide +kernel
theorem own_d9_79 : decode method_3_code 79 = .ok (.baload, 1) := by decide +kernel
theorem own_d9_80 : decode method_3_code 80 = .ok (.aload_n 1, 1) := by decide +kernel
theorem own_d9_81 : decode method_3_code 81 = .ok (.bipush 8, 2) := by decide +kernel
theorem own_d9_83 : decode method_3_code 83 = .ok (.baload, 1) := by decide +kernel
theorem own_d9_84 : decode method_3_code 84 = .ok (.if_icmp .ne 205, 3) := by decide +kernel
theorem own_d9_87 : decode method_3_code 87 = .ok (.aload_n 0, 1) := by decide +kernel
theorem own_d9_88 : decode method_3_code 88 = .ok (.bipush 9, 2) := by decide +kernel
theorem own_d9_90 : decode method_3_code 90 = .ok (.baload, 1) := by decide +kernel
theorem own_d9_91 : decode method_3_code 91 = .ok (.aload_n 1, 1) := by decide +kernel
theorem own_d9_92 : decode method_3_code 92 = .ok (.bipush 9, 2) := by decide +kernel
theorem own_d9_94 : decode method_3_code 94 = .ok (.baload, 1) := by decide +kernel
theorem own_d9_95 : decode method_3_code 95 = .ok (.if_icmp .ne 194, 3) := by decide +kernel
theorem own_d9_98 : decode method_3_code 98 = .ok (.aload_n 0, 1) := by decide +kernel
theorem own_d9_99 : decode method_3_code 99 = .ok (.bipush 10, 2) := by decide +kernel
theorem own_d9_101 : decode method_3_code 101 = .ok (.baload, 1) := by decide +kernel
theorem own_d9_102 : decode method_3_code 102 = .ok (.aload_n 1, 1) := by decide +kernel
theorem own_d9_103 : decode method_3_code 103 = .ok (.bipush 10, 2) := by decide +kernel
theorem own_d9_105 : decode method_3_code 105 = .ok (.baload, 1) := by decide +kernel
theorem own_d9_106 : decode method_3_code 106 = .ok (.if_icmp .ne 183, 3) := by decide +kernel
theorem own_d9_109 : decode method_3_code 109 = .ok (.aload_n 0, 1) := by decide +kernel
theorem own_d9_110 : decode method_3_code 110 = .ok (.bipush 11, 2) := by decide +kernel
theorem own_d9_112 : decode method_3_code 112 = .ok (.baload, 1) := by decide +kernel
theorem own_d9_113 : decode method_3_code 113 = .ok (.aload_n 1, 1) := by decide +kernel
theorem own_d9_114 : decode method_3_code 114 = .ok (.bipush 11, 2) := by decide +kernel
theorem own_d9_116 : decode method_3_code 116 = .ok (.baload, 1) := by decide +kernel
theorem own_d9_117 : decode method_3_code 117 = .ok (.if_icmp .ne 172, 3) := by decide +kernel
theorem own_d9_120 : decode method_3_code 120 = .ok (.aload_n 0, 1) := by decide +kernel
theorem own_d9_121 : decode method_3_code 121 = .ok (.bipush 12, 2) := by decide +kernel
theorem own_d9_123 : decode method_3_code 123 = .ok (.baload, 1) := by decide +kernel
theorem own_d9_124 : decode method_3_code 124 = .ok (.aload_n 1, 1) := by decide +kernel
theorem own_d9_125 : decode method_3_code 125 = .ok (.bipush 12, 2) := by decide +kernel
theorem own_d9_127 : decode method_3_code 127 = .ok (.baload, 1) := by decide +kernel
theorem own_d9_128 : decode method_3_code 128 = .ok (.if_icmp .ne 161, 3) := by decide +kernel
theorem own_d9_131 : decode method_3_code 131 = .ok (.aload_n 0, 1) := by decide +kernel
theorem own_d9_132 : decode method_3_code 132 = .ok (.bipush 13, 2) := by decide +kernel
theorem own_d9_134 : decode method_3_code 134 = .ok (.baload, 1) := by decide +kernel
theorem own_d9_135 : decode method_3_code 135 = .ok (.aload_n 1, 1) := by decide +kernel
theorem own_d9_136 : decode method_3_code 136 = .ok (.bipush 13, 2) := by decide +kernel
theorem own_d9_138 : decode method_3_code 138 = .ok (.baload, 1) := by decide +kernel
theorem own_d9_139 : decode method_3_code 139 = .ok (.if_icmp .ne 150, 3) := by decide +kernel
theorem own_d9_142 : decode method_3_code 142 = .ok (.aload_n 0, 1) := by decide +kernel
theorem own_d9_143 : decode method_3_code 143 = .ok (.bipush 14, 2) := by decide +kernel
theorem own_d9_145 : decode method_3_code 145 = .ok (.baload, 1) := by decide +kernel
theorem own_d9_146 : decode method_3_code 146 = .ok (.aload_n 1, 1) := by decide +kernel
theorem own_d9_147 : decode method_3_code 147 = .ok (.bipush 14, 2) := by decide +kernel
theorem own_d9_149 : decode method_3_code 149 = .ok (.baload, 1) := by decide +kernel
theorem own_d9_150 : decode method_3_code 150 = .ok (.if_icmp .ne 139, 3) := by decide +kernel
theorem own_d9_153 : decode method_3_code 153 = .ok (.aload_n 0, 1) := by decide +kernel
theorem own_d9_154 : decode method_3_code 154 = .ok (.bipush 15, 2) := by decide +kernel
theorem own_d9_156 : decode method_3_code 156 = .ok (.baload, 1) := by decide +kernel
theorem own_d9_157 : decode method_3_code 157 = .ok (.aload_n 1, 1) := by decide +kernel
theorem own_d9_158 : decode method_3_code 158 = .ok (.bipush 15, 2) := by decide +kernel
theorem own_d9_160 : decode method_3_code 160 = .ok (.baload, 1) := by decide +kernel
theorem own_d9_161 : decode method_3_code 161 = .ok (.if_icmp .ne 128, 3) := by decide +kernel
theorem own_d9_164 : decode method_3_code 164 = .ok (.aload_n 0, 1) := by decide +kernel
theorem own_d9_165 : decode method_3_code 165 = .ok (.bipush 16, 2) := by decide +kernel
theorem own_d9_167 : decode method_3_code 167 = .ok (.baload, 1) := by decide +kernel
theorem own_d9_168 : decode method_3_code 168 = .ok (.aload_n 1, 1) := by decide +kernel
theorem own_d9_169 : decode method_3_code 169 = .ok (.bipush 16, 2) := by decide +kernel
theorem own_d9_171 : decode method_3_code 171 = .ok (.baload, 1) := by decide +kernel
theorem own_d9_172 : decode method_3_code 172 = .ok (.if_icmp .ne 117, 3) := by decide +kernel
theorem own_d9_175 : decode method_3_code 175 = .ok (.aload_n 0, 1) := by decide +kernel
theorem own_d9_176 : decode method_3_code 176 = .ok (.bipush 17, 2) := by decide +kernel
theorem own_d9_178 : decode method_3_code 178 = .ok (.baload, 1) := by decide +kernel
theorem own_d9_179 : decode method_3_code 179 = .ok (.aload_n 1, 1) := by decide +kernel
theorem own_d9_180 : decode method_3_code 180 = .ok (.bipush 17, 2) := by decide +kernel
theorem own_d9_182 : decode method_3_code 182 = .ok (.baload, 1) := by decide +kernel
theorem own_d9_183 : decode method_3_code 183 = .ok (.if_icmp .ne 106, 3) := by decide +kernel
theorem own_d9_186 : decode method_3_code 186 = .ok (.aload_n 0, 1) := by decide +kernel
theorem own_d9_187 : decode method_3_code 187 = .ok (.bipush 18, 2) := by decide +kernel
theorem own_d9_189 : decode method_3_code 189 = .ok (.baload, 1) := by decide +kernel
theorem own_d9_190 : decode method_3_code 190 = .ok (.aload_n 1, 1) := by decide +kernel
theorem own_d9_191 : decode method_3_code 191 = .ok (.bipush 18, 2) := by decide +kernel
theorem own_d9_193 : decode method_3_code 193 = .ok (.baload, 1) := by decide +kernel
theorem own_d9_194 : decode method_3_code 194 = .ok (.if_icmp .ne 95, 3) := by decide +kernel
theorem own_d9_197 : decode method_3_code 197 = .ok (.aload_n 0, 1) := by decide +kernel
theorem own_d9_198 : decode method_3_code 198 = .ok (.bipush 19, 2) := by decide +kernel
theorem own_d9_200 : decode method_3_code 200 = .ok (.baload, 1) := by decide +kernel
theorem own_d9_201 : decode method_3_code 201 = .ok (.aload_n 1, 1) := by decide +kernel
theorem own_d9_202 : decode method_3_code 202 = .ok (.bipush 19, 2) := by decide +kernel
theorem own_d9_204 : decode method_3_code 204 = .ok (.baload, 1) := by decide +kernel
theorem own_d9_205 : decode method_3_code 205 = .ok (.if_icmp .ne 84, 3) := by decide +kernel
theorem own_d9_208 : decode method_3_code 208 = .ok (.aload_n 0, 1) := by decide +kernel
theorem own_d9_209 : decode method_3_code 209 = .ok (.bipush 20, 2) := by decide +kernel
theorem own_d9_211 : decode method_3_code 211 = .ok (.baload, 1) := by decide +kernel
theorem own_d9_212 : decode method_3_code 212 = .ok (.aload_n 1, 1) := by decide +kernel
theorem own_d9_213 : decode method_3_code 213 = .ok (.bipush 20, 2) := by decide +kernel
theorem own_d9_215 : decode method_3_code 215 = .ok (.baload, 1) := by decide +kernel
theorem own_d9_216 : decode method_3_code 216 = .ok (.if_icmp .ne 73, 3) := by decide +kernel
theorem own_d9_219 : decode method_3_code 219 = .ok (.aload_n 0, 1) := by decide +kernel
theorem own_d9_220 : decode method_3_code 220 = .ok (.bipush 21, 2) := by decide +kernel
theorem own_d9_222 : decode method_3_code 222 = .ok (.baload, 1) := by decide +kernel
theorem own_d9_223 : decode method_3_code 223 = .ok (.aload_n 1, 1) := by decide +kernel
theorem own_d9_224 : decode method_3_code 224 = .ok (.bipush 21, 2) := by decide +kernel
theorem own_d9_226 : decode method_3_code 226 = .ok (.baload, 1) := by decide +kernel
theorem own_d9_227 : decode method_3_code 227 = .ok (.if_icmp .ne 62, 3) := by decide +kernel
theorem own_d9_230 : decode method_3_code 230 = .ok (.aload_n 0, 1) := by decide +kernel
theorem own_d9_231 : decode method_3_code 231 = .ok (.bipush 22, 2) := by decide +kernel
theorem own_d9_233 : decode method_3_code 233 = .ok (.baload, 1) := by decide +kernel
theorem own_d9_234 : decode method_3_code 234 = .ok (.aload_n 1, 1) := by decide +kernel
theorem own_d9_235 : decode method_3_code 235 = .ok (.bipush 22, 2) := by decide +kernel
theorem own_d9_237 : decode method_3_code 237 = .ok (.baload, 1) := by decide +kernel
theorem own_d9_238 : decode method_3_code 238 = .ok (.if_icmp .ne 51, 3) := by decide +kernel
theorem own_d9_241 : decode method_3_code 241 = .ok (.aload_n 0, 1) := by decide +kernel
theorem own_d9_242 : decode method_3_code 242 = .ok (.bipush 23, 2) := by decide +kernel
theorem own_d9_244 : decode method_3_code 244 = .ok (.baload, 1) := by decide +kernel
theorem own_d9_245 : decode method_3_code 245 = .ok (.aload_n 1, 1) := by decide +kernel
theorem own_d9_246 : decode method_3_code 246 = .ok (.bipush 23, 2) := by decide +kernel
theorem own_d9_248 : decode method_3_code 248 = .ok (.baload, 1) := by decide +kernel
theorem own_d9_249 : decode method_3_code 249 = .ok (.if_icmp .ne 40, 3) := by decide +kernel
theorem own_d9_252 : decode method_3_code 252 = .ok (.aload_n 0, 1) := by decide +kernel
theorem own_d9_253 : decode method_3_code 253 = .ok (.bipush 24, 2) := by decide +kernel
theorem own_d9_255 : decode method_3_code 255 = .ok (.baload, 1) := by decide +kernel
theorem own_d9_256 : decode method_3_code 256 = .ok (.aload_n 1, 1) := by decide +kernel
theorem own_d9_257 : decode method_3_code 257 = .ok (.bipush 24, 2) := by decide +kernel
theorem own_d9_259 : decode method_3_code 259 = .ok (.baload, 1) := by decide +kernel
theorem own_d9_260 : decode method_3_code 260 = .ok (.if_icmp .ne 29, 3) := by decide +kernel
theorem own_d9_263 : decode method_3_code 263 = .ok (.aload_n 0, 1) := by decide +kernel
theorem own_d9_264 : decode method_3_code 264 = .ok (.bipush 25, 2) := by decide +kernel
theorem own_d9_266 : decode method_3_code 266 = .ok (.baload, 1) := by decide +kernel
theorem own_d9_267 : decode method_3_code 267 = .ok (.aload_n 1, 1) := by decide +kernel
theorem own_d9_268 : decode method_3_code 268 = .ok (.bipush 25, 2) := by decide +kernel
theorem own_d9_270 : decode method_3_code 270 = .ok (.baload, 1) := by decide +kernel
theorem own_d9_271 : decode method_3_code 271 = .ok (.if_icmp .ne 18, 3) := by decide +kernel
theorem own_d9_274 : decode method_3_code 274 = .ok (.aload_n 0, 1) := by decide +kernel
theorem own_d9_275 : decode method_3_code 275 = .ok (.bipush 26, 2) := by decide +kernel
theorem own_d9_277 : decode method_3_code 277 = .ok (.baload, 1) := by decide +kernel
theorem own_d9_278 : decode method_3_code 278 = .ok (.aload_n 1, 1) := by decide +kernel
theorem own_d9_279 : decode method_3_code 279 = .ok (.bipush 26, 2) := by decide +kernel
theorem own_d9_281 : decode method_3_code 281 = .ok (.baload, 1) := by decide +kernel
theorem own_d9_282 : decode method_3_code 282 = .ok (.if_icmp .ne 7, 3) := by decide +kernel
theorem own_d9_285 : decode method_3_code 285 = .ok (.iconst 1, 1) := by decide +kernel
theorem own_d9_286 : decode method_3_code 286 = .ok (.goto 4, 3) := by decide +kernel
theorem own_d9_289 : decode method_3_code 289 = .ok (.iconst 0, 1) := by decide +kernel
theorem own_d9_290 : decode method_3_code 290 = .ok (.ireturn, 1) := by decide +kernel
theorem own_pn3 : plainName "com/example/coverfold/coverfold/SumAddPinLaw" = true := by first | (simp [plainName, overriddenIn]; done) | decide +kernel
theorem own_efsam (m : MethodId) (a : Nat) (b : Nat) : entryFrame m #[(.ref a), (.ref b)] 2 = mkF m 0 #[rv a, rv b] [] := by first | (simp [entryFrame, mkF, argsToLocals, Value.category]; done) | rfl
set_option maxRecDepth 65536 in
set_option maxHeartbeats 40000000 in
theorem own_rmsam (l : Launch) (Z : State) (a0 : Array Value) (hw : ∀ d ∈ tables_1, d.before a0 Z = true) (a : Nat) (b : Nat) (f : Nat → Int32) (h0 : Heap) (n0 : Nat) (Z0 : n0 ≤ h0.size) (A : own_AI Z h0 a .byte 27 f) (B : own_AI Z h0 b .byte 27 f) :
    own_Ct l Z (⟨"com/example/coverfold/coverfold/SumAddPinLaw", "same", "([B[B)Z"⟩ : MethodName) method_3_code 2 (some .boolean) ({ frames := 0, cells := 0, slots := 0, locals := 0 } : Room) #[(.ref a), (.ref b)] h0 (fun v h L => v = some (.int 1) ∧ Fr n0 L ∧ h = h0) := by
  refine own_body (y := (⟨"com/example/coverfold/coverfold/SumAddPinLaw", "same", "([B[B)Z"⟩ : MethodName)) (Q := fun v h L => v = some (.int 1) ∧ Fr n0 L ∧ h = h0) (plainFor_of_name own_pn3) ?_
  intro p e s m below meth c s₁ Bd hml0 hZ e0
  have hx := Bd.exec
  have hby := Bd.bytes
  have hml : c.maxLocals = 2 := hml0
  have hown : s.vm.findClass "com/example/coverfold/coverfold/SumAddPinLaw" = some m.cls := findClass_of_methodNamed Bd.named
  have hnm := (name_of_methodNamed Bd.named Bd.method).1
  have X0 : Stand p l e ({ frames := 0, cells := 0, slots := 0, locals := 0 } : Room) s m #[(.ref a), (.ref b)] below meth c s₁ [] 0 0 := Stand.of_body Bd
  have N0 := Fr.nil n0
  rw [own_efsam]
  have sg1 : own_V p e below s₁ (mkF m 6 #[rv a, rv b] [(.int (f 0)), (.int (f 0))]) (mkF m 0 #[rv a, rv b] []) := by
    intro t kt
    refine XS.aloadN X0.here hx rfl (hb hby own_d9_0) rfl rfl ?_
    show own_S p e below s₁ m 1 #[rv a, rv b] [(.ref a)] _
    refine XS.iconst X0.here hx rfl (hb hby own_d9_1) ?_
    show own_S p e below s₁ m 2 #[rv a, rv b] [(.int (0 : Int32)), (.ref a)] _
    refine own_rdB X0 hx hZ e0 A (k := 0) (by decide) (by decide) (g := (mkF m 2 #[rv a, rv b] [(.int (0 : Int32)), (.ref a)])) rfl rfl (hb hby own_d9_2) _ ?_
    show own_S p e below s₁ m 3 #[rv a, rv b] [(.int (f 0))] _
    refine XS.aloadN X0.here hx rfl (hb hby own_d9_3) rfl rfl ?_
    show own_S p e below s₁ m 4 #[rv a, rv b] [(.ref b), (.int (f 0))] _
    refine XS.iconst X0.here hx rfl (hb hby own_d9_4) ?_
    show own_S p e below s₁ m 5 #[rv a, rv b] [(.int (0 : Int32)), (.ref b), (.int (f 0))] _
    refine own_rdB X0 hx hZ e0 B (k := 0) (by decide) (by decide) (g := (mkF m 5 #[rv a, rv b] [(.int (0 : Int32)), (.ref b), (.int (f 0))])) rfl rfl (hb hby own_d9_5) _ ?_
    show own_S p e below s₁ m 6 #[rv a, rv b] [(.int (f 0)), (.int (f 0))] _
    exact kt
  refine own_st sg1 ?_
  have hc2 : (f 0) = (f 0) := rfl
  have sg3 : own_V p e below s₁ (mkF m 9 #[rv a, rv b] []) (mkF m 6 #[rv a, rv b] [(.int (f 0)), (.int (f 0))]) := by
    intro t kt
    refine XS.icmpNo X0.here hx rfl (hb hby own_d9_6) rfl (teq hc2).2 ?_
    exact kt
  refine own_st sg3 ?_
  have sg4 : own_V p e below s₁ (mkF m 15 #[rv a, rv b] [(.int (f 1)), (.int (f 1))]) (mkF m 9 #[rv a, rv b] []) := by
    intro t kt
    refine XS.aloadN X0.here hx rfl (hb hby own_d9_9) rfl rfl ?_
    show own_S p e below s₁ m 10 #[rv a, rv b] [(.ref a)] _
    refine XS.iconst X0.here hx rfl (hb hby own_d9_10) ?_
    show own_S p e below s₁ m 11 #[rv a, rv b] [(.int (1 : Int32)), (.ref a)] _
    refine own_rdB X0 hx hZ e0 A (k := 1) (by decide) (by decide) (g := (mkF m 11 #[rv a, rv b] [(.int (1 : Int32)), (.ref a)])) rfl rfl (hb hby own_d9_11) _ ?_
    show own_S p e below s₁ m 12 #[rv a, rv b] [(.int (f 1))] _
    refine XS.aloadN X0.here hx rfl (hb hby own_d9_12) rfl rfl ?_
    show own_S p e below s₁ m 13 #[rv a, rv b] [(.ref b), (.int (f 1))] _
    refine XS.iconst X0.here hx rfl (hb hby own_d9_13) ?_
    show own_S p e below s₁ m 14 #[rv a, rv b] [(.int (1 : Int32)), (.ref b), (.int (f 1))] _
    refine own_rdB X0 hx hZ e0 B (k := 1) (by decide) (by decide) (g := (mkF m 14 #[rv a, rv b] [(.int (1 : Int32)), (.ref b), (.int (f 1))])) rfl rfl (hb hby own_d9_14) _ ?_
    show own_S p e below s₁ m 15 #[rv a, rv b] [(.int (f 1)), (.int (f 1))] _
    exact kt
  refine own_st sg4 ?_
  have hc5 : (f 1) = (f 1) := rfl
  have sg6 : own_V p e below s₁ (mkF m 18 #[rv a, rv b] []) (mkF m 15 #[rv a, rv b] [(.int (f 1)), (.int (f 1))]) := by
    intro t kt
    refine XS.icmpNo X0.here hx rfl (hb hby own_d9_15) rfl (teq hc5).2 ?_
    exact kt
  refine own_st sg6 ?_
  have sg7 : own_V p e below s₁ (mkF m 24 #[rv a, rv b] [(.int (f 2)), (.int (f 2))]) (mkF m 18 #[rv a, rv b] []) := by
    intro t kt
    refine XS.aloadN X0.here hx rfl (hb hby own_d9_18) rfl rfl ?_
    show own_S p e below s₁ m 19 #[rv a, rv b] [(.ref a)] _
    refine XS.iconst X0.here hx rfl (hb hby own_d9_19) ?_
    show own_S p e below s₁ m 20 #[rv a, rv b] [(.int (2 : Int32)), (.ref a)] _
    refine own_rdB X0 hx hZ e0 A (k := 2) (by decide) (by decide) (g := (mkF m 20 #[rv a, rv b] [(.int (2 : Int32)), (.ref a)])) rfl rfl (hb hby own_d9_20) _ ?_
    show own_S p e below s₁ m 21 #[rv a, rv b] [(.int (f 2))] _
    refine XS.aloadN X0.here hx rfl (hb hby own_d9_21) rfl rfl ?_
    show own_S p e below s₁ m 22 #[rv a, rv b] [(.ref b), (.int (f 2))] _
    refine XS.iconst X0.here hx rfl (hb hby own_d9_22) ?_
    show own_S p e below s₁ m 23 #[rv a, rv b] [(.int (2 : Int32)), (.ref b), (.int (f 2))] _
    refine own_rdB X0 hx hZ e0 B (k := 2) (by decide) (by decide) (g := (mkF m 23 #[rv a, rv b] [(.int (2 : Int32)), (.ref b), (.int (f 2))])) rfl rfl (hb hby own_d9_23) _ ?_
    show own_S p e below s₁ m 24 #[rv a, rv b] [(.int (f 2)), (.int (f 2))] _
    exact kt
  refine own_st sg7 ?_
  have hc8 : (f 2) = (f 2) := rfl
  have sg9 : own_V p e below s₁ (mkF m 27 #[rv a, rv b] []) (mkF m 24 #[rv a, rv b] [(.int (f 2)), (.int (f 2))]) := by
    intro t kt
    refine XS.icmpNo X0.here hx rfl (hb hby own_d9_24) rfl (teq hc8).2 ?_
    exact kt
  refine own_st sg9 ?_
  have sg10 : own_V p e below s₁ (mkF m 33 #[rv a, rv b] [(.int (f 3)), (.int (f 3))]) (mkF m 27 #[rv a, rv b] []) := by
    intro t kt
    refine XS.aloadN X0.here hx rfl (hb hby own_d9_27) rfl rfl ?_
    show own_S p e below s₁ m 28 #[rv a, rv b] [(.ref a)] _
    refine XS.iconst X0.here hx rfl (hb hby own_d9_28) ?_
    show own_S p e below s₁ m 29 #[rv a, rv b] [(.int (3 : Int32)), (.ref a)] _
    refine own_rdB X0 hx hZ e0 A (k := 3) (by decide) (by decide) (g := (mkF m 29 #[rv a, rv b] [(.int (3 : Int32)), (.ref a)])) rfl rfl (hb hby own_d9_29) _ ?_
    show own_S p e below s₁ m 30 #[rv a, rv b] [(.int (f 3))] _
    refine XS.aloadN X0.here hx rfl (hb hby own_d9_30) rfl rfl ?_
    show own_S p e below s₁ m 31 #[rv a, rv b] [(.ref b), (.int (f 3))] _
    refine XS.iconst X0.here hx rfl (hb hby own_d9_31) ?_
    show own_S p e below s₁ m 32 #[rv a, rv b] [(.int (3 : Int32)), (.ref b), (.int (f 3))] _
    refine own_rdB X0 hx hZ e0 B (k := 3) (by decide) (by decide) (g := (mkF m 32 #[rv a, rv b] [(.int (3 : Int32)), (.ref b), (.int (f 3))])) rfl rfl (hb hby own_d9_32) _ ?_
    show own_S p e below s₁ m 33 #[rv a, rv b] [(.int (f 3)), (.int (f 3))] _
    exact kt
  refine own_st sg10 ?_
  have hc11 : (f 3) = (f 3) := rfl
  have sg12 : own_V p e below s₁ (mkF m 36 #[rv a, rv b] []) (mkF m 33 #[rv a, rv b] [(.int (f 3)), (.int (f 3))]) := by
    intro t kt
    refine XS.icmpNo X0.here hx rfl (hb hby own_d9_33) rfl (teq hc11).2 ?_
    exact kt
  refine own_st sg12 ?_
  have sg13 : own_V p e below s₁ (mkF m 42 #[rv a, rv b] [(.int (f 4)), (.int (f 4))]) (mkF m 36 #[rv a, rv b] []) := by
    intro t kt
    refine XS.aloadN X0.here hx rfl (hb hby own_d9_36) rfl rfl ?_
    show own_S p e below s₁ m 37 #[rv a, rv b] [(.ref a)] _
    refine XS.iconst X0.here hx rfl (hb hby own_d9_37) ?_
    show own_S p e below s₁ m 38 #[rv a, rv b] [(.int (4 : Int32)), (.ref a)] _
    refine own_rdB X0 hx hZ e0 A (k := 4) (by decide) (by decide) (g := (mkF m 38 #[rv a, rv b] [(.int (4 : Int32)), (.ref a)])) rfl rfl (hb hby own_d9_38) _ ?_
    show own_S p e below s₁ m 39 #[rv a, rv b] [(.int (f 4))] _
    refine XS.aloadN X0.here hx rfl (hb hby own_d9_39) rfl rfl ?_
    show own_S p e below s₁ m 40 #[rv a, rv b] [(.ref b), (.int (f 4))] _
    refine XS.iconst X0.here hx rfl (hb hby own_d9_40) ?_
    show own_S p e below s₁ m 41 #[rv a, rv b] [(.int (4 : Int32)), (.ref b), (.int (f 4))] _
    refine own_rdB X0 hx hZ e0 B (k := 4) (by decide) (by decide) (g := (mkF m 41 #[rv a, rv b] [(.int (4 : Int32)), (.ref b), (.int (f 4))])) rfl rfl (hb hby own_d9_41) _ ?_
    show own_S p e below s₁ m 42 #[rv a, rv b] [(.int (f 4)), (.int (f 4))] _
    exact kt
  refine own_st sg13 ?_
  have hc14 : (f 4) = (f 4) := rfl
  have sg15 : own_V p e below s₁ (mkF m 45 #[rv a, rv b] []) (mkF m 42 #[rv a, rv b] [(.int (f 4)), (.int (f 4))]) := by
    intro t kt
    refine XS.icmpNo X0.here hx rfl (hb hby own_d9_42) rfl (teq hc14).2 ?_
    exact kt
  refine own_st sg15 ?_
  have sg16 : own_V p e below s₁ (mkF m 51 #[rv a, rv b] [(.int (f 5)), (.int (f 5))]) (mkF m 45 #[rv a, rv b] []) := by
    intro t kt
    refine XS.aloadN X0.here hx rfl (hb hby own_d9_45) rfl rfl ?_
    show own_S p e below s₁ m 46 #[rv a, rv b] [(.ref a)] _
    refine XS.iconst X0.here hx rfl (hb hby own_d9_46) ?_
    show own_S p e below s₁ m 47 #[rv a, rv b] [(.int (5 : Int32)), (.ref a)] _
    refine own_rdB X0 hx hZ e0 A (k := 5) (by decide) (by decide) (g := (mkF m 47 #[rv a, rv b] [(.int (5 : Int32)), (.ref a)])) rfl rfl (hb hby own_d9_47) _ ?_
    show own_S p e below s₁ m 48 #[rv a, rv b] [(.int (f 5))] _
    refine XS.aloadN X0.here hx rfl (hb hby own_d9_48) rfl rfl ?_
    show own_S p e below s₁ m 49 #[rv a, rv b] [(.ref b), (.int (f 5))] _
    refine XS.iconst X0.here hx rfl (hb hby own_d9_49) ?_
    show own_S p e below s₁ m 50 #[rv a, rv b] [(.int (5 : Int32)), (.ref b), (.int (f 5))] _
    refine own_rdB X0 hx hZ e0 B (k := 5) (by decide) (by decide) (g := (mkF m 50 #[rv a, rv b] [(.int (5 : Int32)), (.ref b), (.int (f 5))])) rfl rfl (hb hby own_d9_50) _ ?_
    show own_S p e below s₁ m 51 #[rv a, rv b] [(.int (f 5)), (.int (f 5))] _
    exact kt
  refine own_st sg16 ?_
  have hc17 : (f 5) = (f 5) := rfl
  have sg18 : own_V p e below s₁ (mkF m 54 #[rv a, rv b] []) (mkF m 51 #[rv a, rv b] [(.int (f 5)), (.int (f 5))]) := by
    intro t kt
    refine XS.icmpNo X0.here hx rfl (hb hby own_d9_51) rfl (teq hc17).2 ?_
    exact kt
  refine own_st sg18 ?_
  have sg19 : own_V p e below s₁ (mkF m 62 #[rv a, rv b] [(.int (f 6)), (.int (f 6))]) (mkF m 54 #[rv a, rv b] []) := by
    intro t kt
    refine XS.aloadN X0.here hx rfl (hb hby own_d9_54) rfl rfl ?_
    show own_S p e below s₁ m 55 #[rv a, rv b] [(.ref a)] _
    refine XS.bipush X0.here hx rfl (hb hby own_d9_55) ?_
    show own_S p e below s₁ m 57 #[rv a, rv b] [(.int (6 : Int32)), (.ref a)] _
    refine own_rdB X0 hx hZ e0 A (k := 6) (by decide) (by decide) (g := (mkF m 57 #[rv a, rv b] [(.int (6 : Int32)), (.ref a)])) rfl rfl (hb hby own_d9_57) _ ?_
    show own_S p e below s₁ m 58 #[rv a, rv b] [(.int (f 6))] _
    refine XS.aloadN X0.here hx rfl (hb hby own_d9_58) rfl rfl ?_
    show own_S p e below s₁ m 59 #[rv a, rv b] [(.ref b), (.int (f 6))] _
    refine XS.bipush X0.here hx rfl (hb hby own_d9_59) ?_
    show own_S p e below s₁ m 61 #[rv a, rv b] [(.int (6 : Int32)), (.ref b), (.int (f 6))] _
    refine own_rdB X0 hx hZ e0 B (k := 6) (by decide) (by decide) (g := (mkF m 61 #[rv a, rv b] [(.int (6 : Int32)), (.ref b), (.int (f 6))])) rfl rfl (hb hby own_d9_61) _ ?_
    show own_S p e below s₁ m 62 #[rv a, rv b] [(.int (f 6)), (.int (f 6))] _
    exact kt
  refine own_st sg19 ?_
  have hc20 : (f 6) = (f 6) := rfl
  have sg21 : own_V p e below s₁ (mkF m 65 #[rv a, rv b] []) (mkF m 62 #[rv a, rv b] [(.int (f 6)), (.int (f 6))]) := by
    intro t kt
    refine XS.icmpNo X0.here hx rfl (hb hby own_d9_62) rfl (teq hc20).2 ?_
    exact kt
  refine own_st sg21 ?_
  have sg22 : own_V p e below s₁ (mkF m 73 #[rv a, rv b] [(.int (f 7)), (.int (f 7))]) (mkF m 65 #[rv a, rv b] []) := by
    intro t kt
    refine XS.aloadN X0.here hx rfl (hb hby own_d9_65) rfl rfl ?_
    show own_S p e below s₁ m 66 #[rv a, rv b] [(.ref a)] _
    refine XS.bipush X0.here hx rfl (hb hby own_d9_66) ?_
    show own_S p e below s₁ m 68 #[rv a, rv b] [(.int (7 : Int32)), (.ref a)] _
    refine own_rdB X0 hx hZ e0 A (k := 7) (by decide) (by decide) (g := (mkF m 68 #[rv a, rv b] [(.int (7 : Int32)), (.ref a)])) rfl rfl (hb hby own_d9_68) _ ?_
    show own_S p e below s₁ m 69 #[rv a, rv b] [(.int (f 7))] _
    refine XS.aloadN X0.here hx rfl (hb hby own_d9_69) rfl rfl ?_
    show own_S p e below s₁ m 70 #[rv a, rv b] [(.ref b), (.int (f 7))] _
    refine XS.bipush X0.here hx rfl (hb hby own_d9_70) ?_
    show own_S p e below s₁ m 72 #[rv a, rv b] [(.int (7 : Int32)), (.ref b), (.int (f 7))] _
    refine own_rdB X0 hx hZ e0 B (k := 7) (by decide) (by decide) (g := (mkF m 72 #[rv a, rv b] [(.int (7 : Int32)), (.ref b), (.int (f 7))])) rfl rfl (hb hby own_d9_72) _ ?_
    show own_S p e below s₁ m 73 #[rv a, rv b] [(.int (f 7)), (.int (f 7))] _
    exact kt
  refine own_st sg22 ?_
  have hc23 : (f 7) = (f 7) := rfl
  have sg24 : own_V p e below s₁ (mkF m 76 #[rv a, rv b] []) (mkF m 73 #[rv a, rv b] [(.int (f 7)), (.int (f 7))]) := by
    intro t kt
    refine XS.icmpNo X0.here hx rfl (hb hby own_d9_73) rfl (teq hc23).2 ?_
    exact kt
  refine own_st sg24 ?_
  have sg25 : own_V p e below s₁ (mkF m 84 #[rv a, rv b] [(.int (f 8)), (.int (f 8))]) (mkF m 76 #[rv a, rv b] []) := by
    intro t kt
    refine XS.aloadN X0.here hx rfl (hb hby own_d9_76) rfl rfl ?_
    show own_S p e below s₁ m 77 #[rv a, rv b] [(.ref a)] _
    refine XS.bipush X0.here hx rfl (hb hby own_d9_77) ?_
    show own_S p e below s₁ m 79 #[rv a, rv b] [(.int (8 : Int32)), (.ref a)] _
    refine own_rdB X0 hx hZ e0 A (k := 8) (by decide) (by decide) (g := (mkF m 79 #[rv a, rv b] [(.int (8 : Int32)), (.ref a)])) rfl rfl (hb hby own_d9_79) _ ?_
    show own_S p e below s₁ m 80 #[rv a, rv b] [(.int (f 8))] _
    refine XS.aloadN X0.here hx rfl (hb hby own_d9_80) rfl rfl ?_
    show own_S p e below s₁ m 81 #[rv a, rv b] [(.ref b), (.int (f 8))] _
    refine XS.bipush X0.here hx rfl (hb hby own_d9_81) ?_
    show own_S p e below s₁ m 83 #[rv a, rv b] [(.int (8 : Int32)), (.ref b), (.int (f 8))] _
    refine own_rdB X0 hx hZ e0 B (k := 8) (by decide) (by decide) (g := (mkF m 83 #[rv a, rv b] [(.int (8 : Int32)), (.ref b), (.int (f 8))])) rfl rfl (hb hby own_d9_83) _ ?_
    show own_S p e below s₁ m 84 #[rv a, rv b] [(.int (f 8)), (.int (f 8))] _
    exact kt
  refine own_st sg25 ?_
  have hc26 : (f 8) = (f 8) := rfl
  have sg27 : own_V p e below s₁ (mkF m 87 #[rv a, rv b] []) (mkF m 84 #[rv a, rv b] [(.int (f 8)), (.int (f 8))]) := by
    intro t kt
    refine XS.icmpNo X0.here hx rfl (hb hby own_d9_84) rfl (teq hc26).2 ?_
    exact kt
  refine own_st sg27 ?_
  have sg28 : own_V p e below s₁ (mkF m 95 #[rv a, rv b] [(.int (f 9)), (.int (f 9))]) (mkF m 87 #[rv a, rv b] []) := by
    intro t kt
    refine XS.aloadN X0.here hx rfl (hb hby own_d9_87) rfl rfl ?_
    show own_S p e below s₁ m 88 #[rv a, rv b] [(.ref a)] _
    refine XS.bipush X0.here hx rfl (hb hby own_d9_88) ?_
    show own_S p e below s₁ m 90 #[rv a, rv b] [(.int (9 : Int32)), (.ref a)] _
    refine own_rdB X0 hx hZ e0 A (k := 9) (by decide) (by decide) (g := (mkF m 90 #[rv a, rv b] [(.int (9 : Int32)), (.ref a)])) rfl rfl (hb hby own_d9_90) _ ?_
    show own_S p e below s₁ m 91 #[rv a, rv b] [(.int (f 9))] _
    refine XS.aloadN X0.here hx rfl (hb hby own_d9_91) rfl rfl ?_
    show own_S p e below s₁ m 92 #[rv a, rv b] [(.ref b), (.int (f 9))] _
    refine XS.bipush X0.here hx rfl (hb hby own_d9_92) ?_
    show own_S p e below s₁ m 94 #[rv a, rv b] [(.int (9 : Int32)), (.ref b), (.int (f 9))] _
    refine own_rdB X0 hx hZ e0 B (k := 9) (by decide) (by decide) (g := (mkF m 94 #[rv a, rv b] [(.int (9 : Int32)), (.ref b), (.int (f 9))])) rfl rfl (hb hby own_d9_94) _ ?_
    show own_S p e below s₁ m 95 #[rv a, rv b] [(.int (f 9)), (.int (f 9))] _
    exact kt
  refine own_st sg28 ?_
  have hc29 : (f 9) = (f 9) := rfl
  have sg30 : own_V p e below s₁ (mkF m 98 #[rv a, rv b] []) (mkF m 95 #[rv a, rv b] [(.int (f 9)), (.int (f 9))]) := by
    intro t kt
    refine XS.icmpNo X0.here hx rfl (hb hby own_d9_95) rfl (teq hc29).2 ?_
    exact kt
  refine own_st sg30 ?_
  have sg31 : own_V p e below s₁ (mkF m 106 #[rv a, rv b] [(.int (f 10)), (.int (f 10))]) (mkF m 98 #[rv a, rv b] []) := by
    intro t kt
    refine XS.aloadN X0.here hx rfl (hb hby own_d9_98) rfl rfl ?_
    show own_S p e below s₁ m 99 #[rv a, rv b] [(.ref a)] _
    refine XS.bipush X0.here hx rfl (hb hby own_d9_99) ?_
    show own_S p e below s₁ m 101 #[rv a, rv b] [(.int (10 : Int32)), (.ref a)] _
    refine own_rdB X0 hx hZ e0 A (k := 10) (by decide) (by decide) (g := (mkF m 101 #[rv a, rv b] [(.int (10 : Int32)), (.ref a)])) rfl rfl (hb hby own_d9_101) _ ?_
    show own_S p e below s₁ m 102 #[rv a, rv b] [(.int (f 10))] _
    refine XS.aloadN X0.here hx rfl (hb hby own_d9_102) rfl rfl ?_
    show own_S p e below s₁ m 103 #[rv a, rv b] [(.ref b), (.int (f 10))] _
    refine XS.bipush X0.here hx rfl (hb hby own_d9_103) ?_
    show own_S p e below s₁ m 105 #[rv a, rv b] [(.int (10 : Int32)), (.ref b), (.int (f 10))] _
    refine own_rdB X0 hx hZ e0 B (k := 10) (by decide) (by decide) (g := (mkF m 105 #[rv a, rv b] [(.int (10 : Int32)), (.ref b), (.int (f 10))])) rfl rfl (hb hby own_d9_105) _ ?_
    show own_S p e below s₁ m 106 #[rv a, rv b] [(.int (f 10)), (.int (f 10))] _
    exact kt
  refine own_st sg31 ?_
  have hc32 : (f 10) = (f 10) := rfl
  have sg33 : own_V p e below s₁ (mkF m 109 #[rv a, rv b] []) (mkF m 106 #[rv a, rv b] [(.int (f 10)), (.int (f 10))]) := by
    intro t kt
    refine XS.icmpNo X0.here hx rfl (hb hby own_d9_106) rfl (teq hc32).2 ?_
    exact kt
  refine own_st sg33 ?_
  have sg34 : own_V p e below s₁ (mkF m 117 #[rv a, rv b] [(.int (f 11)), (.int (f 11))]) (mkF m 109 #[rv a, rv b] []) := by
    intro t kt
    refine XS.aloadN X0.here hx rfl (hb hby own_d9_109) rfl rfl ?_
    show own_S p e below s₁ m 110 #[rv a, rv b] [(.ref a)] _
    refine XS.bipush X0.here hx rfl (hb hby own_d9_110) ?_
    show own_S p e below s₁ m 112 #[rv a, rv b] [(.int (11 : Int32)), (.ref a)] _
    refine own_rdB X0 hx hZ e0 A (k := 11) (by decide) (by decide) (g := (mkF m 112 #[rv a, rv b] [(.int (11 : Int32)), (.ref a)])) rfl rfl (hb hby own_d9_112) _ ?_
    show own_S p e below s₁ m 113 #[rv a, rv b] [(.int (f 11))] _
    refine XS.aloadN X0.here hx rfl (hb hby own_d9_113) rfl rfl ?_
    show own_S p e below s₁ m 114 #[rv a, rv b] [(.ref b), (.int (f 11))] _
    refine XS.bipush X0.here hx rfl (hb hby own_d9_114) ?_
    show own_S p e below s₁ m 116 #[rv a, rv b] [(.int (11 : Int32)), (.ref b), (.int (f 11))] _
    refine own_rdB X0 hx hZ e0 B (k := 11) (by decide) (by decide) (g := (mkF m 116 #[rv a, rv b] [(.int (11 : Int32)), (.ref b), (.int (f 11))])) rfl rfl (hb hby own_d9_116) _ ?_
    show own_S p e below s₁ m 117 #[rv a, rv b] [(.int (f 11)), (.int (f 11))] _
    exact kt
  refine own_st sg34 ?_
  have hc35 : (f 11) = (f 11) := rfl
  have sg36 : own_V p e below s₁ (mkF m 120 #[rv a, rv b] []) (mkF m 117 #[rv a, rv b] [(.int (f 11)), (.int (f 11))]) := by
    intro t kt
    refine XS.icmpNo X0.here hx rfl (hb hby own_d9_117) rfl (teq hc35).2 ?_
    exact kt
  refine own_st sg36 ?_
  have sg37 : own_V p e below s₁ (mkF m 128 #[rv a, rv b] [(.int (f 12)), (.int (f 12))]) (mkF m 120 #[rv a, rv b] []) := by
    intro t kt
    refine XS.aloadN X0.here hx rfl (hb hby own_d9_120) rfl rfl ?_
    show own_S p e below s₁ m 121 #[rv a, rv b] [(.ref a)] _
    refine XS.bipush X0.here hx rfl (hb hby own_d9_121) ?_
    show own_S p e below s₁ m 123 #[rv a, rv b] [(.int (12 : Int32)), (.ref a)] _
    refine own_rdB X0 hx hZ e0 A (k := 12) (by decide) (by decide) (g := (mkF m 123 #[rv a, rv b] [(.int (12 : Int32)), (.ref a)])) rfl rfl (hb hby own_d9_123) _ ?_
    show own_S p e below s₁ m 124 #[rv a, rv b] [(.int (f 12))] _
    refine XS.aloadN X0.here hx rfl (hb hby own_d9_124) rfl rfl ?_
    show own_S p e below s₁ m 125 #[rv a, rv b] [(.ref b), (.int (f 12))] _
    refine XS.bipush X0.here hx rfl (hb hby own_d9_125) ?_
    show own_S p e below s₁ m 127 #[rv a, rv b] [(.int (12 : Int32)), (.ref b), (.int (f 12))] _
    refine own_rdB X0 hx hZ e0 B (k := 12) (by decide) (by decide) (g := (mkF m 127 #[rv a, rv b] [(.int (12 : Int32)), (.ref b), (.int (f 12))])) rfl rfl (hb hby own_d9_127) _ ?_
    show own_S p e below s₁ m 128 #[rv a, rv b] [(.int (f 12)), (.int (f 12))] _
    exact kt
  refine own_st sg37 ?_
  have hc38 : (f 12) = (f 12) := rfl
  have sg39 : own_V p e below s₁ (mkF m 131 #[rv a, rv b] []) (mkF m 128 #[rv a, rv b] [(.int (f 12)), (.int (f 12))]) := by
    intro t kt
    refine XS.icmpNo X0.here hx rfl (hb hby own_d9_128) rfl (teq hc38).2 ?_
    exact kt
  refine own_st sg39 ?_
  have sg40 : own_V p e below s₁ (mkF m 139 #[rv a, rv b] [(.int (f 13)), (.int (f 13))]) (mkF m 131 #[rv a, rv b] []) := by
    intro t kt
    refine XS.aloadN X0.here hx rfl (hb hby own_d9_131) rfl rfl ?_
    show own_S p e below s₁ m 132 #[rv a, rv b] [(.ref a)] _
    refine XS.bipush X0.here hx rfl (hb hby own_d9_132) ?_
    show own_S p e below s₁ m 134 #[rv a, rv b] [(.int (13 : Int32)), (.ref a)] _
    refine own_rdB X0 hx hZ e0 A (k := 13) (by decide) (by decide) (g := (mkF m 134 #[rv a, rv b] [(.int (13 : Int32)), (.ref a)])) rfl rfl (hb hby own_d9_134) _ ?_
    show own_S p e below s₁ m 135 #[rv a, rv b] [(.int (f 13))] _
    refine XS.aloadN X0.here hx rfl (hb hby own_d9_135) rfl rfl ?_
    show own_S p e below s₁ m 136 #[rv a, rv b] [(.ref b), (.int (f 13))] _
    refine XS.bipush X0.here hx rfl (hb hby own_d9_136) ?_
    show own_S p e below s₁ m 138 #[rv a, rv b] [(.int (13 : Int32)), (.ref b), (.int (f 13))] _
    refine own_rdB X0 hx hZ e0 B (k := 13) (by decide) (by decide) (g := (mkF m 138 #[rv a, rv b] [(.int (13 : Int32)), (.ref b), (.int (f 13))])) rfl rfl (hb hby own_d9_138) _ ?_
    show own_S p e below s₁ m 139 #[rv a, rv b] [(.int (f 13)), (.int (f 13))] _
    exact kt
  refine own_st sg40 ?_
  have hc41 : (f 13) = (f 13) := rfl
  have sg42 : own_V p e below s₁ (mkF m 142 #[rv a, rv b] []) (mkF m 139 #[rv a, rv b] [(.int (f 13)), (.int (f 13))]) := by
    intro t kt
    refine XS.icmpNo X0.here hx rfl (hb hby own_d9_139) rfl (teq hc41).2 ?_
    exact kt
  refine own_st sg42 ?_
  have sg43 : own_V p e below s₁ (mkF m 150 #[rv a, rv b] [(.int (f 14)), (.int (f 14))]) (mkF m 142 #[rv a, rv b] []) := by
    intro t kt
    refine XS.aloadN X0.here hx rfl (hb hby own_d9_142) rfl rfl ?_
    show own_S p e below s₁ m 143 #[rv a, rv b] [(.ref a)] _
    refine XS.bipush X0.here hx rfl (hb hby own_d9_143) ?_
    show own_S p e below s₁ m 145 #[rv a, rv b] [(.int (14 : Int32)), (.ref a)] _
    refine own_rdB X0 hx hZ e0 A (k := 14) (by decide) (by decide) (g := (mkF m 145 #[rv a, rv b] [(.int (14 : Int32)), (.ref a)])) rfl rfl (hb hby own_d9_145) _ ?_
    show own_S p e below s₁ m 146 #[rv a, rv b] [(.int (f 14))] _
    refine XS.aloadN X0.here hx rfl (hb hby own_d9_146) rfl rfl ?_
    show own_S p e below s₁ m 147 #[rv a, rv b] [(.ref b), (.int (f 14))] _
    refine XS.bipush X0.here hx rfl (hb hby own_d9_147) ?_
    show own_S p e below s₁ m 149 #[rv a, rv b] [(.int (14 : Int32)), (.ref b), (.int (f 14))] _
    refine own_rdB X0 hx hZ e0 B (k := 14) (by decide) (by decide) (g := (mkF m 149 #[rv a, rv b] [(.int (14 : Int32)), (.ref b), (.int (f 14))])) rfl rfl (hb hby own_d9_149) _ ?_
    show own_S p e below s₁ m 150 #[rv a, rv b] [(.int (f 14)), (.int (f 14))] _
    exact kt
  refine own_st sg43 ?_
  have hc44 : (f 14) = (f 14) := rfl
  have sg45 : own_V p e below s₁ (mkF m 153 #[rv a, rv b] []) (mkF m 150 #[rv a, rv b] [(.int (f 14)), (.int (f 14))]) := by
    intro t kt
    refine XS.icmpNo X0.here hx rfl (hb hby own_d9_150) rfl (teq hc44).2 ?_
    exact kt
  refine own_st sg45 ?_
  have sg46 : own_V p e below s₁ (mkF m 161 #[rv a, rv b] [(.int (f 15)), (.int (f 15))]) (mkF m 153 #[rv a, rv b] []) := by
    intro t kt
    refine XS.aloadN X0.here hx rfl (hb hby own_d9_153) rfl rfl ?_
    show own_S p e below s₁ m 154 #[rv a, rv b] [(.ref a)] _
    refine XS.bipush X0.here hx rfl (hb hby own_d9_154) ?_
    show own_S p e below s₁ m 156 #[rv a, rv b] [(.int (15 : Int32)), (.ref a)] _
    refine own_rdB X0 hx hZ e0 A (k := 15) (by decide) (by decide) (g := (mkF m 156 #[rv a, rv b] [(.int (15 : Int32)), (.ref a)])) rfl rfl (hb hby own_d9_156) _ ?_
    show own_S p e below s₁ m 157 #[rv a, rv b] [(.int (f 15))] _
    refine XS.aloadN X0.here hx rfl (hb hby own_d9_157) rfl rfl ?_
    show own_S p e below s₁ m 158 #[rv a, rv b] [(.ref b), (.int (f 15))] _
    refine XS.bipush X0.here hx rfl (hb hby own_d9_158) ?_
    show own_S p e below s₁ m 160 #[rv a, rv b] [(.int (15 : Int32)), (.ref b), (.int (f 15))] _
    refine own_rdB X0 hx hZ e0 B (k := 15) (by decide) (by decide) (g := (mkF m 160 #[rv a, rv b] [(.int (15 : Int32)), (.ref b), (.int (f 15))])) rfl rfl (hb hby own_d9_160) _ ?_
    show own_S p e below s₁ m 161 #[rv a, rv b] [(.int (f 15)), (.int (f 15))] _
    exact kt
  refine own_st sg46 ?_
  have hc47 : (f 15) = (f 15) := rfl
  have sg48 : own_V p e below s₁ (mkF m 164 #[rv a, rv b] []) (mkF m 161 #[rv a, rv b] [(.int (f 15)), (.int (f 15))]) := by
    intro t kt
    refine XS.icmpNo X0.here hx rfl (hb hby own_d9_161) rfl (teq hc47).2 ?_
    exact kt
  refine own_st sg48 ?_
  have sg49 : own_V p e below s₁ (mkF m 172 #[rv a, rv b] [(.int (f 16)), (.int (f 16))]) (mkF m 164 #[rv a, rv b] []) := by
    intro t kt
    refine XS.aloadN X0.here hx rfl (hb hby own_d9_164) rfl rfl ?_
    show own_S p e below s₁ m 165 #[rv a, rv b] [(.ref a)] _
    refine XS.bipush X0.here hx rfl (hb hby own_d9_165) ?_
    show own_S p e below s₁ m 167 #[rv a, rv b] [(.int (16 : Int32)), (.ref a)] _
    refine own_rdB X0 hx hZ e0 A (k := 16) (by decide) (by decide) (g := (mkF m 167 #[rv a, rv b] [(.int (16 : Int32)), (.ref a)])) rfl rfl (hb hby own_d9_167) _ ?_
    show own_S p e below s₁ m 168 #[rv a, rv b] [(.int (f 16))] _
    refine XS.aloadN X0.here hx rfl (hb hby own_d9_168) rfl rfl ?_
    show own_S p e below s₁ m 169 #[rv a, rv b] [(.ref b), (.int (f 16))] _
    refine XS.bipush X0.here hx rfl (hb hby own_d9_169) ?_
    show own_S p e below s₁ m 171 #[rv a, rv b] [(.int (16 : Int32)), (.ref b), (.int (f 16))] _
    refine own_rdB X0 hx hZ e0 B (k := 16) (by decide) (by decide) (g := (mkF m 171 #[rv a, rv b] [(.int (16 : Int32)), (.ref b), (.int (f 16))])) rfl rfl (hb hby own_d9_171) _ ?_
    show own_S p e below s₁ m 172 #[rv a, rv b] [(.int (f 16)), (.int (f 16))] _
    exact kt
  refine own_st sg49 ?_
  have hc50 : (f 16) = (f 16) := rfl
  have sg51 : own_V p e below s₁ (mkF m 175 #[rv a, rv b] []) (mkF m 172 #[rv a, rv b] [(.int (f 16)), (.int (f 16))]) := by
    intro t kt
    refine XS.icmpNo X0.here hx rfl (hb hby own_d9_172) rfl (teq hc50).2 ?_
    exact kt
  refine own_st sg51 ?_
  have sg52 : own_V p e below s₁ (mkF m 183 #[rv a, rv b] [(.int (f 17)), (.int (f 17))]) (mkF m 175 #[rv a, rv b] []) := by
    intro t kt
    refine XS.aloadN X0.here hx rfl (hb hby own_d9_175) rfl rfl ?_
    show own_S p e below s₁ m 176 #[rv a, rv b] [(.ref a)] _
    refine XS.bipush X0.here hx rfl (hb hby own_d9_176) ?_
    show own_S p e below s₁ m 178 #[rv a, rv b] [(.int (17 : Int32)), (.ref a)] _
    refine own_rdB X0 hx hZ e0 A (k := 17) (by decide) (by decide) (g := (mkF m 178 #[rv a, rv b] [(.int (17 : Int32)), (.ref a)])) rfl rfl (hb hby own_d9_178) _ ?_
    show own_S p e below s₁ m 179 #[rv a, rv b] [(.int (f 17))] _
    refine XS.aloadN X0.here hx rfl (hb hby own_d9_179) rfl rfl ?_
    show own_S p e below s₁ m 180 #[rv a, rv b] [(.ref b), (.int (f 17))] _
    refine XS.bipush X0.here hx rfl (hb hby own_d9_180) ?_
    show own_S p e below s₁ m 182 #[rv a, rv b] [(.int (17 : Int32)), (.ref b), (.int (f 17))] _
    refine own_rdB X0 hx hZ e0 B (k := 17) (by decide) (by decide) (g := (mkF m 182 #[rv a, rv b] [(.int (17 : Int32)), (.ref b), (.int (f 17))])) rfl rfl (hb hby own_d9_182) _ ?_
    show own_S p e below s₁ m 183 #[rv a, rv b] [(.int (f 17)), (.int (f 17))] _
    exact kt
  refine own_st sg52 ?_
  have hc53 : (f 17) = (f 17) := rfl
  have sg54 : own_V p e below s₁ (mkF m 186 #[rv a, rv b] []) (mkF m 183 #[rv a, rv b] [(.int (f 17)), (.int (f 17))]) := by
    intro t kt
    refine XS.icmpNo X0.here hx rfl (hb hby own_d9_183) rfl (teq hc53).2 ?_
    exact kt
  refine own_st sg54 ?_
  have sg55 : own_V p e below s₁ (mkF m 194 #[rv a, rv b] [(.int (f 18)), (.int (f 18))]) (mkF m 186 #[rv a, rv b] []) := by
    intro t kt
    refine XS.aloadN X0.here hx rfl (hb hby own_d9_186) rfl rfl ?_
    show own_S p e below s₁ m 187 #[rv a, rv b] [(.ref a)] _
    refine XS.bipush X0.here hx rfl (hb hby own_d9_187) ?_
    show own_S p e below s₁ m 189 #[rv a, rv b] [(.int (18 : Int32)), (.ref a)] _
    refine own_rdB X0 hx hZ e0 A (k := 18) (by decide) (by decide) (g := (mkF m 189 #[rv a, rv b] [(.int (18 : Int32)), (.ref a)])) rfl rfl (hb hby own_d9_189) _ ?_
    show own_S p e below s₁ m 190 #[rv a, rv b] [(.int (f 18))] _
    refine XS.aloadN X0.here hx rfl (hb hby own_d9_190) rfl rfl ?_
    show own_S p e below s₁ m 191 #[rv a, rv b] [(.ref b), (.int (f 18))] _
    refine XS.bipush X0.here hx rfl (hb hby own_d9_191) ?_
    show own_S p e below s₁ m 193 #[rv a, rv b] [(.int (18 : Int32)), (.ref b), (.int (f 18))] _
    refine own_rdB X0 hx hZ e0 B (k := 18) (by decide) (by decide) (g := (mkF m 193 #[rv a, rv b] [(.int (18 : Int32)), (.ref b), (.int (f 18))])) rfl rfl (hb hby own_d9_193) _ ?_
    show own_S p e below s₁ m 194 #[rv a, rv b] [(.int (f 18)), (.int (f 18))] _
    exact kt
  refine own_st sg55 ?_
  have hc56 : (f 18) = (f 18) := rfl
  have sg57 : own_V p e below s₁ (mkF m 197 #[rv a, rv b] []) (mkF m 194 #[rv a, rv b] [(.int (f 18)), (.int (f 18))]) := by
    intro t kt
    refine XS.icmpNo X0.here hx rfl (hb hby own_d9_194) rfl (teq hc56).2 ?_
    exact kt
  refine own_st sg57 ?_
  have sg58 : own_V p e below s₁ (mkF m 205 #[rv a, rv b] [(.int (f 19)), (.int (f 19))]) (mkF m 197 #[rv a, rv b] []) := by
    intro t kt
    refine XS.aloadN X0.here hx rfl (hb hby own_d9_197) rfl rfl ?_
    show own_S p e below s₁ m 198 #[rv a, rv b] [(.ref a)] _
    refine XS.bipush X0.here hx rfl (hb hby own_d9_198) ?_
    show own_S p e below s₁ m 200 #[rv a, rv b] [(.int (19 : Int32)), (.ref a)] _
    refine own_rdB X0 hx hZ e0 A (k := 19) (by decide) (by decide) (g := (mkF m 200 #[rv a, rv b] [(.int (19 : Int32)), (.ref a)])) rfl rfl (hb hby own_d9_200) _ ?_
    show own_S p e below s₁ m 201 #[rv a, rv b] [(.int (f 19))] _
    refine XS.aloadN X0.here hx rfl (hb hby own_d9_201) rfl rfl ?_
    show own_S p e below s₁ m 202 #[rv a, rv b] [(.ref b), (.int (f 19))] _
    refine XS.bipush X0.here hx rfl (hb hby own_d9_202) ?_
    show own_S p e below s₁ m 204 #[rv a, rv b] [(.int (19 : Int32)), (.ref b), (.int (f 19))] _
    refine own_rdB X0 hx hZ e0 B (k := 19) (by decide) (by decide) (g := (mkF m 204 #[rv a, rv b] [(.int (19 : Int32)), (.ref b), (.int (f 19))])) rfl rfl (hb hby own_d9_204) _ ?_
    show own_S p e below s₁ m 205 #[rv a, rv b] [(.int (f 19)), (.int (f 19))] _
    exact kt
  refine own_st sg58 ?_
  have hc59 : (f 19) = (f 19) := rfl
  have sg60 : own_V p e below s₁ (mkF m 208 #[rv a, rv b] []) (mkF m 205 #[rv a, rv b] [(.int (f 19)), (.int (f 19))]) := by
    intro t kt
    refine XS.icmpNo X0.here hx rfl (hb hby own_d9_205) rfl (teq hc59).2 ?_
    exact kt
  refine own_st sg60 ?_
  have sg61 : own_V p e below s₁ (mkF m 216 #[rv a, rv b] [(.int (f 20)), (.int (f 20))]) (mkF m 208 #[rv a, rv b] []) := by
    intro t kt
    refine XS.aloadN X0.here hx rfl (hb hby own_d9_208) rfl rfl ?_
    show own_S p e below s₁ m 209 #[rv a, rv b] [(.ref a)] _
    refine XS.bipush X0.here hx rfl (hb hby own_d9_209) ?_
    show own_S p e below s₁ m 211 #[rv a, rv b] [(.int (20 : Int32)), (.ref a)] _
    refine own_rdB X0 hx hZ e0 A (k := 20) (by decide) (by decide) (g := (mkF m 211 #[rv a, rv b] [(.int (20 : Int32)), (.ref a)])) rfl rfl (hb hby own_d9_211) _ ?_
    show own_S p e below s₁ m 212 #[rv a, rv b] [(.int (f 20))] _
    refine XS.aloadN X0.here hx rfl (hb hby own_d9_212) rfl rfl ?_
    show own_S p e below s₁ m 213 #[rv a, rv b] [(.ref b), (.int (f 20))] _
    refine XS.bipush X0.here hx rfl (hb hby own_d9_213) ?_
    show own_S p e below s₁ m 215 #[rv a, rv b] [(.int (20 : Int32)), (.ref b), (.int (f 20))] _
    refine own_rdB X0 hx hZ e0 B (k := 20) (by decide) (by decide) (g := (mkF m 215 #[rv a, rv b] [(.int (20 : Int32)), (.ref b), (.int (f 20))])) rfl rfl (hb hby own_d9_215) _ ?_
    show own_S p e below s₁ m 216 #[rv a, rv b] [(.int (f 20)), (.int (f 20))] _
    exact kt
  refine own_st sg61 ?_
  have hc62 : (f 20) = (f 20) := rfl
  have sg63 : own_V p e below s₁ (mkF m 219 #[rv a, rv b] []) (mkF m 216 #[rv a, rv b] [(.int (f 20)), (.int (f 20))]) := by
    intro t kt
    refine XS.icmpNo X0.here hx rfl (hb hby own_d9_216) rfl (teq hc62).2 ?_
    exact kt
  refine own_st sg63 ?_
  have sg64 : own_V p e below s₁ (mkF m 227 #[rv a, rv b] [(.int (f 21)), (.int (f 21))]) (mkF m 219 #[rv a, rv b] []) := by
    intro t kt
    refine XS.aloadN X0.here hx rfl (hb hby own_d9_219) rfl rfl ?_
    show own_S p e below s₁ m 220 #[rv a, rv b] [(.ref a)] _
    refine XS.bipush X0.here hx rfl (hb hby own_d9_220) ?_
    show own_S p e below s₁ m 222 #[rv a, rv b] [(.int (21 : Int32)), (.ref a)] _
    refine own_rdB X0 hx hZ e0 A (k := 21) (by decide) (by decide) (g := (mkF m 222 #[rv a, rv b] [(.int (21 : Int32)), (.ref a)])) rfl rfl (hb hby own_d9_222) _ ?_
    show own_S p e below s₁ m 223 #[rv a, rv b] [(.int (f 21))] _
    refine XS.aloadN X0.here hx rfl (hb hby own_d9_223) rfl rfl ?_
    show own_S p e below s₁ m 224 #[rv a, rv b] [(.ref b), (.int (f 21))] _
    refine XS.bipush X0.here hx rfl (hb hby own_d9_224) ?_
    show own_S p e below s₁ m 226 #[rv a, rv b] [(.int (21 : Int32)), (.ref b), (.int (f 21))] _
    refine own_rdB X0 hx hZ e0 B (k := 21) (by decide) (by decide) (g := (mkF m 226 #[rv a, rv b] [(.int (21 : Int32)), (.ref b), (.int (f 21))])) rfl rfl (hb hby own_d9_226) _ ?_
    show own_S p e below s₁ m 227 #[rv a, rv b] [(.int (f 21)), (.int (f 21))] _
    exact kt
  refine own_st sg64 ?_
  have hc65 : (f 21) = (f 21) := rfl
  have sg66 : own_V p e below s₁ (mkF m 230 #[rv a, rv b] []) (mkF m 227 #[rv a, rv b] [(.int (f 21)), (.int (f 21))]) := by
    intro t kt
    refine XS.icmpNo X0.here hx rfl (hb hby own_d9_227) rfl (teq hc65).2 ?_
    exact kt
  refine own_st sg66 ?_
  have sg67 : own_V p e below s₁ (mkF m 238 #[rv a, rv b] [(.int (f 22)), (.int (f 22))]) (mkF m 230 #[rv a, rv b] []) := by
    intro t kt
    refine XS.aloadN X0.here hx rfl (hb hby own_d9_230) rfl rfl ?_
    show own_S p e below s₁ m 231 #[rv a, rv b] [(.ref a)] _
    refine XS.bipush X0.here hx rfl (hb hby own_d9_231) ?_
    show own_S p e below s₁ m 233 #[rv a, rv b] [(.int (22 : Int32)), (.ref a)] _
    refine own_rdB X0 hx hZ e0 A (k := 22) (by decide) (by decide) (g := (mkF m 233 #[rv a, rv b] [(.int (22 : Int32)), (.ref a)])) rfl rfl (hb hby own_d9_233) _ ?_
    show own_S p e below s₁ m 234 #[rv a, rv b] [(.int (f 22))] _
    refine XS.aloadN X0.here hx rfl (hb hby own_d9_234) rfl rfl ?_
    show own_S p e below s₁ m 235 #[rv a, rv b] [(.ref b), (.int (f 22))] _
    refine XS.bipush X0.here hx rfl (hb hby own_d9_235) ?_
    show own_S p e below s₁ m 237 #[rv a, rv b] [(.int (22 : Int32)), (.ref b), (.int (f 22))] _
    refine own_rdB X0 hx hZ e0 B (k := 22) (by decide) (by decide) (g := (mkF m 237 #[rv a, rv b] [(.int (22 : Int32)), (.ref b), (.int (f 22))])) rfl rfl (hb hby own_d9_237) _ ?_
    show own_S p e below s₁ m 238 #[rv a, rv b] [(.int (f 22)), (.int (f 22))] _
    exact kt
  refine own_st sg67 ?_
  have hc68 : (f 22) = (f 22) := rfl
  have sg69 : own_V p e below s₁ (mkF m 241 #[rv a, rv b] []) (mkF m 238 #[rv a, rv b] [(.int (f 22)), (.int (f 22))]) := by
    intro t kt
    refine XS.icmpNo X0.here hx rfl (hb hby own_d9_238) rfl (teq hc68).2 ?_
    exact kt
  refine own_st sg69 ?_
  have sg70 : own_V p e below s₁ (mkF m 249 #[rv a, rv b] [(.int (f 23)), (.int (f 23))]) (mkF m 241 #[rv a, rv b] []) := by
    intro t kt
    refine XS.aloadN X0.here hx rfl (hb hby own_d9_241) rfl rfl ?_
    show own_S p e below s₁ m 242 #[rv a, rv b] [(.ref a)] _
    refine XS.bipush X0.here hx rfl (hb hby own_d9_242) ?_
    show own_S p e below s₁ m 244 #[rv a, rv b] [(.int (23 : Int32)), (.ref a)] _
    refine own_rdB X0 hx hZ e0 A (k := 23) (by decide) (by decide) (g := (mkF m 244 #[rv a, rv b] [(.int (23 : Int32)), (.ref a)])) rfl rfl (hb hby own_d9_244) _ ?_
    show own_S p e below s₁ m 245 #[rv a, rv b] [(.int (f 23))] _
    refine XS.aloadN X0.here hx rfl (hb hby own_d9_245) rfl rfl ?_
    show own_S p e below s₁ m 246 #[rv a, rv b] [(.ref b), (.int (f 23))] _
    refine XS.bipush X0.here hx rfl (hb hby own_d9_246) ?_
    show own_S p e below s₁ m 248 #[rv a, rv b] [(.int (23 : Int32)), (.ref b), (.int (f 23))] _
    refine own_rdB X0 hx hZ e0 B (k := 23) (by decide) (by decide) (g := (mkF m 248 #[rv a, rv b] [(.int (23 : Int32)), (.ref b), (.int (f 23))])) rfl rfl (hb hby own_d9_248) _ ?_
    show own_S p e below s₁ m 249 #[rv a, rv b] [(.int (f 23)), (.int (f 23))] _
    exact kt
  refine own_st sg70 ?_
  have hc71 : (f 23) = (f 23) := rfl
  have sg72 : own_V p e below s₁ (mkF m 252 #[rv a, rv b] []) (mkF m 249 #[rv a, rv b] [(.int (f 23)), (.int (f 23))]) := by
    intro t kt
    refine XS.icmpNo X0.here hx rfl (hb hby own_d9_249) rfl (teq hc71).2 ?_
    exact kt
  refine own_st sg72 ?_
  have sg73 : own_V p e below s₁ (mkF m 260 #[rv a, rv b] [(.int (f 24)), (.int (f 24))]) (mkF m 252 #[rv a, rv b] []) := by
    intro t kt
    refine XS.aloadN X0.here hx rfl (hb hby own_d9_252) rfl rfl ?_
    show own_S p e below s₁ m 253 #[rv a, rv b] [(.ref a)] _
    refine XS.bipush X0.here hx rfl (hb hby own_d9_253) ?_
    show own_S p e below s₁ m 255 #[rv a, rv b] [(.int (24 : Int32)), (.ref a)] _
    refine own_rdB X0 hx hZ e0 A (k := 24) (by decide) (by decide) (g := (mkF m 255 #[rv a, rv b] [(.int (24 : Int32)), (.ref a)])) rfl rfl (hb hby own_d9_255) _ ?_
    show own_S p e below s₁ m 256 #[rv a, rv b] [(.int (f 24))] _
    refine XS.aloadN X0.here hx rfl (hb hby own_d9_256) rfl rfl ?_
    show own_S p e below s₁ m 257 #[rv a, rv b] [(.ref b), (.int (f 24))] _
    refine XS.bipush X0.here hx rfl (hb hby own_d9_257) ?_
    show own_S p e below s₁ m 259 #[rv a, rv b] [(.int (24 : Int32)), (.ref b), (.int (f 24))] _
    refine own_rdB X0 hx hZ e0 B (k := 24) (by decide) (by decide) (g := (mkF m 259 #[rv a, rv b] [(.int (24 : Int32)), (.ref b), (.int (f 24))])) rfl rfl (hb hby own_d9_259) _ ?_
    show own_S p e below s₁ m 260 #[rv a, rv b] [(.int (f 24)), (.int (f 24))] _
    exact kt
  refine own_st sg73 ?_
  have hc74 : (f 24) = (f 24) := rfl
  have sg75 : own_V p e below s₁ (mkF m 263 #[rv a, rv b] []) (mkF m 260 #[rv a, rv b] [(.int (f 24)), (.int (f 24))]) := by
    intro t kt
    refine XS.icmpNo X0.here hx rfl (hb hby own_d9_260) rfl (teq hc74).2 ?_
    exact kt
  refine own_st sg75 ?_
  have sg76 : own_V p e below s₁ (mkF m 271 #[rv a, rv b] [(.int (f 25)), (.int (f 25))]) (mkF m 263 #[rv a, rv b] []) := by
    intro t kt
    refine XS.aloadN X0.here hx rfl (hb hby own_d9_263) rfl rfl ?_
    show own_S p e below s₁ m 264 #[rv a, rv b] [(.ref a)] _
    refine XS.bipush X0.here hx rfl (hb hby own_d9_264) ?_
    show own_S p e below s₁ m 266 #[rv a, rv b] [(.int (25 : Int32)), (.ref a)] _
    refine own_rdB X0 hx hZ e0 A (k := 25) (by decide) (by decide) (g := (mkF m 266 #[rv a, rv b] [(.int (25 : Int32)), (.ref a)])) rfl rfl (hb hby own_d9_266) _ ?_
    show own_S p e below s₁ m 267 #[rv a, rv b] [(.int (f 25))] _
    refine XS.aloadN X0.here hx rfl (hb hby own_d9_267) rfl rfl ?_
    show own_S p e below s₁ m 268 #[rv a, rv b] [(.ref b), (.int (f 25))] _
    refine XS.bipush X0.here hx rfl (hb hby own_d9_268) ?_
    show own_S p e below s₁ m 270 #[rv a, rv b] [(.int (25 : Int32)), (.ref b), (.int (f 25))] _
    refine own_rdB X0 hx hZ e0 B (k := 25) (by decide) (by decide) (g := (mkF m 270 #[rv a, rv b] [(.int (25 : Int32)), (.ref b), (.int (f 25))])) rfl rfl (hb hby own_d9_270) _ ?_
    show own_S p e below s₁ m 271 #[rv a, rv b] [(.int (f 25)), (.int (f 25))] _
    exact kt
  refine own_st sg76 ?_
  have hc77 : (f 25) = (f 25) := rfl
  have sg78 : own_V p e below s₁ (mkF m 274 #[rv a, rv b] []) (mkF m 271 #[rv a, rv b] [(.int (f 25)), (.int (f 25))]) := by
    intro t kt
    refine XS.icmpNo X0.here hx rfl (hb hby own_d9_271) rfl (teq hc77).2 ?_
    exact kt
  refine own_st sg78 ?_
  have sg79 : own_V p e below s₁ (mkF m 282 #[rv a, rv b] [(.int (f 26)), (.int (f 26))]) (mkF m 274 #[rv a, rv b] []) := by
    intro t kt
    refine XS.aloadN X0.here hx rfl (hb hby own_d9_274) rfl rfl ?_
    show own_S p e below s₁ m 275 #[rv a, rv b] [(.ref a)] _
    refine XS.bipush X0.here hx rfl (hb hby own_d9_275) ?_
    show own_S p e below s₁ m 277 #[rv a, rv b] [(.int (26 : Int32)), (.ref a)] _
    refine own_rdB X0 hx hZ e0 A (k := 26) (by decide) (by decide) (g := (mkF m 277 #[rv a, rv b] [(.int (26 : Int32)), (.ref a)])) rfl rfl (hb hby own_d9_277) _ ?_
    show own_S p e below s₁ m 278 #[rv a, rv b] [(.int (f 26))] _
    refine XS.aloadN X0.here hx rfl (hb hby own_d9_278) rfl rfl ?_
    show own_S p e below s₁ m 279 #[rv a, rv b] [(.ref b), (.int (f 26))] _
    refine XS.bipush X0.here hx rfl (hb hby own_d9_279) ?_
    show own_S p e below s₁ m 281 #[rv a, rv b] [(.int (26 : Int32)), (.ref b), (.int (f 26))] _
    refine own_rdB X0 hx hZ e0 B (k := 26) (by decide) (by decide) (g := (mkF m 281 #[rv a, rv b] [(.int (26 : Int32)), (.ref b), (.int (f 26))])) rfl rfl (hb hby own_d9_281) _ ?_
    show own_S p e below s₁ m 282 #[rv a, rv b] [(.int (f 26)), (.int (f 26))] _
    exact kt
  refine own_st sg79 ?_
  have hc80 : (f 26) = (f 26) := rfl
  have sg81 : own_V p e below s₁ (mkF m 285 #[rv a, rv b] []) (mkF m 282 #[rv a, rv b] [(.int (f 26)), (.int (f 26))]) := by
    intro t kt
    refine XS.icmpNo X0.here hx rfl (hb hby own_d9_282) rfl (teq hc80).2 ?_
    exact kt
  refine own_st sg81 ?_
  have sg82 : own_V p e below s₁ (mkF m 290 #[rv a, rv b] [(.int (1 : Int32))]) (mkF m 285 #[rv a, rv b] []) := by
    intro t kt
    refine XS.iconst X0.here hx rfl (hb hby own_d9_285) ?_
    show own_S p e below s₁ m 286 #[rv a, rv b] [(.int (1 : Int32))] _
    refine XS.goto X0.here hx rfl (pc0 := 286) (pc' := 290) rfl (hb hby own_d9_286) (by decide) (by decide) ?_
    show own_S p e below s₁ m 290 #[rv a, rv b] [(.int (1 : Int32))] _
    exact kt
  refine own_st sg82 ?_
  exact own_retZ X0 hx Bd.notSynchronized Bd.returns (hb hby own_d9_290) (by decide) (by decide) (by decide) e0 ⟨rfl, N0, rfl⟩
theorem own_pd2 : parseMethodDescriptor "(II)I" = some ⟨[.int, .int], some .int⟩ := by decide +kernel
theorem own_pd3 : parseMethodDescriptor "()V" = some ⟨[], none⟩ := by decide +kernel
theorem own_pd4 : parseMethodDescriptor "(JI)V" = some ⟨[.long, .int], none⟩ := by decide +kernel
theorem own_pd5 : parseMethodDescriptor "()Z" = some ⟨[], some .boolean⟩ := by decide +kernel
theorem own_shr (x : Int64) : 0 ≤ ((x.toUInt64 >>> ((32 : Int32) &&& 0x3f).toInt64.toUInt64).toInt64).toInt ∧ ((x.toUInt64 >>> ((32 : Int32) &&& 0x3f).toInt64.toUInt64).toInt64).toInt = x.toInt % 18446744073709551616 / 4294967296 := by
  have q : ((x.toUInt64 >>> ((32 : Int32) &&& 0x3f).toInt64.toUInt64).toInt64).toInt = x.toInt % 18446744073709551616 / ((2 ^ 32 : Nat) : Int) := c_lushr x 32 32 (by decide) (by decide)
  have q' : ((x.toUInt64 >>> ((32 : Int32) &&& 0x3f).toInt64.toUInt64).toInt64).toInt = x.toInt % 18446744073709551616 / 4294967296 := q
  omega
theorem own_msk (x : Int64) : (x &&& (4294967295 : Int64)).toInt = x.toInt % 4294967296 := c_maskL x 4294967295 32 (by decide) (by decide)
theorem own_prod (A n : Int64) (a1 : 0 ≤ A.toInt) (a2 : A.toInt ≤ 4294967295) (b1 : 0 ≤ n.toInt) (b2 : n.toInt ≤ 1073741824) : 0 ≤ (A * n).toInt ∧ (A * n).toInt ≤ 4294967295 * n.toInt := by
  have c := c_lmul A n
  have r := rng64 (A * n)
  have p0 : 0 ≤ A.toInt * n.toInt := Int.mul_nonneg a1 b1
  have p1 : A.toInt * n.toInt ≤ 4294967295 * n.toInt := Int.mul_le_mul_of_nonneg_right a2 b1
  generalize A.toInt * n.toInt = P at *
  omega
theorem own_z1 (x : Int64) : (0 : Int64) + x = x := own_eqL (by
  have c := c_ladd 0 x
  have r := rng64 ((0 : Int64) + x)
  have r2 := rng64 x
  have e : (0 : Int64).toInt = 0 := by decide
  rw [e] at c; omega)
theorem own_z2 (x : Int64) : x + (0 : Int64) = x := own_eqL (by
  have c := c_ladd x 0
  have r := rng64 (x + (0 : Int64))
  have r2 := rng64 x
  have e : (0 : Int64).toInt = 0 := by decide
  rw [e] at c; omega)
theorem own_z3 (x : Int64) : x * (0 : Int64) = 0 := own_eqL (by
  have c := c_lmul x 0
  have r := rng64 (x * (0 : Int64))
  have e : (0 : Int64).toInt = 0 := by decide
  rw [e, Int.mul_zero] at c
  rw [e]; omega)
theorem own_mx (y : Int32) : 1 ≤ (own_max (1 : Int32) y).toInt ∧ (own_max (1 : Int32) y).toInt < 2147483648 := by
  have r := rng32 y
  have e : (1 : Int32).toInt = 1 := by decide
  unfold own_max
  split
  · rename_i q; rw [Int32.lt_iff_toInt_lt, e] at q; omega
  · rw [e]; omega
theorem own_im (no : Int32) (pp im : Int64) (h : im = (if no = (0 : Int32) then (pp &&& (9223372036854775807 : Int64)) else (-1 : Int64))) : (no = 0 → ¬ im < 0) ∧ (¬ no = 0 → im < 0) := by
  have e : (0 : Int64).toInt = 0 := by decide
  constructor
  · intro q
    rw [if_pos q] at h
    have m : (pp &&& (9223372036854775807 : Int64)).toInt = pp.toInt % ((2 ^ 63 : Nat) : Int) := c_maskL pp 9223372036854775807 63 (by decide) (by decide)
    rw [h, Int64.lt_iff_toInt_lt, e]; omega
  · intro q
    rw [if_neg q] at h
    rw [h]; decide
theorem own_core (p1 p2 : Int64) (q1 q2 fl : Int32) (no1 : Int32) (hno1 : no1 = (if (fl &&& (1 : Int32)) = (0 : Int32) then (0 : Int32) else (1 : Int32))) (no2 : Int32) (hno2 : no2 = (if (fl &&& (2 : Int32)) = (0 : Int32) then (0 : Int32) else (1 : Int32))) (sec : Int32) (hsec : sec = (if (fl &&& (4 : Int32)) = (0 : Int32) then (1 : Int32) else (0 : Int32))) (im1 : Int64) (him1 : im1 = (if no1 = (0 : Int32) then (p1 &&& (9223372036854775807 : Int64)) else (-1 : Int64))) (im2 : Int64) (him2 : im2 = (if no2 = (0 : Int32) then (p2 &&& (9223372036854775807 : Int64)) else (-1 : Int64))) (y1 : Int32) (hy1 : y1 = (q1 &&& (2147483647 : Int32))) (ti1 : Int32) (hti1 : ti1 = (own_max (1 : Int32) y1)) (y2 : Int32) (hy2 : y2 = (q2 &&& (2147483647 : Int32))) (ti2 : Int32) (hti2 : ti2 = (own_max (1 : Int32) y2)) (ill : Int32) (hill : ill = (if no1 = (0 : Int32) then (if sec = (0 : Int32) then (0 : Int32) else (if no2 = (0 : Int32) then (0 : Int32) else (1 : Int32))) else (1 : Int32))) (n1 : Int64) (hn1 : n1 = (if no1 = (0 : Int32) then ti1.toInt64 else (0 : Int64))) (n2 : Int64) (hn2 : n2 = (if sec = (0 : Int32) then (0 : Int64) else (if no2 = (0 : Int32) then ti2.toInt64 else (0 : Int64)))) (tm : Int64) (htm : tm = (n1 + n2)) (hg : Int64) (hhg : hg = ((((im1.toUInt64 >>> ((32 : Int32) &&& 0x3f).toInt64.toUInt64).toInt64) * n1) + (((im2.toUInt64 >>> ((32 : Int32) &&& 0x3f).toInt64.toUInt64).toInt64) * n2))) (lo : Int64) (hlo : lo = (((im1 &&& (4294967295 : Int64)) * n1) + ((im2 &&& (4294967295 : Int64)) * n2))) (wh : Int64) (hwh : wh = (hg + ((lo.toUInt64 >>> ((32 : Int32) &&& 0x3f).toInt64.toUInt64).toInt64))) (be : Int64) (hbe : be = (lo &&& (4294967295 : Int64))) (his : Int32) (hhis : his = (if (2147483648 : Int64) < be then (0 : Int32) else (if (2147483648 : Int64) < (be + tm) then (1 : Int32) else (0 : Int32)))) (ex : Int32) (hex : ex = (if ill = (0 : Int32) then (if (1073741824 : Int64) < tm then (0 : Int32) else (if his = (0 : Int32) then (1 : Int32) else (0 : Int32))) else (0 : Int32))) (vi vm vp vt : Int64) (hvi : vi = (if sec = (0 : Int32) then (own_addi im1 ti1 0) else (own_addi im2 ti2 (own_addi im1 ti1 0)))) (hvm : vm = (if sec = (0 : Int32) then (own_addm im1 ti1 0) else (own_addm im2 ti2 (own_addm im1 ti1 0)))) (hvp : vp = (if sec = (0 : Int32) then (own_addp im1 ti1 0) else (own_addp im2 ti2 (own_addp im1 ti1 0)))) (hvt : vt = (if sec = (0 : Int32) then (own_addt im1 ti1 0) else (own_addt im2 ti2 (own_addt im1 ti1 0)))) : vm = hg ∧ vp = lo ∧ vt = tm ∧ (ill = 0 → vi = 0) ∧ (¬ ill = 0 → (0 : Int64) < vi) ∧ 0 ≤ n1.toInt ∧ 0 ≤ n2.toInt ∧ n1.toInt < 2147483648 ∧ n2.toInt < 2147483648 := by
  have e0 : (0 : Int64).toInt = 0 := by decide
  have t1 := own_mx y1
  have t2 := own_mx y2
  rw [← hti1] at t1
  rw [← hti2] at t2
  have i1 := c_i2l ti1
  have i2 := c_i2l ti2
  obtain ⟨u1, u2⟩ := own_im no1 p1 im1 him1
  obtain ⟨w1, w2⟩ := own_im no2 p2 im2 him2
  have pos1 : ∀ x : Int64, x.toInt = ti1.toInt → (0 : Int64) < x := fun x q => by rw [Int64.lt_iff_toInt_lt, e0, q]; omega
  by_cases a : no1 = 0
  · have g1 := u1 a
    rw [if_pos a] at hn1 hill
    have x1 : own_addi im1 ti1 0 = 0 := if_neg g1
    have x2 : own_addm im1 ti1 0 = (((im1.toUInt64 >>> ((32 : Int32) &&& 0x3f).toInt64.toUInt64).toInt64) * ti1.toInt64) := (if_neg g1).trans (own_z1 _)
    have x3 : own_addp im1 ti1 0 = ((im1 &&& (4294967295 : Int64)) * ti1.toInt64) := (if_neg g1).trans (own_z1 _)
    have x4 : own_addt im1 ti1 0 = ti1.toInt64 := (if_neg g1).trans (own_z1 _)
    rw [x1] at hvi; rw [x2] at hvm; rw [x3] at hvp; rw [x4] at hvt
    by_cases b : sec = 0
    · rw [if_pos b] at hvi hvm hvp hvt hill hn2
      refine ⟨?_, ?_, ?_, fun _ => hvi, fun q => absurd hill q, by rw [hn1, i1]; omega, by rw [hn2, e0]; omega, by rw [hn1, i1]; omega, by rw [hn2, e0]; omega⟩
      · rw [hvm, hhg, hn1, hn2, own_z3, own_z2]
      · rw [hvp, hlo, hn1, hn2, own_z3, own_z2]
      · rw [hvt, htm, hn1, hn2, own_z2]
    · rw [if_neg b] at hvi hvm hvp hvt hill hn2
      by_cases c : no2 = 0
      · have g2 := w1 c
        rw [if_pos c] at hn2 hill
        refine ⟨?_, ?_, ?_, fun _ => hvi.trans (if_neg g2), fun q => absurd hill q, by rw [hn1, i1]; omega, by rw [hn2, i2]; omega, by rw [hn1, i1]; omega, by rw [hn2, i2]; omega⟩
        · rw [hvm, hhg, hn1, hn2]; exact if_neg g2
        · rw [hvp, hlo, hn1, hn2]; exact if_neg g2
        · rw [hvt, htm, hn1, hn2]; exact if_neg g2
      · have g2 := w2 c
        rw [if_neg c] at hn2 hill
        refine ⟨?_, ?_, ?_, fun q => absurd q (by rw [hill]; decide), fun _ => ?_, by rw [hn1, i1]; omega, by rw [hn2, e0]; omega, by rw [hn1, i1]; omega, by rw [hn2, e0]; omega⟩
        · rw [hvm, hhg, hn1, hn2, own_z3, own_z2]; exact if_pos g2
        · rw [hvp, hlo, hn1, hn2, own_z3, own_z2]; exact if_pos g2
        · rw [hvt, htm, hn1, hn2, own_z2]; exact if_pos g2
        · rw [hvi, show own_addi im2 ti2 0 = 0 + ti2.toInt64 from if_pos g2, own_z1, Int64.lt_iff_toInt_lt, e0, i2]; omega
  · have g1 := u2 a
    rw [if_neg a] at hn1 hill
    have x1 : own_addi im1 ti1 0 = ti1.toInt64 := (if_pos g1).trans (own_z1 _)
    have x2 : own_addm im1 ti1 0 = 0 := if_pos g1
    have x3 : own_addp im1 ti1 0 = 0 := if_pos g1
    have x4 : own_addt im1 ti1 0 = 0 := if_pos g1
    rw [x1] at hvi; rw [x2] at hvm; rw [x3] at hvp; rw [x4] at hvt
    have ne : ¬ ill = 0 := by rw [hill]; decide
    by_cases b : sec = 0
    · rw [if_pos b] at hvi hvm hvp hvt hn2
      refine ⟨?_, ?_, ?_, fun q => absurd q ne, fun _ => pos1 _ (by rw [hvi, i1]), by rw [hn1, e0]; omega, by rw [hn2, e0]; omega, by rw [hn1, e0]; omega, by rw [hn2, e0]; omega⟩
      · rw [hvm, hhg, hn1, hn2, own_z3, own_z3, own_z2]
      · rw [hvp, hlo, hn1, hn2, own_z3, own_z3, own_z2]
      · rw [hvt, htm, hn1, hn2, own_z2]
    · rw [if_neg b] at hvi hvm hvp hvt hn2
      by_cases c : no2 = 0
      · have g2 := w1 c
        rw [if_pos c] at hn2
        refine ⟨?_, ?_, ?_, fun q => absurd q ne, fun _ => pos1 _ (by rw [hvi, show own_addi im2 ti2 ti1.toInt64 = ti1.toInt64 from if_neg g2, i1]), by rw [hn1, e0]; omega, by rw [hn2, i2]; omega, by rw [hn1, e0]; omega, by rw [hn2, i2]; omega⟩
        · rw [hvm, hhg, hn1, hn2, own_z3, own_z1]; exact (if_neg g2).trans (own_z1 _)
        · rw [hvp, hlo, hn1, hn2, own_z3, own_z1]; exact (if_neg g2).trans (own_z1 _)
        · rw [hvt, htm, hn1, hn2, own_z1]; exact (if_neg g2).trans (own_z1 _)
      · have g2 := w2 c
        rw [if_neg c] at hn2
        refine ⟨?_, ?_, ?_, fun q => absurd q ne, fun _ => ?_, by rw [hn1, e0]; omega, by rw [hn2, e0]; omega, by rw [hn1, e0]; omega, by rw [hn2, e0]; omega⟩
        · rw [hvm, hhg, hn1, hn2, own_z3, own_z3, own_z2]; exact if_pos g2
        · rw [hvp, hlo, hn1, hn2, own_z3, own_z3, own_z2]; exact if_pos g2
        · rw [hvt, htm, hn1, hn2, own_z2]; exact if_pos g2
        · have cc := c_ladd ti1.toInt64 ti2.toInt64
          have rr := rng64 (ti1.toInt64 + ti2.toInt64)
          rw [hvi, show own_addi im2 ti2 ti1.toInt64 = ti1.toInt64 + ti2.toInt64 from if_pos g2, Int64.lt_iff_toInt_lt, e0]
          rw [i1, i2] at cc; omega
theorem own_bnd (im1 im2 n1 n2 tm hg lo wh be : Int64) (htm : tm = (n1 + n2)) (hhg : hg = ((((im1.toUInt64 >>> ((32 : Int32) &&& 0x3f).toInt64.toUInt64).toInt64) * n1) + (((im2.toUInt64 >>> ((32 : Int32) &&& 0x3f).toInt64.toUInt64).toInt64) * n2))) (hlo : lo = (((im1 &&& (4294967295 : Int64)) * n1) + ((im2 &&& (4294967295 : Int64)) * n2))) (hwh : wh = (hg + ((lo.toUInt64 >>> ((32 : Int32) &&& 0x3f).toInt64.toUInt64).toInt64))) (hbe : be = (lo &&& (4294967295 : Int64))) (a1 : 0 ≤ n1.toInt) (a2 : 0 ≤ n2.toInt) (b1 : n1.toInt < 2147483648) (b2 : n2.toInt < 2147483648) (ht : ¬ (1073741824 : Int64) < tm) : 0 ≤ tm.toInt ∧ tm.toInt ≤ 1073741824 ∧ 0 ≤ wh.toInt ∧ wh.toInt < 4900000000000000000 ∧ 0 ≤ be.toInt ∧ be.toInt < 4294967296 := by
  have eT : (1073741824 : Int64).toInt = 1073741824 := by decide
  have c1 := c_ladd n1 n2
  have r1 := rng64 (n1 + n2)
  rw [← htm] at c1 r1
  rw [Int64.lt_iff_toInt_lt, eT] at ht
  have s1 := own_shr im1
  have s2 := own_shr im2
  have m1 := own_msk im1
  have m2 := own_msk im2
  have q1 := own_prod _ n1 s1.1 (by omega) a1 (by omega)
  have q2 := own_prod _ n2 s2.1 (by omega) a2 (by omega)
  have q3 := own_prod (im1 &&& (4294967295 : Int64)) n1 (by omega) (by omega) a1 (by omega)
  have q4 := own_prod (im2 &&& (4294967295 : Int64)) n2 (by omega) (by omega) a2 (by omega)
  have c2 := c_ladd (((im1.toUInt64 >>> ((32 : Int32) &&& 0x3f).toInt64.toUInt64).toInt64) * n1) (((im2.toUInt64 >>> ((32 : Int32) &&& 0x3f).toInt64.toUInt64).toInt64) * n2)
  rw [← hhg] at c2
  have r2 := rng64 hg
  have c3 := c_ladd ((im1 &&& (4294967295 : Int64)) * n1) ((im2 &&& (4294967295 : Int64)) * n2)
  rw [← hlo] at c3
  have r3 := rng64 lo
  have s3 := own_shr lo
  have c4 := c_ladd hg ((lo.toUInt64 >>> ((32 : Int32) &&& 0x3f).toInt64.toUInt64).toInt64)
  rw [← hwh] at c4
  have r4 := rng64 wh
  have m3 := own_msk lo
  rw [← hbe] at m3
  generalize ((im1.toUInt64 >>> ((32 : Int32) &&& 0x3f).toInt64.toUInt64).toInt64) * n1 = x1 at *
  generalize ((im2.toUInt64 >>> ((32 : Int32) &&& 0x3f).toInt64.toUInt64).toInt64) * n2 = x2 at *
  generalize (im1 &&& (4294967295 : Int64)) * n1 = x3 at *
  generalize (im2 &&& (4294967295 : Int64)) * n2 = x4 at *
  generalize ((lo.toUInt64 >>> ((32 : Int32) &&& 0x3f).toInt64.toUInt64).toInt64) = x5 at *
  clear s1 s2 m1 m2
  refine ⟨by omega, by omega, by omega, by omega, by omega, by omega⟩
theorem own_rv (p1 p2 : Int64) (q1 q2 fl : Int32) (no1 : Int32) (hno1 : no1 = (if (fl &&& (1 : Int32)) = (0 : Int32) then (0 : Int32) else (1 : Int32))) (no2 : Int32) (hno2 : no2 = (if (fl &&& (2 : Int32)) = (0 : Int32) then (0 : Int32) else (1 : Int32))) (sec : Int32) (hsec : sec = (if (fl &&& (4 : Int32)) = (0 : Int32) then (1 : Int32) else (0 : Int32))) (im1 : Int64) (him1 : im1 = (if no1 = (0 : Int32) then (p1 &&& (9223372036854775807 : Int64)) else (-1 : Int64))) (im2 : Int64) (him2 : im2 = (if no2 = (0 : Int32) then (p2 &&& (9223372036854775807 : Int64)) else (-1 : Int64))) (y1 : Int32) (hy1 : y1 = (q1 &&& (2147483647 : Int32))) (ti1 : Int32) (hti1 : ti1 = (own_max (1 : Int32) y1)) (y2 : Int32) (hy2 : y2 = (q2 &&& (2147483647 : Int32))) (ti2 : Int32) (hti2 : ti2 = (own_max (1 : Int32) y2)) (ill : Int32) (hill : ill = (if no1 = (0 : Int32) then (if sec = (0 : Int32) then (0 : Int32) else (if no2 = (0 : Int32) then (0 : Int32) else (1 : Int32))) else (1 : Int32))) (n1 : Int64) (hn1 : n1 = (if no1 = (0 : Int32) then ti1.toInt64 else (0 : Int64))) (n2 : Int64) (hn2 : n2 = (if sec = (0 : Int32) then (0 : Int64) else (if no2 = (0 : Int32) then ti2.toInt64 else (0 : Int64)))) (tm : Int64) (htm : tm = (n1 + n2)) (hg : Int64) (hhg : hg = ((((im1.toUInt64 >>> ((32 : Int32) &&& 0x3f).toInt64.toUInt64).toInt64) * n1) + (((im2.toUInt64 >>> ((32 : Int32) &&& 0x3f).toInt64.toUInt64).toInt64) * n2))) (lo : Int64) (hlo : lo = (((im1 &&& (4294967295 : Int64)) * n1) + ((im2 &&& (4294967295 : Int64)) * n2))) (wh : Int64) (hwh : wh = (hg + ((lo.toUInt64 >>> ((32 : Int32) &&& 0x3f).toInt64.toUInt64).toInt64))) (be : Int64) (hbe : be = (lo &&& (4294967295 : Int64))) (his : Int32) (hhis : his = (if (2147483648 : Int64) < be then (0 : Int32) else (if (2147483648 : Int64) < (be + tm) then (1 : Int32) else (0 : Int32)))) (ex : Int32) (hex : ex = (if ill = (0 : Int32) then (if (1073741824 : Int64) < tm then (0 : Int32) else (if his = (0 : Int32) then (1 : Int32) else (0 : Int32))) else (0 : Int32))) (vi vm vp vt : Int64) (hvi : vi = (if sec = (0 : Int32) then (own_addi im1 ti1 0) else (own_addi im2 ti2 (own_addi im1 ti1 0)))) (hvm : vm = (if sec = (0 : Int32) then (own_addm im1 ti1 0) else (own_addm im2 ti2 (own_addm im1 ti1 0)))) (hvp : vp = (if sec = (0 : Int32) then (own_addp im1 ti1 0) else (own_addp im2 ti2 (own_addp im1 ti1 0)))) (hvt : vt = (if sec = (0 : Int32) then (own_addt im1 ti1 0) else (own_addt im2 ti2 (own_addt im1 ti1 0)))) : own_rnd vi vm vp vt = (if ill = (0 : Int32) then (if (1073741824 : Int64) < tm then (-1 : Int64) else (if (2147483648 : Int64) < (be + tm) then (if (2147483648 : Int64) < be then (wh + (1 : Int64)) else (-1 : Int64)) else wh)) else (-1 : Int64)) := by
  obtain ⟨k1, k2, k3, k4, k5, -, -, -, -⟩ := own_core p1 p2 q1 q2 fl no1 hno1 no2 hno2 sec hsec im1 him1 im2 him2 y1 hy1 ti1 hti1 y2 hy2 ti2 hti2 ill hill n1 hn1 n2 hn2 tm htm hg hhg lo hlo wh hwh be hbe his hhis ex hex vi vm vp vt hvi hvm hvp hvt
  unfold own_rnd
  rw [k1, k2, k3, ← hbe, ← hwh]
  by_cases q : ill = 0
  · rw [if_pos q, k4 q, if_neg (by decide)]
  · rw [if_neg q, if_pos (k5 q)]
theorem own_dec (p1 p2 : Int64) (q1 q2 fl : Int32) (no1 : Int32) (hno1 : no1 = (if (fl &&& (1 : Int32)) = (0 : Int32) then (0 : Int32) else (1 : Int32))) (no2 : Int32) (hno2 : no2 = (if (fl &&& (2 : Int32)) = (0 : Int32) then (0 : Int32) else (1 : Int32))) (sec : Int32) (hsec : sec = (if (fl &&& (4 : Int32)) = (0 : Int32) then (1 : Int32) else (0 : Int32))) (im1 : Int64) (him1 : im1 = (if no1 = (0 : Int32) then (p1 &&& (9223372036854775807 : Int64)) else (-1 : Int64))) (im2 : Int64) (him2 : im2 = (if no2 = (0 : Int32) then (p2 &&& (9223372036854775807 : Int64)) else (-1 : Int64))) (y1 : Int32) (hy1 : y1 = (q1 &&& (2147483647 : Int32))) (ti1 : Int32) (hti1 : ti1 = (own_max (1 : Int32) y1)) (y2 : Int32) (hy2 : y2 = (q2 &&& (2147483647 : Int32))) (ti2 : Int32) (hti2 : ti2 = (own_max (1 : Int32) y2)) (ill : Int32) (hill : ill = (if no1 = (0 : Int32) then (if sec = (0 : Int32) then (0 : Int32) else (if no2 = (0 : Int32) then (0 : Int32) else (1 : Int32))) else (1 : Int32))) (n1 : Int64) (hn1 : n1 = (if no1 = (0 : Int32) then ti1.toInt64 else (0 : Int64))) (n2 : Int64) (hn2 : n2 = (if sec = (0 : Int32) then (0 : Int64) else (if no2 = (0 : Int32) then ti2.toInt64 else (0 : Int64)))) (tm : Int64) (htm : tm = (n1 + n2)) (hg : Int64) (hhg : hg = ((((im1.toUInt64 >>> ((32 : Int32) &&& 0x3f).toInt64.toUInt64).toInt64) * n1) + (((im2.toUInt64 >>> ((32 : Int32) &&& 0x3f).toInt64.toUInt64).toInt64) * n2))) (lo : Int64) (hlo : lo = (((im1 &&& (4294967295 : Int64)) * n1) + ((im2 &&& (4294967295 : Int64)) * n2))) (wh : Int64) (hwh : wh = (hg + ((lo.toUInt64 >>> ((32 : Int32) &&& 0x3f).toInt64.toUInt64).toInt64))) (be : Int64) (hbe : be = (lo &&& (4294967295 : Int64))) (his : Int32) (hhis : his = (if (2147483648 : Int64) < be then (0 : Int32) else (if (2147483648 : Int64) < (be + tm) then (1 : Int32) else (0 : Int32)))) (ex : Int32) (hex : ex = (if ill = (0 : Int32) then (if (1073741824 : Int64) < tm then (0 : Int32) else (if his = (0 : Int32) then (1 : Int32) else (0 : Int32))) else (0 : Int32))) (vi vm vp vt : Int64) (hvi : vi = (if sec = (0 : Int32) then (own_addi im1 ti1 0) else (own_addi im2 ti2 (own_addi im1 ti1 0)))) (hvm : vm = (if sec = (0 : Int32) then (own_addm im1 ti1 0) else (own_addm im2 ti2 (own_addm im1 ti1 0)))) (hvp : vp = (if sec = (0 : Int32) then (own_addp im1 ti1 0) else (own_addp im2 ti2 (own_addp im1 ti1 0)))) (hvt : vt = (if sec = (0 : Int32) then (own_addt im1 ti1 0) else (own_addt im2 ti2 (own_addt im1 ti1 0)))) : (if own_rnd vi vm vp vt < (0 : Int64) then (0 : Int32) else (1 : Int32)) = ex := by
  have e0 : (0 : Int64).toInt = 0 := by decide
  have e1 : (1 : Int64).toInt = 1 := by decide
  have eH : (2147483648 : Int64).toInt = 2147483648 := by decide
  obtain ⟨-, -, -, -, -, n1a, n2a, n1b, n2b⟩ := own_core p1 p2 q1 q2 fl no1 hno1 no2 hno2 sec hsec im1 him1 im2 him2 y1 hy1 ti1 hti1 y2 hy2 ti2 hti2 ill hill n1 hn1 n2 hn2 tm htm hg hhg lo hlo wh hwh be hbe his hhis ex hex vi vm vp vt hvi hvm hvp hvt
  rw [own_rv p1 p2 q1 q2 fl no1 hno1 no2 hno2 sec hsec im1 him1 im2 him2 y1 hy1 ti1 hti1 y2 hy2 ti2 hti2 ill hill n1 hn1 n2 hn2 tm htm hg hhg lo hlo wh hwh be hbe his hhis ex hex vi vm vp vt hvi hvm hvp hvt]
  by_cases q : ill = 0
  · rw [if_pos q]
    rw [if_pos q] at hex
    by_cases t : (1073741824 : Int64) < tm
    · rw [if_pos t, if_pos (by decide)]
      rw [if_pos t] at hex
      exact hex.symm
    · rw [if_neg t]
      rw [if_neg t] at hex
      obtain ⟨b1, b2, b3, b4, b5, b6⟩ := own_bnd im1 im2 n1 n2 tm hg lo wh be htm hhg hlo hwh hbe n1a n2a n1b n2b t
      have c1 := c_ladd be tm
      have r1 := rng64 (be + tm)
      have c2 := c_ladd wh 1
      have r2 := rng64 (wh + (1 : Int64))
      rw [e1] at c2
      have nw : ¬ wh < 0 := by rw [Int64.lt_iff_toInt_lt, e0]; omega
      have nw1 : ¬ (wh + (1 : Int64)) < 0 := by rw [Int64.lt_iff_toInt_lt, e0]; omega
      by_cases s : (2147483648 : Int64) < be
      · have s2 : (2147483648 : Int64) < (be + tm) := by
          rw [Int64.lt_iff_toInt_lt, eH] at s ⊢; omega
        rw [if_pos s] at hhis
        rw [if_pos s2, if_pos s, if_neg nw1]
        rw [hhis, if_pos rfl] at hex
        exact hex.symm
      · rw [if_neg s] at hhis
        by_cases s2 : (2147483648 : Int64) < (be + tm)
        · rw [if_pos s2] at hhis
          rw [if_pos s2, if_neg s, if_pos (by decide)]
          rw [hhis, if_neg (by decide)] at hex
          exact hex.symm
        · rw [if_neg s2] at hhis
          rw [if_neg s2, if_neg nw]
          rw [hhis, if_pos rfl] at hex
          exact hex.symm
  · rw [if_neg q, if_pos (by decide)]
    rw [if_neg q] at hex
    exact hex.symm
theorem own_fig (p1 p2 : Int64) (q1 q2 fl : Int32) (no1 : Int32) (hno1 : no1 = (if (fl &&& (1 : Int32)) = (0 : Int32) then (0 : Int32) else (1 : Int32))) (no2 : Int32) (hno2 : no2 = (if (fl &&& (2 : Int32)) = (0 : Int32) then (0 : Int32) else (1 : Int32))) (sec : Int32) (hsec : sec = (if (fl &&& (4 : Int32)) = (0 : Int32) then (1 : Int32) else (0 : Int32))) (im1 : Int64) (him1 : im1 = (if no1 = (0 : Int32) then (p1 &&& (9223372036854775807 : Int64)) else (-1 : Int64))) (im2 : Int64) (him2 : im2 = (if no2 = (0 : Int32) then (p2 &&& (9223372036854775807 : Int64)) else (-1 : Int64))) (y1 : Int32) (hy1 : y1 = (q1 &&& (2147483647 : Int32))) (ti1 : Int32) (hti1 : ti1 = (own_max (1 : Int32) y1)) (y2 : Int32) (hy2 : y2 = (q2 &&& (2147483647 : Int32))) (ti2 : Int32) (hti2 : ti2 = (own_max (1 : Int32) y2)) (ill : Int32) (hill : ill = (if no1 = (0 : Int32) then (if sec = (0 : Int32) then (0 : Int32) else (if no2 = (0 : Int32) then (0 : Int32) else (1 : Int32))) else (1 : Int32))) (n1 : Int64) (hn1 : n1 = (if no1 = (0 : Int32) then ti1.toInt64 else (0 : Int64))) (n2 : Int64) (hn2 : n2 = (if sec = (0 : Int32) then (0 : Int64) else (if no2 = (0 : Int32) then ti2.toInt64 else (0 : Int64)))) (tm : Int64) (htm : tm = (n1 + n2)) (hg : Int64) (hhg : hg = ((((im1.toUInt64 >>> ((32 : Int32) &&& 0x3f).toInt64.toUInt64).toInt64) * n1) + (((im2.toUInt64 >>> ((32 : Int32) &&& 0x3f).toInt64.toUInt64).toInt64) * n2))) (lo : Int64) (hlo : lo = (((im1 &&& (4294967295 : Int64)) * n1) + ((im2 &&& (4294967295 : Int64)) * n2))) (wh : Int64) (hwh : wh = (hg + ((lo.toUInt64 >>> ((32 : Int32) &&& 0x3f).toInt64.toUInt64).toInt64))) (be : Int64) (hbe : be = (lo &&& (4294967295 : Int64))) (his : Int32) (hhis : his = (if (2147483648 : Int64) < be then (0 : Int32) else (if (2147483648 : Int64) < (be + tm) then (1 : Int32) else (0 : Int32)))) (ex : Int32) (hex : ex = (if ill = (0 : Int32) then (if (1073741824 : Int64) < tm then (0 : Int32) else (if his = (0 : Int32) then (1 : Int32) else (0 : Int32))) else (0 : Int32))) (vi vm vp vt : Int64) (hvi : vi = (if sec = (0 : Int32) then (own_addi im1 ti1 0) else (own_addi im2 ti2 (own_addi im1 ti1 0)))) (hvm : vm = (if sec = (0 : Int32) then (own_addm im1 ti1 0) else (own_addm im2 ti2 (own_addm im1 ti1 0)))) (hvp : vp = (if sec = (0 : Int32) then (own_addp im1 ti1 0) else (own_addp im2 ti2 (own_addp im1 ti1 0)))) (hvt : vt = (if sec = (0 : Int32) then (own_addt im1 ti1 0) else (own_addt im2 ti2 (own_addt im1 ti1 0)))) (hex1 : ¬ ex = (0 : Int32)) (fig : Int64) (hfig : fig = (if (2147483648 : Int64) < be then (wh + (1 : Int64)) else wh)) : own_rnd vi vm vp vt = fig ∧ ∃ R : Nat, fig.toInt = (R : Int) ∧ R < 5000000000000000000 := by
  have e0 : (0 : Int64).toInt = 0 := by decide
  have e1 : (1 : Int64).toInt = 1 := by decide
  have eH : (2147483648 : Int64).toInt = 2147483648 := by decide
  obtain ⟨-, -, -, -, -, n1a, n2a, n1b, n2b⟩ := own_core p1 p2 q1 q2 fl no1 hno1 no2 hno2 sec hsec im1 him1 im2 him2 y1 hy1 ti1 hti1 y2 hy2 ti2 hti2 ill hill n1 hn1 n2 hn2 tm htm hg hhg lo hlo wh hwh be hbe his hhis ex hex vi vm vp vt hvi hvm hvp hvt
  rw [own_rv p1 p2 q1 q2 fl no1 hno1 no2 hno2 sec hsec im1 him1 im2 him2 y1 hy1 ti1 hti1 y2 hy2 ti2 hti2 ill hill n1 hn1 n2 hn2 tm htm hg hhg lo hlo wh hwh be hbe his hhis ex hex vi vm vp vt hvi hvm hvp hvt]
  by_cases q : ill = 0
  · rw [if_pos q]
    rw [if_pos q] at hex
    by_cases t : (1073741824 : Int64) < tm
    · rw [if_pos t] at hex; exact absurd hex hex1
    · rw [if_neg t]
      rw [if_neg t] at hex
      obtain ⟨b1, b2, b3, b4, b5, b6⟩ := own_bnd im1 im2 n1 n2 tm hg lo wh be htm hhg hlo hwh hbe n1a n2a n1b n2b t
      have c1 := c_ladd be tm
      have r1 := rng64 (be + tm)
      have c2 := c_ladd wh 1
      have r2 := rng64 (wh + (1 : Int64))
      rw [e1] at c2
      by_cases s : (2147483648 : Int64) < be
      · have s2 : (2147483648 : Int64) < (be + tm) := by
          rw [Int64.lt_iff_toInt_lt, eH] at s ⊢; omega
        rw [if_pos s] at hfig
        rw [if_pos s2, if_pos s]
        exact ⟨hfig.symm, fig.toInt.toNat, by rw [hfig]; omega, by rw [hfig]; omega⟩
      · rw [if_neg s] at hhis hfig
        by_cases s2 : (2147483648 : Int64) < (be + tm)
        · rw [if_pos s2] at hhis
          rw [hhis, if_neg (by decide)] at hex
          exact absurd hex hex1
        · rw [if_neg s2]
          exact ⟨hfig.symm, fig.toInt.toNat, by rw [hfig]; omega, by rw [hfig]; omega⟩
  · rw [if_neg q] at hex
    exact absurd hex hex1
theorem own_pd6 : parseMethodDescriptor "([BI)I" = some ⟨[(.array .byte), .int], some .int⟩ := by decide +kernel
theorem own_pd7 : parseMethodDescriptor "([B[B)Z" = some ⟨[(.array .byte), (.array .byte)], some .boolean⟩ := by decide +kernel
theorem own_eflaw (m : MethodId) (p1 : Int64) (q1 : Int32) (p2 : Int64) (q2 : Int32) (fl : Int32) : entryFrame m #[(.long p1), (.int q1), (.long p2), (.int q2), (.int fl)] maxLocals = mkF m 0 #[own_lv p1, .second, iv q1, own_lv p2, .second, iv q2, iv fl, .unset, .unset, .unset, .unset, .unset, .unset, .unset, .unset, .unset, .unset, .unset, .unset, .unset, .unset, .unset, .unset, .unset, .unset, .unset, .unset, .unset, .unset, .unset, .unset, .unset, .unset, .unset, .unset, .unset, .unset, .unset, .unset, .unset, .unset, .unset] [] := by first | (simp [entryFrame, mkF, argsToLocals, Value.category, maxLocals]; done) | rfl
set_option maxRecDepth 65536 in
set_option maxHeartbeats 40000000 in
theorem own_rmlaw (l : Launch) (Z : State) (a0 : Array Value) (hw : ∀ d ∈ tables_1, d.before a0 Z = true) (p1 : Int64) (q1 : Int32) (p2 : Int64) (q2 : Int32) (fl : Int32) (h0 : Heap) (n0 : Nat) (Z0 : n0 ≤ h0.size) :
    MetFree l Jvm.Pilot.@@N@@.x (head1 (Jvm.Cond.code Jvm.Pilot.@@N@@.x code maxLocals ret :: tables_1) room_1) (fun a U => a = #[(.long p1), (.int q1), (.long p2), (.int q2), (.int fl)] ∧ Z.Warmed39 U.vm ∧ U.heap = h0) (fun _ _ _ _ _ => True) (fun _ U o U' => ∃ v L, o = .returned v ∧ (fun v h L => v = some (.int 1) ∧ Fr n0 L) v U'.heap L ∧ FrameEnd U o U' L 3 58) := by
  refine own_body (y := Jvm.Pilot.@@N@@.x) (Q := fun v h L => v = some (.int 1) ∧ Fr n0 L) (plainFor_of_name own_pn3) ?_
  intro p e s m below meth c s₁ Bd hml0 hZ e0
  have hx := Bd.exec
  have hby := Bd.bytes
  have hml : c.maxLocals = 42 := hml0
  have hown : s.vm.findClass "com/example/coverfold/coverfold/SumAddPinLaw" = some m.cls := findClass_of_methodNamed Bd.named
  have hnm := (name_of_methodNamed Bd.named Bd.method).1
  have X0 : Stand p l e room_1 s m #[(.long p1), (.int q1), (.long p2), (.int q2), (.int fl)] below meth c s₁ [] 0 0 := Stand.of_body Bd
  have N0 := Fr.nil n0
  rw [own_eflaw]
  have sg1 : own_V p e below s₁ (mkF m 2 #[own_lv p1, .second, iv q1, own_lv p2, .second, iv q2, iv fl, .unset, .unset, .unset, .unset, .unset, .unset, .unset, .unset, .unset, .unset, .unset, .unset, .unset, .unset, .unset, .unset, .unset, .unset, .unset, .unset, .unset, .unset, .unset, .unset, .unset, .unset, .unset, .unset, .unset, .unset, .unset, .unset, .unset, .unset, .unset] [(.int (27 : Int32))]) (mkF m 0 #[own_lv p1, .second, iv q1, own_lv p2, .second, iv q2, iv fl, .unset, .unset, .unset, .unset, .unset, .unset, .unset, .unset, .unset, .unset, .unset, .unset, .unset, .unset, .unset, .unset, .unset, .unset, .unset, .unset, .unset, .unset, .unset, .unset, .unset, .unset, .unset, .unset, .unset, .unset, .unset, .unset, .unset, .unset, .unset] []) := by
    intro t kt
    refine XS.bipush X0.here hx rfl (hb hby at_0) ?_
    show own_S p e below s₁ m 2 #[own_lv p1, .second, iv q1, own_lv p2, .second, iv q2, iv fl, .unset, .unset, .unset, .unset, .unset, .unset, .unset, .unset, .unset, .unset, .unset, .unset, .unset, .unset, .unset, .unset, .unset, .unset, .unset, .unset, .unset, .unset, .unset, .unset, .unset, .unset, .unset, .unset, .unset, .unset, .unset, .unset, .unset, .unset, .unset] [(.int (27 : Int32))] _
    exact kt
  refine own_st sg1 ?_
  obtain ⟨T2, h2, a2, g2, X2, e2, E2, A2, st2⟩ := own_newP (n := 27) X0 hx hZ (hw _ (List.mem_of_getElem? (i := 0) rfl)) e0 (by decide) rfl (g := (mkF m 2 #[own_lv p1, .second, iv q1, own_lv p2, .second, iv q2, iv fl, .unset, .unset, .unset, .unset, .unset, .unset, .unset, .unset, .unset, .unset, .unset, .unset, .unset, .unset, .unset, .unset, .unset, .unset, .unset, .unset, .unset, .unset, .unset, .unset, .unset, .unset, .unset, .unset, .unset, .unset, .unset, .unset, .unset, .unset, .unset] [(.int (27 : Int32))])) rfl rfl (hb hby at_2) (cap := 27) (by decide) (by decide) (by decide) (by decide)
  refine own_st st2 ?_
  have g_a2 : n0 ≤ a2 := by rw [g2]; exact Z0
  have Z2 : n0 ≤ h2.size := Nat.le_trans Z0 E2.1
  have B2 : own_AI Z h2 a2 .byte 27 (fun _ => 0) := A2
  show own_Go p e below _ T2 (mkF m 4 #[own_lv p1, .second, iv q1, own_lv p2, .second, iv q2, iv fl, .unset, .unset, .unset, .unset, .unset, .unset, .unset, .unset, .unset, .unset, .unset, .unset, .unset, .unset, .unset, .unset, .unset, .unset, .unset, .unset, .unset, .unset, .unset, .unset, .unset, .unset, .unset, .unset, .unset, .unset, .unset, .unset, .unset, .unset, .unset] [(.ref a2)])
  have sg3 : own_V p e below T2 (mkF m 8 #[own_lv p1, .second, iv q1, own_lv p2, .second, iv q2, iv fl, rv a2, .unset, .unset, .unset, .unset, .unset, .unset, .unset, .unset, .unset, .unset, .unset, .unset, .unset, .unset, .unset, .unset, .unset, .unset, .unset, .unset, .unset, .unset, .unset, .unset, .unset, .unset, .unset, .unset, .unset, .unset, .unset, .unset, .unset, .unset] [(.int (27 : Int32))]) (mkF m 4 #[own_lv p1, .second, iv q1, own_lv p2, .second, iv q2, iv fl, .unset, .unset, .unset, .unset, .unset, .unset, .unset, .unset, .unset, .unset, .unset, .unset, .unset, .unset, .unset, .unset, .unset, .unset, .unset, .unset, .unset, .unset, .unset, .unset, .unset, .unset, .unset, .unset, .unset, .unset, .unset, .unset, .unset, .unset, .unset] [(.ref a2)]) := by
    intro t kt
    refine XS.astore X2.here hx rfl (hb hby at_4) rfl rfl (l' := #[own_lv p1, .second, iv q1, own_lv p2, .second, iv q2, iv fl, rv a2, .unset, .unset, .unset, .unset, .unset, .unset, .unset, .unset, .unset, .unset, .unset, .unset, .unset, .unset, .unset, .unset, .unset, .unset, .unset, .unset, .unset, .unset, .unset, .unset, .unset, .unset, .unset, .unset, .unset, .unset, .unset, .unset, .unset, .unset]) rfl ?_
    show own_S p e below T2 m 6 #[own_lv p1, .second, iv q1, own_lv p2, .second, iv q2, iv fl, rv a2, .unset, .unset, .unset, .unset, .unset, .unset, .unset, .unset, .unset, .unset, .unset, .unset, .unset, .unset, .unset, .unset, .unset, .unset, .unset, .unset, .unset, .unset, .unset, .unset, .unset, .unset, .unset, .unset, .unset, .unset, .unset, .unset, .unset, .unset] [] _
    refine XS.bipush X2.here hx rfl (hb hby at_6) ?_
    show own_S p e below T2 m 8 #[own_lv p1, .second, iv q1, own_lv p2, .second, iv q2, iv fl, rv a2, .unset, .unset, .unset, .unset, .unset, .unset, .unset, .unset, .unset, .unset, .unset, .unset, .unset, .unset, .unset, .unset, .unset, .unset, .unset, .unset, .unset, .unset, .unset, .unset, .unset, .unset, .unset, .unset, .unset, .unset, .unset, .unset, .unset, .unset] [(.int (27 : Int32))] _
    exact kt
  refine own_st sg3 ?_
  obtain ⟨T4, h4, a4, g4, X4, e4, E4, A4, st4⟩ := own_newP (n := 27) X2 hx hZ (hw _ (List.mem_of_getElem? (i := 0) rfl)) e2 (by decide) rfl (g := (mkF m 8 #[own_lv p1, .second, iv q1, own_lv p2, .second, iv q2, iv fl, rv a2, .unset, .unset, .unset, .unset, .unset, .unset, .unset, .unset, .unset, .unset, .unset, .unset, .unset, .unset, .unset, .unset, .unset, .unset, .unset, .unset, .unset, .unset, .unset, .unset, .unset, .unset, .unset, .unset, .unset, .unset, .unset, .unset, .unset, .unset] [(.int (27 : Int32))])) rfl rfl (hb hby at_8) (cap := 27) (by decide) (by decide) (by decide) (by decide)
  refine own_st st4 ?_
  have g_a4 : n0 ≤ a4 := by rw [g4]; exact Z2
  have Z4 : n0 ≤ h4.size := Nat.le_trans Z2 E4.1
  have B4 : own_AI Z h4 a4 .byte 27 (fun _ => 0) := A4
  show own_Go p e below _ T4 (mkF m 10 #[own_lv p1, .second, iv q1, own_lv p2, .second, iv q2, iv fl, rv a2, .unset, .unset, .unset, .unset, .unset, .unset, .unset, .unset, .unset, .unset, .unset, .unset, .unset, .unset, .unset, .unset, .unset, .unset, .unset, .unset, .unset, .unset, .unset, .unset, .unset, .unset, .unset, .unset, .unset, .unset, .unset, .unset, .unset, .unset] [(.ref a4)])
  have B2x := B2.ext E4
  have ne12 : a2 ≠ a4 := Nat.ne_of_lt (by rw [g4]; exact B2.lt)
  obtain ⟨no1, hno1⟩ : ∃ z : Int32, z = (if (fl &&& (1 : Int32)) = (0 : Int32) then (0 : Int32) else (1 : Int32)) := ⟨_, rfl⟩
  have sg6 : own_V p e below T4 (mkF m 24 #[own_lv p1, .second, iv q1, own_lv p2, .second, iv q2, iv fl, rv a2, rv a4, .unset, .unset, .unset, .unset, .unset, .unset, .unset, .unset, .unset, .unset, .unset, .unset, .unset, .unset, .unset, .unset, .unset, .unset, .unset, .unset, .unset, .unset, .unset, .unset, .unset, .unset, .unset, .unset, .unset, .unset, .unset, .unset, .unset] [(.int no1)]) (mkF m 10 #[own_lv p1, .second, iv q1, own_lv p2, .second, iv q2, iv fl, rv a2, .unset, .unset, .unset, .unset, .unset, .unset, .unset, .unset, .unset, .unset, .unset, .unset, .unset, .unset, .unset, .unset, .unset, .unset, .unset, .unset, .unset, .unset, .unset, .unset, .unset, .unset, .unset, .unset, .unset, .unset, .unset, .unset, .unset, .unset] [(.ref a4)]) := by
    intro t kt
    refine XS.astore X4.here hx rfl (hb hby at_10) rfl rfl (l' := #[own_lv p1, .second, iv q1, own_lv p2, .second, iv q2, iv fl, rv a2, rv a4, .unset, .unset, .unset, .unset, .unset, .unset, .unset, .unset, .unset, .unset, .unset, .unset, .unset, .unset, .unset, .unset, .unset, .unset, .unset, .unset, .unset, .unset, .unset, .unset, .unset, .unset, .unset, .unset, .unset, .unset, .unset, .unset, .unset]) rfl ?_
    show own_S p e below T4 m 12 #[own_lv p1, .second, iv q1, own_lv p2, .second, iv q2, iv fl, rv a2, rv a4, .unset, .unset, .unset, .unset, .unset, .unset, .unset, .unset, .unset, .unset, .unset, .unset, .unset, .unset, .unset, .unset, .unset, .unset, .unset, .unset, .unset, .unset, .unset, .unset, .unset, .unset, .unset, .unset, .unset, .unset, .unset, .unset, .unset] [] _
    refine XS.iload X4.here hx rfl (hb hby at_12) rfl ?_
    show own_S p e below T4 m 14 #[own_lv p1, .second, iv q1, own_lv p2, .second, iv q2, iv fl, rv a2, rv a4, .unset, .unset, .unset, .unset, .unset, .unset, .unset, .unset, .unset, .unset, .unset, .unset, .unset, .unset, .unset, .unset, .unset, .unset, .unset, .unset, .unset, .unset, .unset, .unset, .unset, .unset, .unset, .unset, .unset, .unset, .unset, .unset, .unset] [(.int fl)] _
    refine XS.iconst X4.here hx rfl (hb hby at_14) ?_
    show own_S p e below T4 m 15 #[own_lv p1, .second, iv q1, own_lv p2, .second, iv q2, iv fl, rv a2, rv a4, .unset, .unset, .unset, .unset, .unset, .unset, .unset, .unset, .unset, .unset, .unset, .unset, .unset, .unset, .unset, .unset, .unset, .unset, .unset, .unset, .unset, .unset, .unset, .unset, .unset, .unset, .unset, .unset, .unset, .unset, .unset, .unset, .unset] [(.int (1 : Int32)), (.int fl)] _
    refine XS.iand X4.here hx rfl (hb hby at_15) rfl ?_
    show own_S p e below T4 m 16 #[own_lv p1, .second, iv q1, own_lv p2, .second, iv q2, iv fl, rv a2, rv a4, .unset, .unset, .unset, .unset, .unset, .unset, .unset, .unset, .unset, .unset, .unset, .unset, .unset, .unset, .unset, .unset, .unset, .unset, .unset, .unset, .unset, .unset, .unset, .unset, .unset, .unset, .unset, .unset, .unset, .unset, .unset, .unset, .unset] [(.int (fl &&& (1 : Int32)))] _
    by_cases hc5 : (fl &&& (1 : Int32)) = (0 : Int32)
    · refine XS.ifYes X4.here hx rfl (pc0 := 16) (pc' := 23) rfl (hb hby at_16) rfl ((if0 _ _).trans (teq hc5).1) (by decide) (by decide) ?_
      show own_S p e below T4 m 23 #[own_lv p1, .second, iv q1, own_lv p2, .second, iv q2, iv fl, rv a2, rv a4, .unset, .unset, .unset, .unset, .unset, .unset, .unset, .unset, .unset, .unset, .unset, .unset, .unset, .unset, .unset, .unset, .unset, .unset, .unset, .unset, .unset, .unset, .unset, .unset, .unset, .unset, .unset, .unset, .unset, .unset, .unset, .unset, .unset] [] _
      refine XS.iconst X4.here hx rfl (hb hby at_23) ?_
      show own_S p e below T4 m 24 #[own_lv p1, .second, iv q1, own_lv p2, .second, iv q2, iv fl, rv a2, rv a4, .unset, .unset, .unset, .unset, .unset, .unset, .unset, .unset, .unset, .unset, .unset, .unset, .unset, .unset, .unset, .unset, .unset, .unset, .unset, .unset, .unset, .unset, .unset, .unset, .unset, .unset, .unset, .unset, .unset, .unset, .unset, .unset, .unset] [(.int (0 : Int32))] _
      rw [show no1 = (0 : Int32) from by rw [hno1, if_pos hc5]] at kt
      exact kt
    · refine XS.ifNo X4.here hx rfl (hb hby at_16) rfl ((if0 _ _).trans (feq hc5).1) ?_
      show own_S p e below T4 m 19 #[own_lv p1, .second, iv q1, own_lv p2, .second, iv q2, iv fl, rv a2, rv a4, .unset, .unset, .unset, .unset, .unset, .unset, .unset, .unset, .unset, .unset, .unset, .unset, .unset, .unset, .unset, .unset, .unset, .unset, .unset, .unset, .unset, .unset, .unset, .unset, .unset, .unset, .unset, .unset, .unset, .unset, .unset, .unset, .unset] [] _
      refine XS.iconst X4.here hx rfl (hb hby at_19) ?_
      show own_S p e below T4 m 20 #[own_lv p1, .second, iv q1, own_lv p2, .second, iv q2, iv fl, rv a2, rv a4, .unset, .unset, .unset, .unset, .unset, .unset, .unset, .unset, .unset, .unset, .unset, .unset, .unset, .unset, .unset, .unset, .unset, .unset, .unset, .unset, .unset, .unset, .unset, .unset, .unset, .unset, .unset, .unset, .unset, .unset, .unset, .unset, .unset] [(.int (1 : Int32))] _
      refine XS.goto X4.here hx rfl (pc0 := 20) (pc' := 24) rfl (hb hby at_20) (by decide) (by decide) ?_
      show own_S p e below T4 m 24 #[own_lv p1, .second, iv q1, own_lv p2, .second, iv q2, iv fl, rv a2, rv a4, .unset, .unset, .unset, .unset, .unset, .unset, .unset, .unset, .unset, .unset, .unset, .unset, .unset, .unset, .unset, .unset, .unset, .unset, .unset, .unset, .unset, .unset, .unset, .unset, .unset, .unset, .unset, .unset, .unset, .unset, .unset, .unset, .unset] [(.int (1 : Int32))] _
      rw [show no1 = (1 : Int32) from by rw [hno1, if_neg hc5]] at kt
      exact kt
  refine own_st sg6 ?_
  obtain ⟨no2, hno2⟩ : ∃ z : Int32, z = (if (fl &&& (2 : Int32)) = (0 : Int32) then (0 : Int32) else (1 : Int32)) := ⟨_, rfl⟩
  have sg8 : own_V p e below T4 (mkF m 38 #[own_lv p1, .second, iv q1, own_lv p2, .second, iv q2, iv fl, rv a2, rv a4, iv no1, .unset, .unset, .unset, .unset, .unset, .unset, .unset, .unset, .unset, .unset, .unset, .unset, .unset, .unset, .unset, .unset, .unset, .unset, .unset, .unset, .unset, .unset, .unset, .unset, .unset, .unset, .unset, .unset, .unset, .unset, .unset, .unset] [(.int no2)]) (mkF m 24 #[own_lv p1, .second, iv q1, own_lv p2, .second, iv q2, iv fl, rv a2, rv a4, .unset, .unset, .unset, .unset, .unset, .unset, .unset, .unset, .unset, .unset, .unset, .unset, .unset, .unset, .unset, .unset, .unset, .unset, .unset, .unset, .unset, .unset, .unset, .unset, .unset, .unset, .unset, .unset, .unset, .unset, .unset, .unset, .unset] [(.int no1)]) := by
    intro t kt
    refine XS.istore X4.here hx rfl (hb hby at_24) rfl (l' := #[own_lv p1, .second, iv q1, own_lv p2, .second, iv q2, iv fl, rv a2, rv a4, iv no1, .unset, .unset, .unset, .unset, .unset, .unset, .unset, .unset, .unset, .unset, .unset, .unset, .unset, .unset, .unset, .unset, .unset, .unset, .unset, .unset, .unset, .unset, .unset, .unset, .unset, .unset, .unset, .unset, .unset, .unset, .unset, .unset]) rfl ?_
    show own_S p e below T4 m 26 #[own_lv p1, .second, iv q1, own_lv p2, .second, iv q2, iv fl, rv a2, rv a4, iv no1, .unset, .unset, .unset, .unset, .unset, .unset, .unset, .unset, .unset, .unset, .unset, .unset, .unset, .unset, .unset, .unset, .unset, .unset, .unset, .unset, .unset, .unset, .unset, .unset, .unset, .unset, .unset, .unset, .unset, .unset, .unset, .unset] [] _
    refine XS.iload X4.here hx rfl (hb hby at_26) rfl ?_
    show own_S p e below T4 m 28 #[own_lv p1, .second, iv q1, own_lv p2, .second, iv q2, iv fl, rv a2, rv a4, iv no1, .unset, .unset, .unset, .unset, .unset, .unset, .unset, .unset, .unset, .unset, .unset, .unset, .unset, .unset, .unset, .unset, .unset, .unset, .unset, .unset, .unset, .unset, .unset, .unset, .unset, .unset, .unset, .unset, .unset, .unset, .unset, .unset] [(.int fl)] _
    refine XS.iconst X4.here hx rfl (hb hby at_28) ?_
    show own_S p e below T4 m 29 #[own_lv p1, .second, iv q1, own_lv p2, .second, iv q2, iv fl, rv a2, rv a4, iv no1, .unset, .unset, .unset, .unset, .unset, .unset, .unset, .unset, .unset, .unset, .unset, .unset, .unset, .unset, .unset, .unset, .unset, .unset, .unset, .unset, .unset, .unset, .unset, .unset, .unset, .unset, .unset, .unset, .unset, .unset, .unset, .unset] [(.int (2 : Int32)), (.int fl)] _
    refine XS.iand X4.here hx rfl (hb hby at_29) rfl ?_
    show own_S p e below T4 m 30 #[own_lv p1, .second, iv q1, own_lv p2, .second, iv q2, iv fl, rv a2, rv a4, iv no1, .unset, .unset, .unset, .unset, .unset, .unset, .unset, .unset, .unset, .unset, .unset, .unset, .unset, .unset, .unset, .unset, .unset, .unset, .unset, .unset, .unset, .unset, .unset, .unset, .unset, .unset, .unset, .unset, .unset, .unset, .unset, .unset] [(.int (fl &&& (2 : Int32)))] _
    by_cases hc7 : (fl &&& (2 : Int32)) = (0 : Int32)
    · refine XS.ifYes X4.here hx rfl (pc0 := 30) (pc' := 37) rfl (hb hby at_30) rfl ((if0 _ _).trans (teq hc7).1) (by decide) (by decide) ?_
      show own_S p e below T4 m 37 #[own_lv p1, .second, iv q1, own_lv p2, .second, iv q2, iv fl, rv a2, rv a4, iv no1, .unset, .unset, .unset, .unset, .unset, .unset, .unset, .unset, .unset, .unset, .unset, .unset, .unset, .unset, .unset, .unset, .unset, .unset, .unset, .unset, .unset, .unset, .unset, .unset, .unset, .unset, .unset, .unset, .unset, .unset, .unset, .unset] [] _
      refine XS.iconst X4.here hx rfl (hb hby at_37) ?_
      show own_S p e below T4 m 38 #[own_lv p1, .second, iv q1, own_lv p2, .second, iv q2, iv fl, rv a2, rv a4, iv no1, .unset, .unset, .unset, .unset, .unset, .unset, .unset, .unset, .unset, .unset, .unset, .unset, .unset, .unset, .unset, .unset, .unset, .unset, .unset, .unset, .unset, .unset, .unset, .unset, .unset, .unset, .unset, .unset, .unset, .unset, .unset, .unset] [(.int (0 : Int32))] _
      rw [show no2 = (0 : Int32) from by rw [hno2, if_pos hc7]] at kt
      exact kt
    · refine XS.ifNo X4.here hx rfl (hb hby at_30) rfl ((if0 _ _).trans (feq hc7).1) ?_
      show own_S p e below T4 m 33 #[own_lv p1, .second, iv q1, own_lv p2, .second, iv q2, iv fl, rv a2, rv a4, iv no1, .unset, .unset, .unset, .unset, .unset, .unset, .unset, .unset, .unset, .unset, .unset, .unset, .unset, .unset, .unset, .unset, .unset, .unset, .unset, .unset, .unset, .unset, .unset, .unset, .unset, .unset, .unset, .unset, .unset, .unset, .unset, .unset] [] _
      refine XS.iconst X4.here hx rfl (hb hby at_33) ?_
      show own_S p e below T4 m 34 #[own_lv p1, .second, iv q1, own_lv p2, .second, iv q2, iv fl, rv a2, rv a4, iv no1, .unset, .unset, .unset, .unset, .unset, .unset, .unset, .unset, .unset, .unset, .unset, .unset, .unset, .unset, .unset, .unset, .unset, .unset, .unset, .unset, .unset, .unset, .unset, .unset, .unset, .unset, .unset, .unset, .unset, .unset, .unset, .unset] [(.int (1 : Int32))] _
      refine XS.goto X4.here hx rfl (pc0 := 34) (pc' := 38) rfl (hb hby at_34) (by decide) (by decide) ?_
      show own_S p e below T4 m 38 #[own_lv p1, .second, iv q1, own_lv p2, .second, iv q2, iv fl, rv a2, rv a4, iv no1, .unset, .unset, .unset, .unset, .unset, .unset, .unset, .unset, .unset, .unset, .unset, .unset, .unset, .unset, .unset, .unset, .unset, .unset, .unset, .unset, .unset, .unset, .unset, .unset, .unset, .unset, .unset, .unset, .unset, .unset, .unset, .unset] [(.int (1 : Int32))] _
      rw [show no2 = (1 : Int32) from by rw [hno2, if_neg hc7]] at kt
      exact kt
  refine own_st sg8 ?_
  obtain ⟨sec, hsec⟩ : ∃ z : Int32, z = (if (fl &&& (4 : Int32)) = (0 : Int32) then (1 : Int32) else (0 : Int32)) := ⟨_, rfl⟩
  have sg10 : own_V p e below T4 (mkF m 52 #[own_lv p1, .second, iv q1, own_lv p2, .second, iv q2, iv fl, rv a2, rv a4, iv no1, iv no2, .unset, .unset, .unset, .unset, .unset, .unset, .unset, .unset, .unset, .unset, .unset, .unset, .unset, .unset, .unset, .unset, .unset, .unset, .unset, .unset, .unset, .unset, .unset, .unset, .unset, .unset, .unset, .unset, .unset, .unset, .unset] [(.int sec)]) (mkF m 38 #[own_lv p1, .second, iv q1, own_lv p2, .second, iv q2, iv fl, rv a2, rv a4, iv no1, .unset, .unset, .unset, .unset, .unset, .unset, .unset, .unset, .unset, .unset, .unset, .unset, .unset, .unset, .unset, .unset, .unset, .unset, .unset, .unset, .unset, .unset, .unset, .unset, .unset, .unset, .unset, .unset, .unset, .unset, .unset, .unset] [(.int no2)]) := by
    intro t kt
    refine XS.istore X4.here hx rfl (hb hby at_38) rfl (l' := #[own_lv p1, .second, iv q1, own_lv p2, .second, iv q2, iv fl, rv a2, rv a4, iv no1, iv no2, .unset, .unset, .unset, .unset, .unset, .unset, .unset, .unset, .unset, .unset, .unset, .unset, .unset, .unset, .unset, .unset, .unset, .unset, .unset, .unset, .unset, .unset, .unset, .unset, .unset, .unset, .unset, .unset, .unset, .unset, .unset]) rfl ?_
    show own_S p e below T4 m 40 #[own_lv p1, .second, iv q1, own_lv p2, .second, iv q2, iv fl, rv a2, rv a4, iv no1, iv no2, .unset, .unset, .unset, .unset, .unset, .unset, .unset, .unset, .unset, .unset, .unset, .unset, .unset, .unset, .unset, .unset, .unset, .unset, .unset, .unset, .unset, .unset, .unset, .unset, .unset, .unset, .unset, .unset, .unset, .unset, .unset] [] _
    refine XS.iload X4.here hx rfl (hb hby at_40) rfl ?_
    show own_S p e below T4 m 42 #[own_lv p1, .second, iv q1, own_lv p2, .second, iv q2, iv fl, rv a2, rv a4, iv no1, iv no2, .unset, .unset, .unset, .unset, .unset, .unset, .unset, .unset, .unset, .unset, .unset, .unset, .unset, .unset, .unset, .unset, .unset, .unset, .unset, .unset, .unset, .unset, .unset, .unset, .unset, .unset, .unset, .unset, .unset, .unset, .unset] [(.int fl)] _
    refine XS.iconst X4.here hx rfl (hb hby at_42) ?_
    show own_S p e below T4 m 43 #[own_lv p1, .second, iv q1, own_lv p2, .second, iv q2, iv fl, rv a2, rv a4, iv no1, iv no2, .unset, .unset, .unset, .unset, .unset, .unset, .unset, .unset, .unset, .unset, .unset, .unset, .unset, .unset, .unset, .unset, .unset, .unset, .unset, .unset, .unset, .unset, .unset, .unset, .unset, .unset, .unset, .unset, .unset, .unset, .unset] [(.int (4 : Int32)), (.int fl)] _
    refine XS.iand X4.here hx rfl (hb hby at_43) rfl ?_
    show own_S p e below T4 m 44 #[own_lv p1, .second, iv q1, own_lv p2, .second, iv q2, iv fl, rv a2, rv a4, iv no1, iv no2, .unset, .unset, .unset, .unset, .unset, .unset, .unset, .unset, .unset, .unset, .unset, .unset, .unset, .unset, .unset, .unset, .unset, .unset, .unset, .unset, .unset, .unset, .unset, .unset, .unset, .unset, .unset, .unset, .unset, .unset, .unset] [(.int (fl &&& (4 : Int32)))] _
    by_cases hc9 : (fl &&& (4 : Int32)) = (0 : Int32)
    · refine XS.ifNo X4.here hx rfl (hb hby at_44) rfl ((if0 _ _).trans (teq hc9).2) ?_
      show own_S p e below T4 m 47 #[own_lv p1, .second, iv q1, own_lv p2, .second, iv q2, iv fl, rv a2, rv a4, iv no1, iv no2, .unset, .unset, .unset, .unset, .unset, .unset, .unset, .unset, .unset, .unset, .unset, .unset, .unset, .unset, .unset, .unset, .unset, .unset, .unset, .unset, .unset, .unset, .unset, .unset, .unset, .unset, .unset, .unset, .unset, .unset, .unset] [] _
      refine XS.iconst X4.here hx rfl (hb hby at_47) ?_
      show own_S p e below T4 m 48 #[own_lv p1, .second, iv q1, own_lv p2, .second, iv q2, iv fl, rv a2, rv a4, iv no1, iv no2, .unset, .unset, .unset, .unset, .unset, .unset, .unset, .unset, .unset, .unset, .unset, .unset, .unset, .unset, .unset, .unset, .unset, .unset, .unset, .unset, .unset, .unset, .unset, .unset, .unset, .unset, .unset, .unset, .unset, .unset, .unset] [(.int (1 : Int32))] _
      refine XS.goto X4.here hx rfl (pc0 := 48) (pc' := 52) rfl (hb hby at_48) (by decide) (by decide) ?_
      show own_S p e below T4 m 52 #[own_lv p1, .second, iv q1, own_lv p2, .second, iv q2, iv fl, rv a2, rv a4, iv no1, iv no2, .unset, .unset, .unset, .unset, .unset, .unset, .unset, .unset, .unset, .unset, .unset, .unset, .unset, .unset, .unset, .unset, .unset, .unset, .unset, .unset, .unset, .unset, .unset, .unset, .unset, .unset, .unset, .unset, .unset, .unset, .unset] [(.int (1 : Int32))] _
      rw [show sec = (1 : Int32) from by rw [hsec, if_pos hc9]] at kt
      exact kt
    · refine XS.ifYes X4.here hx rfl (pc0 := 44) (pc' := 51) rfl (hb hby at_44) rfl ((if0 _ _).trans (feq hc9).2) (by decide) (by decide) ?_
      show own_S p e below T4 m 51 #[own_lv p1, .second, iv q1, own_lv p2, .second, iv q2, iv fl, rv a2, rv a4, iv no1, iv no2, .unset, .unset, .unset, .unset, .unset, .unset, .unset, .unset, .unset, .unset, .unset, .unset, .unset, .unset, .unset, .unset, .unset, .unset, .unset, .unset, .unset, .unset, .unset, .unset, .unset, .unset, .unset, .unset, .unset, .unset, .unset] [] _
      refine XS.iconst X4.here hx rfl (hb hby at_51) ?_
      show own_S p e below T4 m 52 #[own_lv p1, .second, iv q1, own_lv p2, .second, iv q2, iv fl, rv a2, rv a4, iv no1, iv no2, .unset, .unset, .unset, .unset, .unset, .unset, .unset, .unset, .unset, .unset, .unset, .unset, .unset, .unset, .unset, .unset, .unset, .unset, .unset, .unset, .unset, .unset, .unset, .unset, .unset, .unset, .unset, .unset, .unset, .unset, .unset] [(.int (0 : Int32))] _
      rw [show sec = (0 : Int32) from by rw [hsec, if_neg hc9]] at kt
      exact kt
  refine own_st sg10 ?_
  obtain ⟨im1, him1⟩ : ∃ z : Int64, z = (if no1 = (0 : Int32) then (p1 &&& (9223372036854775807 : Int64)) else (-1 : Int64)) := ⟨_, rfl⟩
  have sg12 : own_V p e below T4 (mkF m 70 #[own_lv p1, .second, iv q1, own_lv p2, .second, iv q2, iv fl, rv a2, rv a4, iv no1, iv no2, iv sec, .unset, .unset, .unset, .unset, .unset, .unset, .unset, .unset, .unset, .unset, .unset, .unset, .unset, .unset, .unset, .unset, .unset, .unset, .unset, .unset, .unset, .unset, .unset, .unset, .unset, .unset, .unset, .unset, .unset, .unset] [(.long im1)]) (mkF m 52 #[own_lv p1, .second, iv q1, own_lv p2, .second, iv q2, iv fl, rv a2, rv a4, iv no1, iv no2, .unset, .unset, .unset, .unset, .unset, .unset, .unset, .unset, .unset, .unset, .unset, .unset, .unset, .unset, .unset, .unset, .unset, .unset, .unset, .unset, .unset, .unset, .unset, .unset, .unset, .unset, .unset, .unset, .unset, .unset, .unset] [(.int sec)]) := by
    intro t kt
    refine XS.istore X4.here hx rfl (hb hby at_52) rfl (l' := #[own_lv p1, .second, iv q1, own_lv p2, .second, iv q2, iv fl, rv a2, rv a4, iv no1, iv no2, iv sec, .unset, .unset, .unset, .unset, .unset, .unset, .unset, .unset, .unset, .unset, .unset, .unset, .unset, .unset, .unset, .unset, .unset, .unset, .unset, .unset, .unset, .unset, .unset, .unset, .unset, .unset, .unset, .unset, .unset, .unset]) rfl ?_
    show own_S p e below T4 m 54 #[own_lv p1, .second, iv q1, own_lv p2, .second, iv q2, iv fl, rv a2, rv a4, iv no1, iv no2, iv sec, .unset, .unset, .unset, .unset, .unset, .unset, .unset, .unset, .unset, .unset, .unset, .unset, .unset, .unset, .unset, .unset, .unset, .unset, .unset, .unset, .unset, .unset, .unset, .unset, .unset, .unset, .unset, .unset, .unset, .unset] [] _
    refine XS.iload X4.here hx rfl (hb hby at_54) rfl ?_
    show own_S p e below T4 m 56 #[own_lv p1, .second, iv q1, own_lv p2, .second, iv q2, iv fl, rv a2, rv a4, iv no1, iv no2, iv sec, .unset, .unset, .unset, .unset, .unset, .unset, .unset, .unset, .unset, .unset, .unset, .unset, .unset, .unset, .unset, .unset, .unset, .unset, .unset, .unset, .unset, .unset, .unset, .unset, .unset, .unset, .unset, .unset, .unset, .unset] [(.int no1)] _
    by_cases hc11 : no1 = (0 : Int32)
    · refine XS.ifYes X4.here hx rfl (pc0 := 56) (pc' := 65) rfl (hb hby at_56) rfl ((if0 _ _).trans (teq hc11).1) (by decide) (by decide) ?_
      show own_S p e below T4 m 65 #[own_lv p1, .second, iv q1, own_lv p2, .second, iv q2, iv fl, rv a2, rv a4, iv no1, iv no2, iv sec, .unset, .unset, .unset, .unset, .unset, .unset, .unset, .unset, .unset, .unset, .unset, .unset, .unset, .unset, .unset, .unset, .unset, .unset, .unset, .unset, .unset, .unset, .unset, .unset, .unset, .unset, .unset, .unset, .unset, .unset] [] _
      refine XS.lloadN X4.here hx rfl (hb hby at_65) rfl ?_
      show own_S p e below T4 m 66 #[own_lv p1, .second, iv q1, own_lv p2, .second, iv q2, iv fl, rv a2, rv a4, iv no1, iv no2, iv sec, .unset, .unset, .unset, .unset, .unset, .unset, .unset, .unset, .unset, .unset, .unset, .unset, .unset, .unset, .unset, .unset, .unset, .unset, .unset, .unset, .unset, .unset, .unset, .unset, .unset, .unset, .unset, .unset, .unset, .unset] [(.long p1)] _
      refine X4.ldc2Long hx hown (mvT hZ (hw _ (List.mem_of_getElem? (i := 1) rfl))) (g := (mkF m 66 #[own_lv p1, .second, iv q1, own_lv p2, .second, iv q2, iv fl, rv a2, rv a4, iv no1, iv no2, iv sec, .unset, .unset, .unset, .unset, .unset, .unset, .unset, .unset, .unset, .unset, .unset, .unset, .unset, .unset, .unset, .unset, .unset, .unset, .unset, .unset, .unset, .unset, .unset, .unset, .unset, .unset, .unset, .unset, .unset, .unset] [(.long p1)])) rfl (hb hby at_66) _ ?_
      show own_S p e below T4 m 69 #[own_lv p1, .second, iv q1, own_lv p2, .second, iv q2, iv fl, rv a2, rv a4, iv no1, iv no2, iv sec, .unset, .unset, .unset, .unset, .unset, .unset, .unset, .unset, .unset, .unset, .unset, .unset, .unset, .unset, .unset, .unset, .unset, .unset, .unset, .unset, .unset, .unset, .unset, .unset, .unset, .unset, .unset, .unset, .unset, .unset] [(.long (9223372036854775807 : Int64)), (.long p1)] _
      refine XS.land X4.here hx rfl (hb hby at_69) rfl ?_
      show own_S p e below T4 m 70 #[own_lv p1, .second, iv q1, own_lv p2, .second, iv q2, iv fl, rv a2, rv a4, iv no1, iv no2, iv sec, .unset, .unset, .unset, .unset, .unset, .unset, .unset, .unset, .unset, .unset, .unset, .unset, .unset, .unset, .unset, .unset, .unset, .unset, .unset, .unset, .unset, .unset, .unset, .unset, .unset, .unset, .unset, .unset, .unset, .unset] [(.long (p1 &&& (9223372036854775807 : Int64)))] _
      rw [show im1 = (p1 &&& (9223372036854775807 : Int64)) from by rw [him1, if_pos hc11]] at kt
      exact kt
    · refine XS.ifNo X4.here hx rfl (hb hby at_56) rfl ((if0 _ _).trans (feq hc11).1) ?_
      show own_S p e below T4 m 59 #[own_lv p1, .second, iv q1, own_lv p2, .second, iv q2, iv fl, rv a2, rv a4, iv no1, iv no2, iv sec, .unset, .unset, .unset, .unset, .unset, .unset, .unset, .unset, .unset, .unset, .unset, .unset, .unset, .unset, .unset, .unset, .unset, .unset, .unset, .unset, .unset, .unset, .unset, .unset, .unset, .unset, .unset, .unset, .unset, .unset] [] _
      refine X4.ldc2Long hx hown (mvT hZ (hw _ (List.mem_of_getElem? (i := 2) rfl))) (g := (mkF m 59 #[own_lv p1, .second, iv q1, own_lv p2, .second, iv q2, iv fl, rv a2, rv a4, iv no1, iv no2, iv sec, .unset, .unset, .unset, .unset, .unset, .unset, .unset, .unset, .unset, .unset, .unset, .unset, .unset, .unset, .unset, .unset, .unset, .unset, .unset, .unset, .unset, .unset, .unset, .unset, .unset, .unset, .unset, .unset, .unset, .unset] [])) rfl (hb hby at_59) _ ?_
      show own_S p e below T4 m 62 #[own_lv p1, .second, iv q1, own_lv p2, .second, iv q2, iv fl, rv a2, rv a4, iv no1, iv no2, iv sec, .unset, .unset, .unset, .unset, .unset, .unset, .unset, .unset, .unset, .unset, .unset, .unset, .unset, .unset, .unset, .unset, .unset, .unset, .unset, .unset, .unset, .unset, .unset, .unset, .unset, .unset, .unset, .unset, .unset, .unset] [(.long (-1 : Int64))] _
      refine XS.goto X4.here hx rfl (pc0 := 62) (pc' := 70) rfl (hb hby at_62) (by decide) (by decide) ?_
      show own_S p e below T4 m 70 #[own_lv p1, .second, iv q1, own_lv p2, .second, iv q2, iv fl, rv a2, rv a4, iv no1, iv no2, iv sec, .unset, .unset, .unset, .unset, .unset, .unset, .unset, .unset, .unset, .unset, .unset, .unset, .unset, .unset, .unset, .unset, .unset, .unset, .unset, .unset, .unset, .unset, .unset, .unset, .unset, .unset, .unset, .unset, .unset, .unset] [(.long (-1 : Int64))] _
      rw [show im1 = (-1 : Int64) from by rw [him1, if_neg hc11]] at kt
      exact kt
  refine own_st sg12 ?_
  obtain ⟨im2, him2⟩ : ∃ z : Int64, z = (if no2 = (0 : Int32) then (p2 &&& (9223372036854775807 : Int64)) else (-1 : Int64)) := ⟨_, rfl⟩
  have sg14 : own_V p e below T4 (mkF m 88 #[own_lv p1, .second, iv q1, own_lv p2, .second, iv q2, iv fl, rv a2, rv a4, iv no1, iv no2, iv sec, own_lv im1, .second, .unset, .unset, .unset, .unset, .unset, .unset, .unset, .unset, .unset, .unset, .unset, .unset, .unset, .unset, .unset, .unset, .unset, .unset, .unset, .unset, .unset, .unset, .unset, .unset, .unset, .unset, .unset, .unset] [(.long im2)]) (mkF m 70 #[own_lv p1, .second, iv q1, own_lv p2, .second, iv q2, iv fl, rv a2, rv a4, iv no1, iv no2, iv sec, .unset, .unset, .unset, .unset, .unset, .unset, .unset, .unset, .unset, .unset, .unset, .unset, .unset, .unset, .unset, .unset, .unset, .unset, .unset, .unset, .unset, .unset, .unset, .unset, .unset, .unset, .unset, .unset, .unset, .unset] [(.long im1)]) := by
    intro t kt
    refine XS.lstore X4.here hx rfl (hb hby at_70) rfl (l' := #[own_lv p1, .second, iv q1, own_lv p2, .second, iv q2, iv fl, rv a2, rv a4, iv no1, iv no2, iv sec, own_lv im1, .second, .unset, .unset, .unset, .unset, .unset, .unset, .unset, .unset, .unset, .unset, .unset, .unset, .unset, .unset, .unset, .unset, .unset, .unset, .unset, .unset, .unset, .unset, .unset, .unset, .unset, .unset, .unset, .unset]) rfl ?_
    show own_S p e below T4 m 72 #[own_lv p1, .second, iv q1, own_lv p2, .second, iv q2, iv fl, rv a2, rv a4, iv no1, iv no2, iv sec, own_lv im1, .second, .unset, .unset, .unset, .unset, .unset, .unset, .unset, .unset, .unset, .unset, .unset, .unset, .unset, .unset, .unset, .unset, .unset, .unset, .unset, .unset, .unset, .unset, .unset, .unset, .unset, .unset, .unset, .unset] [] _
    refine XS.iload X4.here hx rfl (hb hby at_72) rfl ?_
    show own_S p e below T4 m 74 #[own_lv p1, .second, iv q1, own_lv p2, .second, iv q2, iv fl, rv a2, rv a4, iv no1, iv no2, iv sec, own_lv im1, .second, .unset, .unset, .unset, .unset, .unset, .unset, .unset, .unset, .unset, .unset, .unset, .unset, .unset, .unset, .unset, .unset, .unset, .unset, .unset, .unset, .unset, .unset, .unset, .unset, .unset, .unset, .unset, .unset] [(.int no2)] _
    by_cases hc13 : no2 = (0 : Int32)
    · refine XS.ifYes X4.here hx rfl (pc0 := 74) (pc' := 83) rfl (hb hby at_74) rfl ((if0 _ _).trans (teq hc13).1) (by decide) (by decide) ?_
      show own_S p e below T4 m 83 #[own_lv p1, .second, iv q1, own_lv p2, .second, iv q2, iv fl, rv a2, rv a4, iv no1, iv no2, iv sec, own_lv im1, .second, .unset, .unset, .unset, .unset, .unset, .unset, .unset, .unset, .unset, .unset, .unset, .unset, .unset, .unset, .unset, .unset, .unset, .unset, .unset, .unset, .unset, .unset, .unset, .unset, .unset, .unset, .unset, .unset] [] _
      refine XS.lloadN X4.here hx rfl (hb hby at_83) rfl ?_
      show own_S p e below T4 m 84 #[own_lv p1, .second, iv q1, own_lv p2, .second, iv q2, iv fl, rv a2, rv a4, iv no1, iv no2, iv sec, own_lv im1, .second, .unset, .unset, .unset, .unset, .unset, .unset, .unset, .unset, .unset, .unset, .unset, .unset, .unset, .unset, .unset, .unset, .unset, .unset, .unset, .unset, .unset, .unset, .unset, .unset, .unset, .unset, .unset, .unset] [(.long p2)] _
      refine X4.ldc2Long hx hown (mvT hZ (hw _ (List.mem_of_getElem? (i := 1) rfl))) (g := (mkF m 84 #[own_lv p1, .second, iv q1, own_lv p2, .second, iv q2, iv fl, rv a2, rv a4, iv no1, iv no2, iv sec, own_lv im1, .second, .unset, .unset, .unset, .unset, .unset, .unset, .unset, .unset, .unset, .unset, .unset, .unset, .unset, .unset, .unset, .unset, .unset, .unset, .unset, .unset, .unset, .unset, .unset, .unset, .unset, .unset, .unset, .unset] [(.long p2)])) rfl (hb hby at_84) _ ?_
      show own_S p e below T4 m 87 #[own_lv p1, .second, iv q1, own_lv p2, .second, iv q2, iv fl, rv a2, rv a4, iv no1, iv no2, iv sec, own_lv im1, .second, .unset, .unset, .unset, .unset, .unset, .unset, .unset, .unset, .unset, .unset, .unset, .unset, .unset, .unset, .unset, .unset, .unset, .unset, .unset, .unset, .unset, .unset, .unset, .unset, .unset, .unset, .unset, .unset] [(.long (9223372036854775807 : Int64)), (.long p2)] _
      refine XS.land X4.here hx rfl (hb hby at_87) rfl ?_
      show own_S p e below T4 m 88 #[own_lv p1, .second, iv q1, own_lv p2, .second, iv q2, iv fl, rv a2, rv a4, iv no1, iv no2, iv sec, own_lv im1, .second, .unset, .unset, .unset, .unset, .unset, .unset, .unset, .unset, .unset, .unset, .unset, .unset, .unset, .unset, .unset, .unset, .unset, .unset, .unset, .unset, .unset, .unset, .unset, .unset, .unset, .unset, .unset, .unset] [(.long (p2 &&& (9223372036854775807 : Int64)))] _
      rw [show im2 = (p2 &&& (9223372036854775807 : Int64)) from by rw [him2, if_pos hc13]] at kt
      exact kt
    · refine XS.ifNo X4.here hx rfl (hb hby at_74) rfl ((if0 _ _).trans (feq hc13).1) ?_
      show own_S p e below T4 m 77 #[own_lv p1, .second, iv q1, own_lv p2, .second, iv q2, iv fl, rv a2, rv a4, iv no1, iv no2, iv sec, own_lv im1, .second, .unset, .unset, .unset, .unset, .unset, .unset, .unset, .unset, .unset, .unset, .unset, .unset, .unset, .unset, .unset, .unset, .unset, .unset, .unset, .unset, .unset, .unset, .unset, .unset, .unset, .unset, .unset, .unset] [] _
      refine X4.ldc2Long hx hown (mvT hZ (hw _ (List.mem_of_getElem? (i := 2) rfl))) (g := (mkF m 77 #[own_lv p1, .second, iv q1, own_lv p2, .second, iv q2, iv fl, rv a2, rv a4, iv no1, iv no2, iv sec, own_lv im1, .second, .unset, .unset, .unset, .unset, .unset, .unset, .unset, .unset, .unset, .unset, .unset, .unset, .unset, .unset, .unset, .unset, .unset, .unset, .unset, .unset, .unset, .unset, .unset, .unset, .unset, .unset, .unset, .unset] [])) rfl (hb hby at_77) _ ?_
      show own_S p e below T4 m 80 #[own_lv p1, .second, iv q1, own_lv p2, .second, iv q2, iv fl, rv a2, rv a4, iv no1, iv no2, iv sec, own_lv im1, .second, .unset, .unset, .unset, .unset, .unset, .unset, .unset, .unset, .unset, .unset, .unset, .unset, .unset, .unset, .unset, .unset, .unset, .unset, .unset, .unset, .unset, .unset, .unset, .unset, .unset, .unset, .unset, .unset] [(.long (-1 : Int64))] _
      refine XS.goto X4.here hx rfl (pc0 := 80) (pc' := 88) rfl (hb hby at_80) (by decide) (by decide) ?_
      show own_S p e below T4 m 88 #[own_lv p1, .second, iv q1, own_lv p2, .second, iv q2, iv fl, rv a2, rv a4, iv no1, iv no2, iv sec, own_lv im1, .second, .unset, .unset, .unset, .unset, .unset, .unset, .unset, .unset, .unset, .unset, .unset, .unset, .unset, .unset, .unset, .unset, .unset, .unset, .unset, .unset, .unset, .unset, .unset, .unset, .unset, .unset, .unset, .unset] [(.long (-1 : Int64))] _
      rw [show im2 = (-1 : Int64) from by rw [him2, if_neg hc13]] at kt
      exact kt
  refine own_st sg14 ?_
  obtain ⟨y1, hy1⟩ : ∃ z : Int32, z = (q1 &&& (2147483647 : Int32)) := ⟨_, rfl⟩
  have sg15 : own_V p e below T4 (mkF m 95 #[own_lv p1, .second, iv q1, own_lv p2, .second, iv q2, iv fl, rv a2, rv a4, iv no1, iv no2, iv sec, own_lv im1, .second, own_lv im2, .second, .unset, .unset, .unset, .unset, .unset, .unset, .unset, .unset, .unset, .unset, .unset, .unset, .unset, .unset, .unset, .unset, .unset, .unset, .unset, .unset, .unset, .unset, .unset, .unset, .unset, .unset] [(.int y1), (.int (1 : Int32))]) (mkF m 88 #[own_lv p1, .second, iv q1, own_lv p2, .second, iv q2, iv fl, rv a2, rv a4, iv no1, iv no2, iv sec, own_lv im1, .second, .unset, .unset, .unset, .unset, .unset, .unset, .unset, .unset, .unset, .unset, .unset, .unset, .unset, .unset, .unset, .unset, .unset, .unset, .unset, .unset, .unset, .unset, .unset, .unset, .unset, .unset, .unset, .unset] [(.long im2)]) := by
    intro t kt
    refine XS.lstore X4.here hx rfl (hb hby at_88) rfl (l' := #[own_lv p1, .second, iv q1, own_lv p2, .second, iv q2, iv fl, rv a2, rv a4, iv no1, iv no2, iv sec, own_lv im1, .second, own_lv im2, .second, .unset, .unset, .unset, .unset, .unset, .unset, .unset, .unset, .unset, .unset, .unset, .unset, .unset, .unset, .unset, .unset, .unset, .unset, .unset, .unset, .unset, .unset, .unset, .unset, .unset, .unset]) rfl ?_
    show own_S p e below T4 m 90 #[own_lv p1, .second, iv q1, own_lv p2, .second, iv q2, iv fl, rv a2, rv a4, iv no1, iv no2, iv sec, own_lv im1, .second, own_lv im2, .second, .unset, .unset, .unset, .unset, .unset, .unset, .unset, .unset, .unset, .unset, .unset, .unset, .unset, .unset, .unset, .unset, .unset, .unset, .unset, .unset, .unset, .unset, .unset, .unset, .unset, .unset] [] _
    refine XS.iconst X4.here hx rfl (hb hby at_90) ?_
    show own_S p e below T4 m 91 #[own_lv p1, .second, iv q1, own_lv p2, .second, iv q2, iv fl, rv a2, rv a4, iv no1, iv no2, iv sec, own_lv im1, .second, own_lv im2, .second, .unset, .unset, .unset, .unset, .unset, .unset, .unset, .unset, .unset, .unset, .unset, .unset, .unset, .unset, .unset, .unset, .unset, .unset, .unset, .unset, .unset, .unset, .unset, .unset, .unset, .unset] [(.int (1 : Int32))] _
    refine XS.iloadN X4.here hx rfl (hb hby at_91) rfl ?_
    show own_S p e below T4 m 92 #[own_lv p1, .second, iv q1, own_lv p2, .second, iv q2, iv fl, rv a2, rv a4, iv no1, iv no2, iv sec, own_lv im1, .second, own_lv im2, .second, .unset, .unset, .unset, .unset, .unset, .unset, .unset, .unset, .unset, .unset, .unset, .unset, .unset, .unset, .unset, .unset, .unset, .unset, .unset, .unset, .unset, .unset, .unset, .unset, .unset, .unset] [(.int q1), (.int (1 : Int32))] _
    refine X4.ldcInt hx hown (mvT hZ (hw _ (List.mem_of_getElem? (i := 3) rfl))) (g := (mkF m 92 #[own_lv p1, .second, iv q1, own_lv p2, .second, iv q2, iv fl, rv a2, rv a4, iv no1, iv no2, iv sec, own_lv im1, .second, own_lv im2, .second, .unset, .unset, .unset, .unset, .unset, .unset, .unset, .unset, .unset, .unset, .unset, .unset, .unset, .unset, .unset, .unset, .unset, .unset, .unset, .unset, .unset, .unset, .unset, .unset, .unset, .unset] [(.int q1), (.int (1 : Int32))])) rfl (hb hby at_92) _ ?_
    show own_S p e below T4 m 94 #[own_lv p1, .second, iv q1, own_lv p2, .second, iv q2, iv fl, rv a2, rv a4, iv no1, iv no2, iv sec, own_lv im1, .second, own_lv im2, .second, .unset, .unset, .unset, .unset, .unset, .unset, .unset, .unset, .unset, .unset, .unset, .unset, .unset, .unset, .unset, .unset, .unset, .unset, .unset, .unset, .unset, .unset, .unset, .unset, .unset, .unset] [(.int (2147483647 : Int32)), (.int q1), (.int (1 : Int32))] _
    refine XS.iand X4.here hx rfl (hb hby at_94) rfl ?_
    show own_S p e below T4 m 95 #[own_lv p1, .second, iv q1, own_lv p2, .second, iv q2, iv fl, rv a2, rv a4, iv no1, iv no2, iv sec, own_lv im1, .second, own_lv im2, .second, .unset, .unset, .unset, .unset, .unset, .unset, .unset, .unset, .unset, .unset, .unset, .unset, .unset, .unset, .unset, .unset, .unset, .unset, .unset, .unset, .unset, .unset, .unset, .unset, .unset, .unset] [(.int (q1 &&& (2147483647 : Int32))), (.int (1 : Int32))] _
    rw [hy1] at kt
    exact kt
  refine own_st sg15 ?_
  obtain ⟨_, T16, L16, X16, hQ16, st16⟩ := own_callS (y := (⟨"java/lang/Math", "max", "(II)I"⟩ : MethodName)) X4 hx hZ hown (hw _ (List.mem_of_getElem? (i := 4) rfl)) (hw _ (List.mem_of_getElem? (i := 5) rfl)) (hw _ (List.mem_of_getElem? (i := 6) rfl)) (hw _ (List.mem_of_getElem? (i := 7) rfl)) (by decide) (own_rmmax l Z a0 hw (1 : Int32) y1 h4 n0 Z4) e4 (g := (mkF m 95 #[own_lv p1, .second, iv q1, own_lv p2, .second, iv q2, iv fl, rv a2, rv a4, iv no1, iv no2, iv sec, own_lv im1, .second, own_lv im2, .second, .unset, .unset, .unset, .unset, .unset, .unset, .unset, .unset, .unset, .unset, .unset, .unset, .unset, .unset, .unset, .unset, .unset, .unset, .unset, .unset, .unset, .unset, .unset, .unset, .unset, .unset] [(.int y1), (.int (1 : Int32))])) rfl (by rw [hml]; rfl) (argsL := [(.int (1 : Int32)), (.int y1)]) (rest := []) (lenOf own_pd2 rfl) rfl (W := 0) (by show 2 * 0 + _ ≤ _; exact Nat.le_of_eq rfl) (hb hby at_95) (by decide) (by decide) (by decide) (by decide)
  obtain ⟨rfl, Nq16, e16⟩ := hQ16
  refine own_st st16 ?_
  have N16 := Fr.app N0 Nq16
  show own_Go p e below _ T16 (mkF m 98 #[own_lv p1, .second, iv q1, own_lv p2, .second, iv q2, iv fl, rv a2, rv a4, iv no1, iv no2, iv sec, own_lv im1, .second, own_lv im2, .second, .unset, .unset, .unset, .unset, .unset, .unset, .unset, .unset, .unset, .unset, .unset, .unset, .unset, .unset, .unset, .unset, .unset, .unset, .unset, .unset, .unset, .unset, .unset, .unset, .unset, .unset] [(.int (own_max (1 : Int32) y1))])
  obtain ⟨ti1, hti1⟩ : ∃ z : Int32, z = (own_max (1 : Int32) y1) := ⟨_, rfl⟩
  obtain ⟨y2, hy2⟩ : ∃ z : Int32, z = (q2 &&& (2147483647 : Int32)) := ⟨_, rfl⟩
  have sg17 : own_V p e below T16 (mkF m 106 #[own_lv p1, .second, iv q1, own_lv p2, .second, iv q2, iv fl, rv a2, rv a4, iv no1, iv no2, iv sec, own_lv im1, .second, own_lv im2, .second, iv ti1, .unset, .unset, .unset, .unset, .unset, .unset, .unset, .unset, .unset, .unset, .unset, .unset, .unset, .unset, .unset, .unset, .unset, .unset, .unset, .unset, .unset, .unset, .unset, .unset, .unset] [(.int y2), (.int (1 : Int32))]) (mkF m 98 #[own_lv p1, .second, iv q1, own_lv p2, .second, iv q2, iv fl, rv a2, rv a4, iv no1, iv no2, iv sec, own_lv im1, .second, own_lv im2, .second, .unset, .unset, .unset, .unset, .unset, .unset, .unset, .unset, .unset, .unset, .unset, .unset, .unset, .unset, .unset, .unset, .unset, .unset, .unset, .unset, .unset, .unset, .unset, .unset, .unset, .unset] [(.int (own_max (1 : Int32) y1))]) := by
    intro t kt
    refine XS.istore X16.here hx rfl (hb hby at_98) rfl (l' := #[own_lv p1, .second, iv q1, own_lv p2, .second, iv q2, iv fl, rv a2, rv a4, iv no1, iv no2, iv sec, own_lv im1, .second, own_lv im2, .second, iv (own_max (1 : Int32) y1), .unset, .unset, .unset, .unset, .unset, .unset, .unset, .unset, .unset, .unset, .unset, .unset, .unset, .unset, .unset, .unset, .unset, .unset, .unset, .unset, .unset, .unset, .unset, .unset, .unset]) rfl ?_
    show own_S p e below T16 m 100 #[own_lv p1, .second, iv q1, own_lv p2, .second, iv q2, iv fl, rv a2, rv a4, iv no1, iv no2, iv sec, own_lv im1, .second, own_lv im2, .second, iv (own_max (1 : Int32) y1), .unset, .unset, .unset, .unset, .unset, .unset, .unset, .unset, .unset, .unset, .unset, .unset, .unset, .unset, .unset, .unset, .unset, .unset, .unset, .unset, .unset, .unset, .unset, .unset, .unset] [] _
    refine XS.iconst X16.here hx rfl (hb hby at_100) ?_
    show own_S p e below T16 m 101 #[own_lv p1, .second, iv q1, own_lv p2, .second, iv q2, iv fl, rv a2, rv a4, iv no1, iv no2, iv sec, own_lv im1, .second, own_lv im2, .second, iv (own_max (1 : Int32) y1), .unset, .unset, .unset, .unset, .unset, .unset, .unset, .unset, .unset, .unset, .unset, .unset, .unset, .unset, .unset, .unset, .unset, .unset, .unset, .unset, .unset, .unset, .unset, .unset, .unset] [(.int (1 : Int32))] _
    refine XS.iload X16.here hx rfl (hb hby at_101) rfl ?_
    show own_S p e below T16 m 103 #[own_lv p1, .second, iv q1, own_lv p2, .second, iv q2, iv fl, rv a2, rv a4, iv no1, iv no2, iv sec, own_lv im1, .second, own_lv im2, .second, iv (own_max (1 : Int32) y1), .unset, .unset, .unset, .unset, .unset, .unset, .unset, .unset, .unset, .unset, .unset, .unset, .unset, .unset, .unset, .unset, .unset, .unset, .unset, .unset, .unset, .unset, .unset, .unset, .unset] [(.int q2), (.int (1 : Int32))] _
    refine X16.ldcInt hx hown (mvT hZ (hw _ (List.mem_of_getElem? (i := 3) rfl))) (g := (mkF m 103 #[own_lv p1, .second, iv q1, own_lv p2, .second, iv q2, iv fl, rv a2, rv a4, iv no1, iv no2, iv sec, own_lv im1, .second, own_lv im2, .second, iv (own_max (1 : Int32) y1), .unset, .unset, .unset, .unset, .unset, .unset, .unset, .unset, .unset, .unset, .unset, .unset, .unset, .unset, .unset, .unset, .unset, .unset, .unset, .unset, .unset, .unset, .unset, .unset, .unset] [(.int q2), (.int (1 : Int32))])) rfl (hb hby at_103) _ ?_
    show own_S p e below T16 m 105 #[own_lv p1, .second, iv q1, own_lv p2, .second, iv q2, iv fl, rv a2, rv a4, iv no1, iv no2, iv sec, own_lv im1, .second, own_lv im2, .second, iv (own_max (1 : Int32) y1), .unset, .unset, .unset, .unset, .unset, .unset, .unset, .unset, .unset, .unset, .unset, .unset, .unset, .unset, .unset, .unset, .unset, .unset, .unset, .unset, .unset, .unset, .unset, .unset, .unset] [(.int (2147483647 : Int32)), (.int q2), (.int (1 : Int32))] _
    refine XS.iand X16.here hx rfl (hb hby at_105) rfl ?_
    show own_S p e below T16 m 106 #[own_lv p1, .second, iv q1, own_lv p2, .second, iv q2, iv fl, rv a2, rv a4, iv no1, iv no2, iv sec, own_lv im1, .second, own_lv im2, .second, iv (own_max (1 : Int32) y1), .unset, .unset, .unset, .unset, .unset, .unset, .unset, .unset, .unset, .unset, .unset, .unset, .unset, .unset, .unset, .unset, .unset, .unset, .unset, .unset, .unset, .unset, .unset, .unset, .unset] [(.int (q2 &&& (2147483647 : Int32))), (.int (1 : Int32))] _
    rw [hti1] at kt
    rw [hy2] at kt
    exact kt
  refine own_st sg17 ?_
  obtain ⟨_, T18, L18, X18, hQ18, st18⟩ := own_callS (y := (⟨"java/lang/Math", "max", "(II)I"⟩ : MethodName)) X16 hx hZ hown (hw _ (List.mem_of_getElem? (i := 4) rfl)) (hw _ (List.mem_of_getElem? (i := 5) rfl)) (hw _ (List.mem_of_getElem? (i := 6) rfl)) (hw _ (List.mem_of_getElem? (i := 7) rfl)) (by decide) (own_rmmax l Z a0 hw (1 : Int32) y2 h4 n0 Z4) e16 (g := (mkF m 106 #[own_lv p1, .second, iv q1, own_lv p2, .second, iv q2, iv fl, rv a2, rv a4, iv no1, iv no2, iv sec, own_lv im1, .second, own_lv im2, .second, iv ti1, .unset, .unset, .unset, .unset, .unset, .unset, .unset, .unset, .unset, .unset, .unset, .unset, .unset, .unset, .unset, .unset, .unset, .unset, .unset, .unset, .unset, .unset, .unset, .unset, .unset] [(.int y2), (.int (1 : Int32))])) rfl (by rw [hml]; rfl) (argsL := [(.int (1 : Int32)), (.int y2)]) (rest := []) (lenOf own_pd2 rfl) rfl (W := 0) (by show 2 * 0 + _ ≤ _; exact Nat.le_of_eq rfl) (hb hby at_106) (by decide) (by decide) (by decide) (by decide)
  obtain ⟨rfl, Nq18, e18⟩ := hQ18
  refine own_st st18 ?_
  have N18 := Fr.app N16 Nq18
  show own_Go p e below _ T18 (mkF m 109 #[own_lv p1, .second, iv q1, own_lv p2, .second, iv q2, iv fl, rv a2, rv a4, iv no1, iv no2, iv sec, own_lv im1, .second, own_lv im2, .second, iv ti1, .unset, .unset, .unset, .unset, .unset, .unset, .unset, .unset, .unset, .unset, .unset, .unset, .unset, .unset, .unset, .unset, .unset, .unset, .unset, .unset, .unset, .unset, .unset, .unset, .unset] [(.int (own_max (1 : Int32) y2))])
  obtain ⟨ti2, hti2⟩ : ∃ z : Int32, z = (own_max (1 : Int32) y2) := ⟨_, rfl⟩
  have sg19 : own_V p e below T18 (mkF m 111 #[own_lv p1, .second, iv q1, own_lv p2, .second, iv q2, iv fl, rv a2, rv a4, iv no1, iv no2, iv sec, own_lv im1, .second, own_lv im2, .second, iv ti1, iv ti2, .unset, .unset, .unset, .unset, .unset, .unset, .unset, .unset, .unset, .unset, .unset, .unset, .unset, .unset, .unset, .unset, .unset, .unset, .unset, .unset, .unset, .unset, .unset, .unset] []) (mkF m 109 #[own_lv p1, .second, iv q1, own_lv p2, .second, iv q2, iv fl, rv a2, rv a4, iv no1, iv no2, iv sec, own_lv im1, .second, own_lv im2, .second, iv ti1, .unset, .unset, .unset, .unset, .unset, .unset, .unset, .unset, .unset, .unset, .unset, .unset, .unset, .unset, .unset, .unset, .unset, .unset, .unset, .unset, .unset, .unset, .unset, .unset, .unset] [(.int (own_max (1 : Int32) y2))]) := by
    intro t kt
    refine XS.istore X18.here hx rfl (hb hby at_109) rfl (l' := #[own_lv p1, .second, iv q1, own_lv p2, .second, iv q2, iv fl, rv a2, rv a4, iv no1, iv no2, iv sec, own_lv im1, .second, own_lv im2, .second, iv ti1, iv (own_max (1 : Int32) y2), .unset, .unset, .unset, .unset, .unset, .unset, .unset, .unset, .unset, .unset, .unset, .unset, .unset, .unset, .unset, .unset, .unset, .unset, .unset, .unset, .unset, .unset, .unset, .unset]) rfl ?_
    show own_S p e below T18 m 111 #[own_lv p1, .second, iv q1, own_lv p2, .second, iv q2, iv fl, rv a2, rv a4, iv no1, iv no2, iv sec, own_lv im1, .second, own_lv im2, .second, iv ti1, iv (own_max (1 : Int32) y2), .unset, .unset, .unset, .unset, .unset, .unset, .unset, .unset, .unset, .unset, .unset, .unset, .unset, .unset, .unset, .unset, .unset, .unset, .unset, .unset, .unset, .unset, .unset, .unset] [] _
    rw [hti2] at kt
    exact kt
  refine own_st sg19 ?_
  obtain ⟨T20, h20, X20, e20, E20, A20, D20, -, st20⟩ := newO X18 hx hZ hown (hw _ (List.mem_of_getElem? (i := 8) rfl)) (hw _ (List.mem_of_getElem? (i := 9) rfl)) (hw _ (List.mem_of_getElem? (i := 10) rfl)) e18 (g := (mkF m 111 #[own_lv p1, .second, iv q1, own_lv p2, .second, iv q2, iv fl, rv a2, rv a4, iv no1, iv no2, iv sec, own_lv im1, .second, own_lv im2, .second, iv ti1, iv ti2, .unset, .unset, .unset, .unset, .unset, .unset, .unset, .unset, .unset, .unset, .unset, .unset, .unset, .unset, .unset, .unset, .unset, .unset, .unset, .unset, .unset, .unset, .unset, .unset] [])) rfl (hb hby at_111) (by decide) (by decide)
  obtain ⟨a20, g20⟩ : ∃ z, z = h4.size := ⟨_, rfl⟩
  rw [← g20] at A20 D20 st20
  refine own_st st20 ?_
  have g_a20 : n0 ≤ a20 := by rw [g20]; exact Z4
  have Z20 : n0 ≤ h20.size := Nat.le_trans Z4 E20.1
  show own_Go p e below _ T20 (mkF m 114 #[own_lv p1, .second, iv q1, own_lv p2, .second, iv q2, iv fl, rv a2, rv a4, iv no1, iv no2, iv sec, own_lv im1, .second, own_lv im2, .second, iv ti1, iv ti2, .unset, .unset, .unset, .unset, .unset, .unset, .unset, .unset, .unset, .unset, .unset, .unset, .unset, .unset, .unset, .unset, .unset, .unset, .unset, .unset, .unset, .unset, .unset, .unset] [(.ref a20)])
  have Fimageless : Fld Z h20 a20 "com/example/coverfold/coverfold/Figures$Sum" "imageless" "J" (.long (0 : Int64)) := D20 (Or.inl (hw _ (List.mem_of_getElem? (i := 30) rfl))) (ty := .long) (by decide)
  have Fmillionths : Fld Z h20 a20 "com/example/coverfold/coverfold/Figures$Sum" "millionths" "J" (.long (0 : Int64)) := D20 (Or.inl (hw _ (List.mem_of_getElem? (i := 23) rfl))) (ty := .long) (by decide)
  have Fplaces : Fld Z h20 a20 "com/example/coverfold/coverfold/Figures$Sum" "places" "J" (.long (0 : Int64)) := D20 (Or.inl (hw _ (List.mem_of_getElem? (i := 25) rfl))) (ty := .long) (by decide)
  have Fterms : Fld Z h20 a20 "com/example/coverfold/coverfold/Figures$Sum" "terms" "J" (.long (0 : Int64)) := D20 (Or.inl (hw _ (List.mem_of_getElem? (i := 28) rfl))) (ty := .long) (by decide)
  have S0 : own_Sum Z h20 a20 0 0 0 0 := ⟨A20, Fimageless, Fmillionths, Fplaces, Fterms⟩
  have C1 := B2x.ext E20
  have C2 := B4.ext E20
  have ne1s : a2 ≠ a20 := Nat.ne_of_lt (by rw [g20]; exact B2x.lt)
  have ne2s : a4 ≠ a20 := Nat.ne_of_lt (by rw [g20]; exact B4.lt)
  have sg21 : own_V p e below T20 (mkF m 115 #[own_lv p1, .second, iv q1, own_lv p2, .second, iv q2, iv fl, rv a2, rv a4, iv no1, iv no2, iv sec, own_lv im1, .second, own_lv im2, .second, iv ti1, iv ti2, .unset, .unset, .unset, .unset, .unset, .unset, .unset, .unset, .unset, .unset, .unset, .unset, .unset, .unset, .unset, .unset, .unset, .unset, .unset, .unset, .unset, .unset, .unset, .unset] [(.ref a20), (.ref a20)]) (mkF m 114 #[own_lv p1, .second, iv q1, own_lv p2, .second, iv q2, iv fl, rv a2, rv a4, iv no1, iv no2, iv sec, own_lv im1, .second, own_lv im2, .second, iv ti1, iv ti2, .unset, .unset, .unset, .unset, .unset, .unset, .unset, .unset, .unset, .unset, .unset, .unset, .unset, .unset, .unset, .unset, .unset, .unset, .unset, .unset, .unset, .unset, .unset, .unset] [(.ref a20)]) := by
    intro t kt
    refine XS.dup X20.here hx rfl (hb hby at_114) rfl rfl ?_
    show own_S p e below T20 m 115 #[own_lv p1, .second, iv q1, own_lv p2, .second, iv q2, iv fl, rv a2, rv a4, iv no1, iv no2, iv sec, own_lv im1, .second, own_lv im2, .second, iv ti1, iv ti2, .unset, .unset, .unset, .unset, .unset, .unset, .unset, .unset, .unset, .unset, .unset, .unset, .unset, .unset, .unset, .unset, .unset, .unset, .unset, .unset, .unset, .unset, .unset, .unset] [(.ref a20), (.ref a20)] _
    exact kt
  refine own_st sg21 ?_
  obtain ⟨_, T22, L22, X22, hQ22, st22⟩ := own_callI (y := (⟨"com/example/coverfold/coverfold/Figures$Sum", "<init>", "()V"⟩ : MethodName)) (a := a20) X20 hx hZ hown rfl (hw _ (List.mem_of_getElem? (i := 11) rfl)) (hw _ (List.mem_of_getElem? (i := 12) rfl)) (hw _ (List.mem_of_getElem? (i := 10) rfl)) (hw _ (List.mem_of_getElem? (i := 13) rfl)) (by decide) (own_rmini l Z a0 hw a20 h20 n0 Z20) e20 (g := (mkF m 115 #[own_lv p1, .second, iv q1, own_lv p2, .second, iv q2, iv fl, rv a2, rv a4, iv no1, iv no2, iv sec, own_lv im1, .second, own_lv im2, .second, iv ti1, iv ti2, .unset, .unset, .unset, .unset, .unset, .unset, .unset, .unset, .unset, .unset, .unset, .unset, .unset, .unset, .unset, .unset, .unset, .unset, .unset, .unset, .unset, .unset, .unset, .unset] [(.ref a20), (.ref a20)])) rfl (by rw [hml]; rfl) (argsL := []) (rest := [(.ref a20)]) (lenOf own_pd3 rfl) rfl (W := 1) (by show 2 * 0 + _ ≤ _; exact Nat.le_of_eq rfl) (hb hby at_115) (by decide) (by decide) (by decide) (by decide)
  obtain ⟨rfl, Nq22, e22⟩ := hQ22
  refine own_st st22 ?_
  have N22 := Fr.app N18 Nq22
  show own_Go p e below _ T22 (mkF m 118 #[own_lv p1, .second, iv q1, own_lv p2, .second, iv q2, iv fl, rv a2, rv a4, iv no1, iv no2, iv sec, own_lv im1, .second, own_lv im2, .second, iv ti1, iv ti2, .unset, .unset, .unset, .unset, .unset, .unset, .unset, .unset, .unset, .unset, .unset, .unset, .unset, .unset, .unset, .unset, .unset, .unset, .unset, .unset, .unset, .unset, .unset, .unset] [(.ref a20)])
  have sg23 : own_V p e below T22 (mkF m 126 #[own_lv p1, .second, iv q1, own_lv p2, .second, iv q2, iv fl, rv a2, rv a4, iv no1, iv no2, iv sec, own_lv im1, .second, own_lv im2, .second, iv ti1, iv ti2, rv a20, .unset, .unset, .unset, .unset, .unset, .unset, .unset, .unset, .unset, .unset, .unset, .unset, .unset, .unset, .unset, .unset, .unset, .unset, .unset, .unset, .unset, .unset, .unset] [(.int ti1), (.long im1), (.ref a20)]) (mkF m 118 #[own_lv p1, .second, iv q1, own_lv p2, .second, iv q2, iv fl, rv a2, rv a4, iv no1, iv no2, iv sec, own_lv im1, .second, own_lv im2, .second, iv ti1, iv ti2, .unset, .unset, .unset, .unset, .unset, .unset, .unset, .unset, .unset, .unset, .unset, .unset, .unset, .unset, .unset, .unset, .unset, .unset, .unset, .unset, .unset, .unset, .unset, .unset] [(.ref a20)]) := by
    intro t kt
    refine XS.astore X22.here hx rfl (hb hby at_118) rfl rfl (l' := #[own_lv p1, .second, iv q1, own_lv p2, .second, iv q2, iv fl, rv a2, rv a4, iv no1, iv no2, iv sec, own_lv im1, .second, own_lv im2, .second, iv ti1, iv ti2, rv a20, .unset, .unset, .unset, .unset, .unset, .unset, .unset, .unset, .unset, .unset, .unset, .unset, .unset, .unset, .unset, .unset, .unset, .unset, .unset, .unset, .unset, .unset, .unset]) rfl ?_
    show own_S p e below T22 m 120 #[own_lv p1, .second, iv q1, own_lv p2, .second, iv q2, iv fl, rv a2, rv a4, iv no1, iv no2, iv sec, own_lv im1, .second, own_lv im2, .second, iv ti1, iv ti2, rv a20, .unset, .unset, .unset, .unset, .unset, .unset, .unset, .unset, .unset, .unset, .unset, .unset, .unset, .unset, .unset, .unset, .unset, .unset, .unset, .unset, .unset, .unset, .unset] [] _
    refine XS.aload X22.here hx rfl (hb hby at_120) rfl rfl ?_
    show own_S p e below T22 m 122 #[own_lv p1, .second, iv q1, own_lv p2, .second, iv q2, iv fl, rv a2, rv a4, iv no1, iv no2, iv sec, own_lv im1, .second, own_lv im2, .second, iv ti1, iv ti2, rv a20, .unset, .unset, .unset, .unset, .unset, .unset, .unset, .unset, .unset, .unset, .unset, .unset, .unset, .unset, .unset, .unset, .unset, .unset, .unset, .unset, .unset, .unset, .unset] [(.ref a20)] _
    refine XS.lload X22.here hx rfl (hb hby at_122) rfl ?_
    show own_S p e below T22 m 124 #[own_lv p1, .second, iv q1, own_lv p2, .second, iv q2, iv fl, rv a2, rv a4, iv no1, iv no2, iv sec, own_lv im1, .second, own_lv im2, .second, iv ti1, iv ti2, rv a20, .unset, .unset, .unset, .unset, .unset, .unset, .unset, .unset, .unset, .unset, .unset, .unset, .unset, .unset, .unset, .unset, .unset, .unset, .unset, .unset, .unset, .unset, .unset] [(.long im1), (.ref a20)] _
    refine XS.iload X22.here hx rfl (hb hby at_124) rfl ?_
    show own_S p e below T22 m 126 #[own_lv p1, .second, iv q1, own_lv p2, .second, iv q2, iv fl, rv a2, rv a4, iv no1, iv no2, iv sec, own_lv im1, .second, own_lv im2, .second, iv ti1, iv ti2, rv a20, .unset, .unset, .unset, .unset, .unset, .unset, .unset, .unset, .unset, .unset, .unset, .unset, .unset, .unset, .unset, .unset, .unset, .unset, .unset, .unset, .unset, .unset, .unset] [(.int ti1), (.long im1), (.ref a20)] _
    exact kt
  refine own_st sg23 ?_
  obtain ⟨_, T24, L24, X24, hQ24, st24⟩ := own_callV (y := (⟨"com/example/coverfold/coverfold/Figures$Sum", "add", "(JI)V"⟩ : MethodName)) (y0 := (⟨"com/example/coverfold/coverfold/Figures$Sum", "add", "(JI)V"⟩ : MethodName)) (a := a20) (C := "com/example/coverfold/coverfold/Figures$Sum") X22 hx hZ hown S0.1 (hw _ (List.mem_of_getElem? (i := 17) rfl)) (hw _ (List.mem_of_getElem? (i := 18) rfl)) (hw _ (List.mem_of_getElem? (i := 20) rfl)) (notFace_of_selects (args := #[]) (mvT hZ (hw _ (List.mem_of_getElem? (i := 20) rfl)))) (hw _ (List.mem_of_getElem? (i := 19) rfl)) (hw _ (List.mem_of_getElem? (i := 10) rfl)) (hw _ (List.mem_of_getElem? (i := 21) rfl)) (by decide) (own_rmadd l Z a0 hw a20 im1 ti1 0 0 0 0 h20 n0 Z20 S0 g_a20) e22 (g := (mkF m 126 #[own_lv p1, .second, iv q1, own_lv p2, .second, iv q2, iv fl, rv a2, rv a4, iv no1, iv no2, iv sec, own_lv im1, .second, own_lv im2, .second, iv ti1, iv ti2, rv a20, .unset, .unset, .unset, .unset, .unset, .unset, .unset, .unset, .unset, .unset, .unset, .unset, .unset, .unset, .unset, .unset, .unset, .unset, .unset, .unset, .unset, .unset, .unset] [(.int ti1), (.long im1), (.ref a20)])) rfl (by rw [hml]; rfl) (argsL := [(.long im1), (.int ti1)]) (rest := []) (lenOf own_pd4 rfl) rfl (W := 0) (by show 2 * 0 + _ ≤ _; exact Nat.le_of_eq rfl) (hb hby at_126) (by decide) (by decide) (by decide) (by decide)
  obtain ⟨rfl, Nq24, K24, S24⟩ := hQ24
  refine own_st st24 ?_
  have Z24 : n0 ≤ T24.heap.size := Nat.le_trans Z20 K24.1
  have N24 := Fr.app N22 Nq24
  show own_Go p e below _ T24 (mkF m 129 #[own_lv p1, .second, iv q1, own_lv p2, .second, iv q2, iv fl, rv a2, rv a4, iv no1, iv no2, iv sec, own_lv im1, .second, own_lv im2, .second, iv ti1, iv ti2, rv a20, .unset, .unset, .unset, .unset, .unset, .unset, .unset, .unset, .unset, .unset, .unset, .unset, .unset, .unset, .unset, .unset, .unset, .unset, .unset, .unset, .unset, .unset, .unset] [])
  have D1 := C1.keep K24 (own_ninS ne1s nin0)
  have D2 := C2.keep K24 (own_ninS ne2s nin0)
  obtain ⟨T25, _, ⟨h25, L25, vi, vm, vp, vt, rfl, X25, e25, N25, Z25, SS, G1, G2, hvi, hvm, hvp, hvt⟩, st25⟩ : own_Pk p e below (fun T' f' => ∃ (h' : Heap) (locs' : List Loc) (vi : Int64) (vm : Int64) (vp : Int64) (vt : Int64), f' = (mkF m 143 #[own_lv p1, .second, iv q1, own_lv p2, .second, iv q2, iv fl, rv a2, rv a4, iv no1, iv no2, iv sec, own_lv im1, .second, own_lv im2, .second, iv ti1, iv ti2, rv a20, .unset, .unset, .unset, .unset, .unset, .unset, .unset, .unset, .unset, .unset, .unset, .unset, .unset, .unset, .unset, .unset, .unset, .unset, .unset, .unset, .unset, .unset, .unset] []) ∧ Stand p l e room_1 s m #[(.long p1), (.int q1), (.long p2), (.int q2), (.int fl)] below meth c T' locs' 3 58 ∧ T'.heap = h' ∧ Fr n0 locs' ∧ n0 ≤ h'.size ∧ (own_Sum Z h' a20 vi vm vp vt ∧ own_AI Z h' a2 .byte 27 (fun _ => 0) ∧ own_AI Z h' a4 .byte 27 (fun _ => 0) ∧ vi = (if sec = (0 : Int32) then (own_addi im1 ti1 0) else (own_addi im2 ti2 (own_addi im1 ti1 0))) ∧ vm = (if sec = (0 : Int32) then (own_addm im1 ti1 0) else (own_addm im2 ti2 (own_addm im1 ti1 0))) ∧ vp = (if sec = (0 : Int32) then (own_addp im1 ti1 0) else (own_addp im2 ti2 (own_addp im1 ti1 0))) ∧ vt = (if sec = (0 : Int32) then (own_addt im1 ti1 0) else (own_addt im2 ti2 (own_addt im1 ti1 0))))) T24 (mkF m 129 #[own_lv p1, .second, iv q1, own_lv p2, .second, iv q2, iv fl, rv a2, rv a4, iv no1, iv no2, iv sec, own_lv im1, .second, own_lv im2, .second, iv ti1, iv ti2, rv a20, .unset, .unset, .unset, .unset, .unset, .unset, .unset, .unset, .unset, .unset, .unset, .unset, .unset, .unset, .unset, .unset, .unset, .unset, .unset, .unset, .unset, .unset, .unset] []) := by
    have sg26 : own_V p e below T24 (mkF m 131 #[own_lv p1, .second, iv q1, own_lv p2, .second, iv q2, iv fl, rv a2, rv a4, iv no1, iv no2, iv sec, own_lv im1, .second, own_lv im2, .second, iv ti1, iv ti2, rv a20, .unset, .unset, .unset, .unset, .unset, .unset, .unset, .unset, .unset, .unset, .unset, .unset, .unset, .unset, .unset, .unset, .unset, .unset, .unset, .unset, .unset, .unset, .unset] [(.int sec)]) (mkF m 129 #[own_lv p1, .second, iv q1, own_lv p2, .second, iv q2, iv fl, rv a2, rv a4, iv no1, iv no2, iv sec, own_lv im1, .second, own_lv im2, .second, iv ti1, iv ti2, rv a20, .unset, .unset, .unset, .unset, .unset, .unset, .unset, .unset, .unset, .unset, .unset, .unset, .unset, .unset, .unset, .unset, .unset, .unset, .unset, .unset, .unset, .unset, .unset] []) := by
      intro t kt
      refine XS.iload X24.here hx rfl (hb hby at_129) rfl ?_
      show own_S p e below T24 m 131 #[own_lv p1, .second, iv q1, own_lv p2, .second, iv q2, iv fl, rv a2, rv a4, iv no1, iv no2, iv sec, own_lv im1, .second, own_lv im2, .second, iv ti1, iv ti2, rv a20, .unset, .unset, .unset, .unset, .unset, .unset, .unset, .unset, .unset, .unset, .unset, .unset, .unset, .unset, .unset, .unset, .unset, .unset, .unset, .unset, .unset, .unset, .unset] [(.int sec)] _
      exact kt
    refine own_sp sg26 ?_
    by_cases hc27 : sec = (0 : Int32)
    · skip
      have sg28 : own_V p e below T24 (mkF m 143 #[own_lv p1, .second, iv q1, own_lv p2, .second, iv q2, iv fl, rv a2, rv a4, iv no1, iv no2, iv sec, own_lv im1, .second, own_lv im2, .second, iv ti1, iv ti2, rv a20, .unset, .unset, .unset, .unset, .unset, .unset, .unset, .unset, .unset, .unset, .unset, .unset, .unset, .unset, .unset, .unset, .unset, .unset, .unset, .unset, .unset, .unset, .unset] []) (mkF m 131 #[own_lv p1, .second, iv q1, own_lv p2, .second, iv q2, iv fl, rv a2, rv a4, iv no1, iv no2, iv sec, own_lv im1, .second, own_lv im2, .second, iv ti1, iv ti2, rv a20, .unset, .unset, .unset, .unset, .unset, .unset, .unset, .unset, .unset, .unset, .unset, .unset, .unset, .unset, .unset, .unset, .unset, .unset, .unset, .unset, .unset, .unset, .unset] [(.int sec)]) := by
        intro t kt
        refine XS.ifYes X24.here hx rfl (pc0 := 131) (pc' := 143) rfl (hb hby at_131) rfl ((if0 _ _).trans (teq hc27).1) (by decide) (by decide) ?_
        exact kt
      refine own_sp sg28 ?_
      exact ⟨T24, _, ⟨_, _, _, _, _, _, rfl, X24, rfl, N24, Z24, ⟨S24, D1, D2, (if_pos hc27).symm, (if_pos hc27).symm, (if_pos hc27).symm, (if_pos hc27).symm⟩⟩, fun t k => k⟩
    have sg29 : own_V p e below T24 (mkF m 134 #[own_lv p1, .second, iv q1, own_lv p2, .second, iv q2, iv fl, rv a2, rv a4, iv no1, iv no2, iv sec, own_lv im1, .second, own_lv im2, .second, iv ti1, iv ti2, rv a20, .unset, .unset, .unset, .unset, .unset, .unset, .unset, .unset, .unset, .unset, .unset, .unset, .unset, .unset, .unset, .unset, .unset, .unset, .unset, .unset, .unset, .unset, .unset] []) (mkF m 131 #[own_lv p1, .second, iv q1, own_lv p2, .second, iv q2, iv fl, rv a2, rv a4, iv no1, iv no2, iv sec, own_lv im1, .second, own_lv im2, .second, iv ti1, iv ti2, rv a20, .unset, .unset, .unset, .unset, .unset, .unset, .unset, .unset, .unset, .unset, .unset, .unset, .unset, .unset, .unset, .unset, .unset, .unset, .unset, .unset, .unset, .unset, .unset] [(.int sec)]) := by
      intro t kt
      refine XS.ifNo X24.here hx rfl (hb hby at_131) rfl ((if0 _ _).trans (feq hc27).1) ?_
      exact kt
    refine own_sp sg29 ?_
    have sg30 : own_V p e below T24 (mkF m 140 #[own_lv p1, .second, iv q1, own_lv p2, .second, iv q2, iv fl, rv a2, rv a4, iv no1, iv no2, iv sec, own_lv im1, .second, own_lv im2, .second, iv ti1, iv ti2, rv a20, .unset, .unset, .unset, .unset, .unset, .unset, .unset, .unset, .unset, .unset, .unset, .unset, .unset, .unset, .unset, .unset, .unset, .unset, .unset, .unset, .unset, .unset, .unset] [(.int ti2), (.long im2), (.ref a20)]) (mkF m 134 #[own_lv p1, .second, iv q1, own_lv p2, .second, iv q2, iv fl, rv a2, rv a4, iv no1, iv no2, iv sec, own_lv im1, .second, own_lv im2, .second, iv ti1, iv ti2, rv a20, .unset, .unset, .unset, .unset, .unset, .unset, .unset, .unset, .unset, .unset, .unset, .unset, .unset, .unset, .unset, .unset, .unset, .unset, .unset, .unset, .unset, .unset, .unset] []) := by
      intro t kt
      refine XS.aload X24.here hx rfl (hb hby at_134) rfl rfl ?_
      show own_S p e below T24 m 136 #[own_lv p1, .second, iv q1, own_lv p2, .second, iv q2, iv fl, rv a2, rv a4, iv no1, iv no2, iv sec, own_lv im1, .second, own_lv im2, .second, iv ti1, iv ti2, rv a20, .unset, .unset, .unset, .unset, .unset, .unset, .unset, .unset, .unset, .unset, .unset, .unset, .unset, .unset, .unset, .unset, .unset, .unset, .unset, .unset, .unset, .unset, .unset] [(.ref a20)] _
      refine XS.lload X24.here hx rfl (hb hby at_136) rfl ?_
      show own_S p e below T24 m 138 #[own_lv p1, .second, iv q1, own_lv p2, .second, iv q2, iv fl, rv a2, rv a4, iv no1, iv no2, iv sec, own_lv im1, .second, own_lv im2, .second, iv ti1, iv ti2, rv a20, .unset, .unset, .unset, .unset, .unset, .unset, .unset, .unset, .unset, .unset, .unset, .unset, .unset, .unset, .unset, .unset, .unset, .unset, .unset, .unset, .unset, .unset, .unset] [(.long im2), (.ref a20)] _
      refine XS.iload X24.here hx rfl (hb hby at_138) rfl ?_
      show own_S p e below T24 m 140 #[own_lv p1, .second, iv q1, own_lv p2, .second, iv q2, iv fl, rv a2, rv a4, iv no1, iv no2, iv sec, own_lv im1, .second, own_lv im2, .second, iv ti1, iv ti2, rv a20, .unset, .unset, .unset, .unset, .unset, .unset, .unset, .unset, .unset, .unset, .unset, .unset, .unset, .unset, .unset, .unset, .unset, .unset, .unset, .unset, .unset, .unset, .unset] [(.int ti2), (.long im2), (.ref a20)] _
      exact kt
    refine own_sp sg30 ?_
    obtain ⟨_, T31, L31, X31, hQ31, st31⟩ := own_callV (y := (⟨"com/example/coverfold/coverfold/Figures$Sum", "add", "(JI)V"⟩ : MethodName)) (y0 := (⟨"com/example/coverfold/coverfold/Figures$Sum", "add", "(JI)V"⟩ : MethodName)) (a := a20) (C := "com/example/coverfold/coverfold/Figures$Sum") X24 hx hZ hown S24.1 (hw _ (List.mem_of_getElem? (i := 17) rfl)) (hw _ (List.mem_of_getElem? (i := 18) rfl)) (hw _ (List.mem_of_getElem? (i := 20) rfl)) (notFace_of_selects (args := #[]) (mvT hZ (hw _ (List.mem_of_getElem? (i := 20) rfl)))) (hw _ (List.mem_of_getElem? (i := 19) rfl)) (hw _ (List.mem_of_getElem? (i := 10) rfl)) (hw _ (List.mem_of_getElem? (i := 21) rfl)) (by decide) (own_rmadd l Z a0 hw a20 im2 ti2 (own_addi im1 ti1 0) (own_addm im1 ti1 0) (own_addp im1 ti1 0) (own_addt im1 ti1 0) T24.heap n0 Z24 S24 g_a20) rfl (g := (mkF m 140 #[own_lv p1, .second, iv q1, own_lv p2, .second, iv q2, iv fl, rv a2, rv a4, iv no1, iv no2, iv sec, own_lv im1, .second, own_lv im2, .second, iv ti1, iv ti2, rv a20, .unset, .unset, .unset, .unset, .unset, .unset, .unset, .unset, .unset, .unset, .unset, .unset, .unset, .unset, .unset, .unset, .unset, .unset, .unset, .unset, .unset, .unset, .unset] [(.int ti2), (.long im2), (.ref a20)])) rfl (by rw [hml]; rfl) (argsL := [(.long im2), (.int ti2)]) (rest := []) (lenOf own_pd4 rfl) rfl (W := 0) (by show 2 * 0 + _ ≤ _; exact Nat.le_of_eq rfl) (hb hby at_140) (by decide) (by decide) (by decide) (by decide)
    obtain ⟨rfl, Nq31, K31, S31⟩ := hQ31
    refine own_sp st31 ?_
    have Z31 : n0 ≤ T31.heap.size := Nat.le_trans Z24 K31.1
    have N31 := Fr.app N24 Nq31
    show own_Pk p e below _ T31 (mkF m 143 #[own_lv p1, .second, iv q1, own_lv p2, .second, iv q2, iv fl, rv a2, rv a4, iv no1, iv no2, iv sec, own_lv im1, .second, own_lv im2, .second, iv ti1, iv ti2, rv a20, .unset, .unset, .unset, .unset, .unset, .unset, .unset, .unset, .unset, .unset, .unset, .unset, .unset, .unset, .unset, .unset, .unset, .unset, .unset, .unset, .unset, .unset, .unset] [])
    exact ⟨T31, _, ⟨_, _, _, _, _, _, rfl, X31, rfl, N31, Z31, ⟨S31, D1.keep K31 (own_ninS ne1s nin0), D2.keep K31 (own_ninS ne2s nin0), (if_neg hc27).symm, (if_neg hc27).symm, (if_neg hc27).symm, (if_neg hc27).symm⟩⟩, fun t k => k⟩
  refine own_st st25 ?_
  show own_Go p e below _ T25 (mkF m 143 #[own_lv p1, .second, iv q1, own_lv p2, .second, iv q2, iv fl, rv a2, rv a4, iv no1, iv no2, iv sec, own_lv im1, .second, own_lv im2, .second, iv ti1, iv ti2, rv a20, .unset, .unset, .unset, .unset, .unset, .unset, .unset, .unset, .unset, .unset, .unset, .unset, .unset, .unset, .unset, .unset, .unset, .unset, .unset, .unset, .unset, .unset, .unset] [])
  obtain ⟨ill, hill⟩ : ∃ z : Int32, z = (if no1 = (0 : Int32) then (if sec = (0 : Int32) then (0 : Int32) else (if no2 = (0 : Int32) then (0 : Int32) else (1 : Int32))) else (1 : Int32)) := ⟨_, rfl⟩
  have sg35 : own_V p e below T25 (mkF m 163 #[own_lv p1, .second, iv q1, own_lv p2, .second, iv q2, iv fl, rv a2, rv a4, iv no1, iv no2, iv sec, own_lv im1, .second, own_lv im2, .second, iv ti1, iv ti2, rv a20, .unset, .unset, .unset, .unset, .unset, .unset, .unset, .unset, .unset, .unset, .unset, .unset, .unset, .unset, .unset, .unset, .unset, .unset, .unset, .unset, .unset, .unset, .unset] [(.int ill)]) (mkF m 143 #[own_lv p1, .second, iv q1, own_lv p2, .second, iv q2, iv fl, rv a2, rv a4, iv no1, iv no2, iv sec, own_lv im1, .second, own_lv im2, .second, iv ti1, iv ti2, rv a20, .unset, .unset, .unset, .unset, .unset, .unset, .unset, .unset, .unset, .unset, .unset, .unset, .unset, .unset, .unset, .unset, .unset, .unset, .unset, .unset, .unset, .unset, .unset] []) := by
    intro t kt
    refine XS.iload X25.here hx rfl (hb hby at_143) rfl ?_
    show own_S p e below T25 m 145 #[own_lv p1, .second, iv q1, own_lv p2, .second, iv q2, iv fl, rv a2, rv a4, iv no1, iv no2, iv sec, own_lv im1, .second, own_lv im2, .second, iv ti1, iv ti2, rv a20, .unset, .unset, .unset, .unset, .unset, .unset, .unset, .unset, .unset, .unset, .unset, .unset, .unset, .unset, .unset, .unset, .unset, .unset, .unset, .unset, .unset, .unset, .unset] [(.int no1)] _
    by_cases hc32 : no1 = (0 : Int32)
    · refine XS.ifNo X25.here hx rfl (hb hby at_145) rfl ((if0 _ _).trans (teq hc32).2) ?_
      show own_S p e below T25 m 148 #[own_lv p1, .second, iv q1, own_lv p2, .second, iv q2, iv fl, rv a2, rv a4, iv no1, iv no2, iv sec, own_lv im1, .second, own_lv im2, .second, iv ti1, iv ti2, rv a20, .unset, .unset, .unset, .unset, .unset, .unset, .unset, .unset, .unset, .unset, .unset, .unset, .unset, .unset, .unset, .unset, .unset, .unset, .unset, .unset, .unset, .unset, .unset] [] _
      refine XS.iload X25.here hx rfl (hb hby at_148) rfl ?_
      show own_S p e below T25 m 150 #[own_lv p1, .second, iv q1, own_lv p2, .second, iv q2, iv fl, rv a2, rv a4, iv no1, iv no2, iv sec, own_lv im1, .second, own_lv im2, .second, iv ti1, iv ti2, rv a20, .unset, .unset, .unset, .unset, .unset, .unset, .unset, .unset, .unset, .unset, .unset, .unset, .unset, .unset, .unset, .unset, .unset, .unset, .unset, .unset, .unset, .unset, .unset] [(.int sec)] _
      by_cases hc33 : sec = (0 : Int32)
      · refine XS.ifYes X25.here hx rfl (pc0 := 150) (pc' := 162) rfl (hb hby at_150) rfl ((if0 _ _).trans (teq hc33).1) (by decide) (by decide) ?_
        show own_S p e below T25 m 162 #[own_lv p1, .second, iv q1, own_lv p2, .second, iv q2, iv fl, rv a2, rv a4, iv no1, iv no2, iv sec, own_lv im1, .second, own_lv im2, .second, iv ti1, iv ti2, rv a20, .unset, .unset, .unset, .unset, .unset, .unset, .unset, .unset, .unset, .unset, .unset, .unset, .unset, .unset, .unset, .unset, .unset, .unset, .unset, .unset, .unset, .unset, .unset] [] _
        refine XS.iconst X25.here hx rfl (hb hby at_162) ?_
        show own_S p e below T25 m 163 #[own_lv p1, .second, iv q1, own_lv p2, .second, iv q2, iv fl, rv a2, rv a4, iv no1, iv no2, iv sec, own_lv im1, .second, own_lv im2, .second, iv ti1, iv ti2, rv a20, .unset, .unset, .unset, .unset, .unset, .unset, .unset, .unset, .unset, .unset, .unset, .unset, .unset, .unset, .unset, .unset, .unset, .unset, .unset, .unset, .unset, .unset, .unset] [(.int (0 : Int32))] _
        rw [show ill = (0 : Int32) from by rw [hill, if_pos hc32, if_pos hc33]] at kt
        exact kt
      · refine XS.ifNo X25.here hx rfl (hb hby at_150) rfl ((if0 _ _).trans (feq hc33).1) ?_
        show own_S p e below T25 m 153 #[own_lv p1, .second, iv q1, own_lv p2, .second, iv q2, iv fl, rv a2, rv a4, iv no1, iv no2, iv sec, own_lv im1, .second, own_lv im2, .second, iv ti1, iv ti2, rv a20, .unset, .unset, .unset, .unset, .unset, .unset, .unset, .unset, .unset, .unset, .unset, .unset, .unset, .unset, .unset, .unset, .unset, .unset, .unset, .unset, .unset, .unset, .unset] [] _
        refine XS.iload X25.here hx rfl (hb hby at_153) rfl ?_
        show own_S p e below T25 m 155 #[own_lv p1, .second, iv q1, own_lv p2, .second, iv q2, iv fl, rv a2, rv a4, iv no1, iv no2, iv sec, own_lv im1, .second, own_lv im2, .second, iv ti1, iv ti2, rv a20, .unset, .unset, .unset, .unset, .unset, .unset, .unset, .unset, .unset, .unset, .unset, .unset, .unset, .unset, .unset, .unset, .unset, .unset, .unset, .unset, .unset, .unset, .unset] [(.int no2)] _
        by_cases hc34 : no2 = (0 : Int32)
        · refine XS.ifYes X25.here hx rfl (pc0 := 155) (pc' := 162) rfl (hb hby at_155) rfl ((if0 _ _).trans (teq hc34).1) (by decide) (by decide) ?_
          show own_S p e below T25 m 162 #[own_lv p1, .second, iv q1, own_lv p2, .second, iv q2, iv fl, rv a2, rv a4, iv no1, iv no2, iv sec, own_lv im1, .second, own_lv im2, .second, iv ti1, iv ti2, rv a20, .unset, .unset, .unset, .unset, .unset, .unset, .unset, .unset, .unset, .unset, .unset, .unset, .unset, .unset, .unset, .unset, .unset, .unset, .unset, .unset, .unset, .unset, .unset] [] _
          refine XS.iconst X25.here hx rfl (hb hby at_162) ?_
          show own_S p e below T25 m 163 #[own_lv p1, .second, iv q1, own_lv p2, .second, iv q2, iv fl, rv a2, rv a4, iv no1, iv no2, iv sec, own_lv im1, .second, own_lv im2, .second, iv ti1, iv ti2, rv a20, .unset, .unset, .unset, .unset, .unset, .unset, .unset, .unset, .unset, .unset, .unset, .unset, .unset, .unset, .unset, .unset, .unset, .unset, .unset, .unset, .unset, .unset, .unset] [(.int (0 : Int32))] _
          rw [show ill = (0 : Int32) from by rw [hill, if_pos hc32, if_neg hc33, if_pos hc34]] at kt
          exact kt
        · refine XS.ifNo X25.here hx rfl (hb hby at_155) rfl ((if0 _ _).trans (feq hc34).1) ?_
          show own_S p e below T25 m 158 #[own_lv p1, .second, iv q1, own_lv p2, .second, iv q2, iv fl, rv a2, rv a4, iv no1, iv no2, iv sec, own_lv im1, .second, own_lv im2, .second, iv ti1, iv ti2, rv a20, .unset, .unset, .unset, .unset, .unset, .unset, .unset, .unset, .unset, .unset, .unset, .unset, .unset, .unset, .unset, .unset, .unset, .unset, .unset, .unset, .unset, .unset, .unset] [] _
          refine XS.iconst X25.here hx rfl (hb hby at_158) ?_
          show own_S p e below T25 m 159 #[own_lv p1, .second, iv q1, own_lv p2, .second, iv q2, iv fl, rv a2, rv a4, iv no1, iv no2, iv sec, own_lv im1, .second, own_lv im2, .second, iv ti1, iv ti2, rv a20, .unset, .unset, .unset, .unset, .unset, .unset, .unset, .unset, .unset, .unset, .unset, .unset, .unset, .unset, .unset, .unset, .unset, .unset, .unset, .unset, .unset, .unset, .unset] [(.int (1 : Int32))] _
          refine XS.goto X25.here hx rfl (pc0 := 159) (pc' := 163) rfl (hb hby at_159) (by decide) (by decide) ?_
          show own_S p e below T25 m 163 #[own_lv p1, .second, iv q1, own_lv p2, .second, iv q2, iv fl, rv a2, rv a4, iv no1, iv no2, iv sec, own_lv im1, .second, own_lv im2, .second, iv ti1, iv ti2, rv a20, .unset, .unset, .unset, .unset, .unset, .unset, .unset, .unset, .unset, .unset, .unset, .unset, .unset, .unset, .unset, .unset, .unset, .unset, .unset, .unset, .unset, .unset, .unset] [(.int (1 : Int32))] _
          rw [show ill = (1 : Int32) from by rw [hill, if_pos hc32, if_neg hc33, if_neg hc34]] at kt
          exact kt
    · refine XS.ifYes X25.here hx rfl (pc0 := 145) (pc' := 158) rfl (hb hby at_145) rfl ((if0 _ _).trans (feq hc32).2) (by decide) (by decide) ?_
      show own_S p e below T25 m 158 #[own_lv p1, .second, iv q1, own_lv p2, .second, iv q2, iv fl, rv a2, rv a4, iv no1, iv no2, iv sec, own_lv im1, .second, own_lv im2, .second, iv ti1, iv ti2, rv a20, .unset, .unset, .unset, .unset, .unset, .unset, .unset, .unset, .unset, .unset, .unset, .unset, .unset, .unset, .unset, .unset, .unset, .unset, .unset, .unset, .unset, .unset, .unset] [] _
      refine XS.iconst X25.here hx rfl (hb hby at_158) ?_
      show own_S p e below T25 m 159 #[own_lv p1, .second, iv q1, own_lv p2, .second, iv q2, iv fl, rv a2, rv a4, iv no1, iv no2, iv sec, own_lv im1, .second, own_lv im2, .second, iv ti1, iv ti2, rv a20, .unset, .unset, .unset, .unset, .unset, .unset, .unset, .unset, .unset, .unset, .unset, .unset, .unset, .unset, .unset, .unset, .unset, .unset, .unset, .unset, .unset, .unset, .unset] [(.int (1 : Int32))] _
      refine XS.goto X25.here hx rfl (pc0 := 159) (pc' := 163) rfl (hb hby at_159) (by decide) (by decide) ?_
      show own_S p e below T25 m 163 #[own_lv p1, .second, iv q1, own_lv p2, .second, iv q2, iv fl, rv a2, rv a4, iv no1, iv no2, iv sec, own_lv im1, .second, own_lv im2, .second, iv ti1, iv ti2, rv a20, .unset, .unset, .unset, .unset, .unset, .unset, .unset, .unset, .unset, .unset, .unset, .unset, .unset, .unset, .unset, .unset, .unset, .unset, .unset, .unset, .unset, .unset, .unset] [(.int (1 : Int32))] _
      rw [show ill = (1 : Int32) from by rw [hill, if_neg hc32]] at kt
      exact kt
  refine own_st sg35 ?_
  obtain ⟨n1, hn1⟩ : ∃ z : Int64, z = (if no1 = (0 : Int32) then ti1.toInt64 else (0 : Int64)) := ⟨_, rfl⟩
  have sg37 : own_V p e below T25 (mkF m 177 #[own_lv p1, .second, iv q1, own_lv p2, .second, iv q2, iv fl, rv a2, rv a4, iv no1, iv no2, iv sec, own_lv im1, .second, own_lv im2, .second, iv ti1, iv ti2, rv a20, iv ill, .unset, .unset, .unset, .unset, .unset, .unset, .unset, .unset, .unset, .unset, .unset, .unset, .unset, .unset, .unset, .unset, .unset, .unset, .unset, .unset, .unset, .unset] [(.long n1)]) (mkF m 163 #[own_lv p1, .second, iv q1, own_lv p2, .second, iv q2, iv fl, rv a2, rv a4, iv no1, iv no2, iv sec, own_lv im1, .second, own_lv im2, .second, iv ti1, iv ti2, rv a20, .unset, .unset, .unset, .unset, .unset, .unset, .unset, .unset, .unset, .unset, .unset, .unset, .unset, .unset, .unset, .unset, .unset, .unset, .unset, .unset, .unset, .unset, .unset] [(.int ill)]) := by
    intro t kt
    refine XS.istore X25.here hx rfl (hb hby at_163) rfl (l' := #[own_lv p1, .second, iv q1, own_lv p2, .second, iv q2, iv fl, rv a2, rv a4, iv no1, iv no2, iv sec, own_lv im1, .second, own_lv im2, .second, iv ti1, iv ti2, rv a20, iv ill, .unset, .unset, .unset, .unset, .unset, .unset, .unset, .unset, .unset, .unset, .unset, .unset, .unset, .unset, .unset, .unset, .unset, .unset, .unset, .unset, .unset, .unset]) rfl ?_
    show own_S p e below T25 m 165 #[own_lv p1, .second, iv q1, own_lv p2, .second, iv q2, iv fl, rv a2, rv a4, iv no1, iv no2, iv sec, own_lv im1, .second, own_lv im2, .second, iv ti1, iv ti2, rv a20, iv ill, .unset, .unset, .unset, .unset, .unset, .unset, .unset, .unset, .unset, .unset, .unset, .unset, .unset, .unset, .unset, .unset, .unset, .unset, .unset, .unset, .unset, .unset] [] _
    refine XS.iload X25.here hx rfl (hb hby at_165) rfl ?_
    show own_S p e below T25 m 167 #[own_lv p1, .second, iv q1, own_lv p2, .second, iv q2, iv fl, rv a2, rv a4, iv no1, iv no2, iv sec, own_lv im1, .second, own_lv im2, .second, iv ti1, iv ti2, rv a20, iv ill, .unset, .unset, .unset, .unset, .unset, .unset, .unset, .unset, .unset, .unset, .unset, .unset, .unset, .unset, .unset, .unset, .unset, .unset, .unset, .unset, .unset, .unset] [(.int no1)] _
    by_cases hc36 : no1 = (0 : Int32)
    · refine XS.ifYes X25.here hx rfl (pc0 := 167) (pc' := 174) rfl (hb hby at_167) rfl ((if0 _ _).trans (teq hc36).1) (by decide) (by decide) ?_
      show own_S p e below T25 m 174 #[own_lv p1, .second, iv q1, own_lv p2, .second, iv q2, iv fl, rv a2, rv a4, iv no1, iv no2, iv sec, own_lv im1, .second, own_lv im2, .second, iv ti1, iv ti2, rv a20, iv ill, .unset, .unset, .unset, .unset, .unset, .unset, .unset, .unset, .unset, .unset, .unset, .unset, .unset, .unset, .unset, .unset, .unset, .unset, .unset, .unset, .unset, .unset] [] _
      refine XS.iload X25.here hx rfl (hb hby at_174) rfl ?_
      show own_S p e below T25 m 176 #[own_lv p1, .second, iv q1, own_lv p2, .second, iv q2, iv fl, rv a2, rv a4, iv no1, iv no2, iv sec, own_lv im1, .second, own_lv im2, .second, iv ti1, iv ti2, rv a20, iv ill, .unset, .unset, .unset, .unset, .unset, .unset, .unset, .unset, .unset, .unset, .unset, .unset, .unset, .unset, .unset, .unset, .unset, .unset, .unset, .unset, .unset, .unset] [(.int ti1)] _
      refine XS.i2l X25.here hx rfl (hb hby at_176) rfl ?_
      show own_S p e below T25 m 177 #[own_lv p1, .second, iv q1, own_lv p2, .second, iv q2, iv fl, rv a2, rv a4, iv no1, iv no2, iv sec, own_lv im1, .second, own_lv im2, .second, iv ti1, iv ti2, rv a20, iv ill, .unset, .unset, .unset, .unset, .unset, .unset, .unset, .unset, .unset, .unset, .unset, .unset, .unset, .unset, .unset, .unset, .unset, .unset, .unset, .unset, .unset, .unset] [(.long ti1.toInt64)] _
      rw [show n1 = ti1.toInt64 from by rw [hn1, if_pos hc36]] at kt
      exact kt
    · refine XS.ifNo X25.here hx rfl (hb hby at_167) rfl ((if0 _ _).trans (feq hc36).1) ?_
      show own_S p e below T25 m 170 #[own_lv p1, .second, iv q1, own_lv p2, .second, iv q2, iv fl, rv a2, rv a4, iv no1, iv no2, iv sec, own_lv im1, .second, own_lv im2, .second, iv ti1, iv ti2, rv a20, iv ill, .unset, .unset, .unset, .unset, .unset, .unset, .unset, .unset, .unset, .unset, .unset, .unset, .unset, .unset, .unset, .unset, .unset, .unset, .unset, .unset, .unset, .unset] [] _
      refine XS.lconst X25.here hx rfl (hb hby at_170) ?_
      show own_S p e below T25 m 171 #[own_lv p1, .second, iv q1, own_lv p2, .second, iv q2, iv fl, rv a2, rv a4, iv no1, iv no2, iv sec, own_lv im1, .second, own_lv im2, .second, iv ti1, iv ti2, rv a20, iv ill, .unset, .unset, .unset, .unset, .unset, .unset, .unset, .unset, .unset, .unset, .unset, .unset, .unset, .unset, .unset, .unset, .unset, .unset, .unset, .unset, .unset, .unset] [(.long (0 : Int64))] _
      refine XS.goto X25.here hx rfl (pc0 := 171) (pc' := 177) rfl (hb hby at_171) (by decide) (by decide) ?_
      show own_S p e below T25 m 177 #[own_lv p1, .second, iv q1, own_lv p2, .second, iv q2, iv fl, rv a2, rv a4, iv no1, iv no2, iv sec, own_lv im1, .second, own_lv im2, .second, iv ti1, iv ti2, rv a20, iv ill, .unset, .unset, .unset, .unset, .unset, .unset, .unset, .unset, .unset, .unset, .unset, .unset, .unset, .unset, .unset, .unset, .unset, .unset, .unset, .unset, .unset, .unset] [(.long (0 : Int64))] _
      rw [show n1 = (0 : Int64) from by rw [hn1, if_neg hc36]] at kt
      exact kt
  refine own_st sg37 ?_
  obtain ⟨n2, hn2⟩ : ∃ z : Int64, z = (if sec = (0 : Int32) then (0 : Int64) else (if no2 = (0 : Int32) then ti2.toInt64 else (0 : Int64))) := ⟨_, rfl⟩
  have sg40 : own_V p e below T25 (mkF m 196 #[own_lv p1, .second, iv q1, own_lv p2, .second, iv q2, iv fl, rv a2, rv a4, iv no1, iv no2, iv sec, own_lv im1, .second, own_lv im2, .second, iv ti1, iv ti2, rv a20, iv ill, own_lv n1, .second, .unset, .unset, .unset, .unset, .unset, .unset, .unset, .unset, .unset, .unset, .unset, .unset, .unset, .unset, .unset, .unset, .unset, .unset, .unset, .unset] [(.long n2)]) (mkF m 177 #[own_lv p1, .second, iv q1, own_lv p2, .second, iv q2, iv fl, rv a2, rv a4, iv no1, iv no2, iv sec, own_lv im1, .second, own_lv im2, .second, iv ti1, iv ti2, rv a20, iv ill, .unset, .unset, .unset, .unset, .unset, .unset, .unset, .unset, .unset, .unset, .unset, .unset, .unset, .unset, .unset, .unset, .unset, .unset, .unset, .unset, .unset, .unset] [(.long n1)]) := by
    intro t kt
    refine XS.lstore X25.here hx rfl (hb hby at_177) rfl (l' := #[own_lv p1, .second, iv q1, own_lv p2, .second, iv q2, iv fl, rv a2, rv a4, iv no1, iv no2, iv sec, own_lv im1, .second, own_lv im2, .second, iv ti1, iv ti2, rv a20, iv ill, own_lv n1, .second, .unset, .unset, .unset, .unset, .unset, .unset, .unset, .unset, .unset, .unset, .unset, .unset, .unset, .unset, .unset, .unset, .unset, .unset, .unset, .unset]) rfl ?_
    show own_S p e below T25 m 179 #[own_lv p1, .second, iv q1, own_lv p2, .second, iv q2, iv fl, rv a2, rv a4, iv no1, iv no2, iv sec, own_lv im1, .second, own_lv im2, .second, iv ti1, iv ti2, rv a20, iv ill, own_lv n1, .second, .unset, .unset, .unset, .unset, .unset, .unset, .unset, .unset, .unset, .unset, .unset, .unset, .unset, .unset, .unset, .unset, .unset, .unset, .unset, .unset] [] _
    refine XS.iload X25.here hx rfl (hb hby at_179) rfl ?_
    show own_S p e below T25 m 181 #[own_lv p1, .second, iv q1, own_lv p2, .second, iv q2, iv fl, rv a2, rv a4, iv no1, iv no2, iv sec, own_lv im1, .second, own_lv im2, .second, iv ti1, iv ti2, rv a20, iv ill, own_lv n1, .second, .unset, .unset, .unset, .unset, .unset, .unset, .unset, .unset, .unset, .unset, .unset, .unset, .unset, .unset, .unset, .unset, .unset, .unset, .unset, .unset] [(.int sec)] _
    by_cases hc38 : sec = (0 : Int32)
    · refine XS.ifYes X25.here hx rfl (pc0 := 181) (pc' := 195) rfl (hb hby at_181) rfl ((if0 _ _).trans (teq hc38).1) (by decide) (by decide) ?_
      show own_S p e below T25 m 195 #[own_lv p1, .second, iv q1, own_lv p2, .second, iv q2, iv fl, rv a2, rv a4, iv no1, iv no2, iv sec, own_lv im1, .second, own_lv im2, .second, iv ti1, iv ti2, rv a20, iv ill, own_lv n1, .second, .unset, .unset, .unset, .unset, .unset, .unset, .unset, .unset, .unset, .unset, .unset, .unset, .unset, .unset, .unset, .unset, .unset, .unset, .unset, .unset] [] _
      refine XS.lconst X25.here hx rfl (hb hby at_195) ?_
      show own_S p e below T25 m 196 #[own_lv p1, .second, iv q1, own_lv p2, .second, iv q2, iv fl, rv a2, rv a4, iv no1, iv no2, iv sec, own_lv im1, .second, own_lv im2, .second, iv ti1, iv ti2, rv a20, iv ill, own_lv n1, .second, .unset, .unset, .unset, .unset, .unset, .unset, .unset, .unset, .unset, .unset, .unset, .unset, .unset, .unset, .unset, .unset, .unset, .unset, .unset, .unset] [(.long (0 : Int64))] _
      rw [show n2 = (0 : Int64) from by rw [hn2, if_pos hc38]] at kt
      exact kt
    · refine XS.ifNo X25.here hx rfl (hb hby at_181) rfl ((if0 _ _).trans (feq hc38).1) ?_
      show own_S p e below T25 m 184 #[own_lv p1, .second, iv q1, own_lv p2, .second, iv q2, iv fl, rv a2, rv a4, iv no1, iv no2, iv sec, own_lv im1, .second, own_lv im2, .second, iv ti1, iv ti2, rv a20, iv ill, own_lv n1, .second, .unset, .unset, .unset, .unset, .unset, .unset, .unset, .unset, .unset, .unset, .unset, .unset, .unset, .unset, .unset, .unset, .unset, .unset, .unset, .unset] [] _
      refine XS.iload X25.here hx rfl (hb hby at_184) rfl ?_
      show own_S p e below T25 m 186 #[own_lv p1, .second, iv q1, own_lv p2, .second, iv q2, iv fl, rv a2, rv a4, iv no1, iv no2, iv sec, own_lv im1, .second, own_lv im2, .second, iv ti1, iv ti2, rv a20, iv ill, own_lv n1, .second, .unset, .unset, .unset, .unset, .unset, .unset, .unset, .unset, .unset, .unset, .unset, .unset, .unset, .unset, .unset, .unset, .unset, .unset, .unset, .unset] [(.int no2)] _
      by_cases hc39 : no2 = (0 : Int32)
      · refine XS.ifNo X25.here hx rfl (hb hby at_186) rfl ((if0 _ _).trans (teq hc39).2) ?_
        show own_S p e below T25 m 189 #[own_lv p1, .second, iv q1, own_lv p2, .second, iv q2, iv fl, rv a2, rv a4, iv no1, iv no2, iv sec, own_lv im1, .second, own_lv im2, .second, iv ti1, iv ti2, rv a20, iv ill, own_lv n1, .second, .unset, .unset, .unset, .unset, .unset, .unset, .unset, .unset, .unset, .unset, .unset, .unset, .unset, .unset, .unset, .unset, .unset, .unset, .unset, .unset] [] _
        refine XS.iload X25.here hx rfl (hb hby at_189) rfl ?_
        show own_S p e below T25 m 191 #[own_lv p1, .second, iv q1, own_lv p2, .second, iv q2, iv fl, rv a2, rv a4, iv no1, iv no2, iv sec, own_lv im1, .second, own_lv im2, .second, iv ti1, iv ti2, rv a20, iv ill, own_lv n1, .second, .unset, .unset, .unset, .unset, .unset, .unset, .unset, .unset, .unset, .unset, .unset, .unset, .unset, .unset, .unset, .unset, .unset, .unset, .unset, .unset] [(.int ti2)] _
        refine XS.i2l X25.here hx rfl (hb hby at_191) rfl ?_
        show own_S p e below T25 m 192 #[own_lv p1, .second, iv q1, own_lv p2, .second, iv q2, iv fl, rv a2, rv a4, iv no1, iv no2, iv sec, own_lv im1, .second, own_lv im2, .second, iv ti1, iv ti2, rv a20, iv ill, own_lv n1, .second, .unset, .unset, .unset, .unset, .unset, .unset, .unset, .unset, .unset, .unset, .unset, .unset, .unset, .unset, .unset, .unset, .unset, .unset, .unset, .unset] [(.long ti2.toInt64)] _
        refine XS.goto X25.here hx rfl (pc0 := 192) (pc' := 196) rfl (hb hby at_192) (by decide) (by decide) ?_
        show own_S p e below T25 m 196 #[own_lv p1, .second, iv q1, own_lv p2, .second, iv q2, iv fl, rv a2, rv a4, iv no1, iv no2, iv sec, own_lv im1, .second, own_lv im2, .second, iv ti1, iv ti2, rv a20, iv ill, own_lv n1, .second, .unset, .unset, .unset, .unset, .unset, .unset, .unset, .unset, .unset, .unset, .unset, .unset, .unset, .unset, .unset, .unset, .unset, .unset, .unset, .unset] [(.long ti2.toInt64)] _
        rw [show n2 = ti2.toInt64 from by rw [hn2, if_neg hc38, if_pos hc39]] at kt
        exact kt
      · refine XS.ifYes X25.here hx rfl (pc0 := 186) (pc' := 195) rfl (hb hby at_186) rfl ((if0 _ _).trans (feq hc39).2) (by decide) (by decide) ?_
        show own_S p e below T25 m 195 #[own_lv p1, .second, iv q1, own_lv p2, .second, iv q2, iv fl, rv a2, rv a4, iv no1, iv no2, iv sec, own_lv im1, .second, own_lv im2, .second, iv ti1, iv ti2, rv a20, iv ill, own_lv n1, .second, .unset, .unset, .unset, .unset, .unset, .unset, .unset, .unset, .unset, .unset, .unset, .unset, .unset, .unset, .unset, .unset, .unset, .unset, .unset, .unset] [] _
        refine XS.lconst X25.here hx rfl (hb hby at_195) ?_
        show own_S p e below T25 m 196 #[own_lv p1, .second, iv q1, own_lv p2, .second, iv q2, iv fl, rv a2, rv a4, iv no1, iv no2, iv sec, own_lv im1, .second, own_lv im2, .second, iv ti1, iv ti2, rv a20, iv ill, own_lv n1, .second, .unset, .unset, .unset, .unset, .unset, .unset, .unset, .unset, .unset, .unset, .unset, .unset, .unset, .unset, .unset, .unset, .unset, .unset, .unset, .unset] [(.long (0 : Int64))] _
        rw [show n2 = (0 : Int64) from by rw [hn2, if_neg hc38, if_neg hc39]] at kt
        exact kt
  refine own_st sg40 ?_
  obtain ⟨tm, htm⟩ : ∃ z : Int64, z = (n1 + n2) := ⟨_, rfl⟩
  have sg41 : own_V p e below T25 (mkF m 205 #[own_lv p1, .second, iv q1, own_lv p2, .second, iv q2, iv fl, rv a2, rv a4, iv no1, iv no2, iv sec, own_lv im1, .second, own_lv im2, .second, iv ti1, iv ti2, rv a20, iv ill, own_lv n1, .second, own_lv n2, .second, own_lv tm, .second, .unset, .unset, .unset, .unset, .unset, .unset, .unset, .unset, .unset, .unset, .unset, .unset, .unset, .unset, .unset, .unset] []) (mkF m 196 #[own_lv p1, .second, iv q1, own_lv p2, .second, iv q2, iv fl, rv a2, rv a4, iv no1, iv no2, iv sec, own_lv im1, .second, own_lv im2, .second, iv ti1, iv ti2, rv a20, iv ill, own_lv n1, .second, .unset, .unset, .unset, .unset, .unset, .unset, .unset, .unset, .unset, .unset, .unset, .unset, .unset, .unset, .unset, .unset, .unset, .unset, .unset, .unset] [(.long n2)]) := by
    intro t kt
    refine XS.lstore X25.here hx rfl (hb hby at_196) rfl (l' := #[own_lv p1, .second, iv q1, own_lv p2, .second, iv q2, iv fl, rv a2, rv a4, iv no1, iv no2, iv sec, own_lv im1, .second, own_lv im2, .second, iv ti1, iv ti2, rv a20, iv ill, own_lv n1, .second, own_lv n2, .second, .unset, .unset, .unset, .unset, .unset, .unset, .unset, .unset, .unset, .unset, .unset, .unset, .unset, .unset, .unset, .unset, .unset, .unset]) rfl ?_
    show own_S p e below T25 m 198 #[own_lv p1, .second, iv q1, own_lv p2, .second, iv q2, iv fl, rv a2, rv a4, iv no1, iv no2, iv sec, own_lv im1, .second, own_lv im2, .second, iv ti1, iv ti2, rv a20, iv ill, own_lv n1, .second, own_lv n2, .second, .unset, .unset, .unset, .unset, .unset, .unset, .unset, .unset, .unset, .unset, .unset, .unset, .unset, .unset, .unset, .unset, .unset, .unset] [] _
    refine XS.lload X25.here hx rfl (hb hby at_198) rfl ?_
    show own_S p e below T25 m 200 #[own_lv p1, .second, iv q1, own_lv p2, .second, iv q2, iv fl, rv a2, rv a4, iv no1, iv no2, iv sec, own_lv im1, .second, own_lv im2, .second, iv ti1, iv ti2, rv a20, iv ill, own_lv n1, .second, own_lv n2, .second, .unset, .unset, .unset, .unset, .unset, .unset, .unset, .unset, .unset, .unset, .unset, .unset, .unset, .unset, .unset, .unset, .unset, .unset] [(.long n1)] _
    refine XS.lload X25.here hx rfl (hb hby at_200) rfl ?_
    show own_S p e below T25 m 202 #[own_lv p1, .second, iv q1, own_lv p2, .second, iv q2, iv fl, rv a2, rv a4, iv no1, iv no2, iv sec, own_lv im1, .second, own_lv im2, .second, iv ti1, iv ti2, rv a20, iv ill, own_lv n1, .second, own_lv n2, .second, .unset, .unset, .unset, .unset, .unset, .unset, .unset, .unset, .unset, .unset, .unset, .unset, .unset, .unset, .unset, .unset, .unset, .unset] [(.long n2), (.long n1)] _
    refine XS.ladd X25.here hx rfl (hb hby at_202) rfl ?_
    show own_S p e below T25 m 203 #[own_lv p1, .second, iv q1, own_lv p2, .second, iv q2, iv fl, rv a2, rv a4, iv no1, iv no2, iv sec, own_lv im1, .second, own_lv im2, .second, iv ti1, iv ti2, rv a20, iv ill, own_lv n1, .second, own_lv n2, .second, .unset, .unset, .unset, .unset, .unset, .unset, .unset, .unset, .unset, .unset, .unset, .unset, .unset, .unset, .unset, .unset, .unset, .unset] [(.long (n1 + n2))] _
    refine XS.lstore X25.here hx rfl (hb hby at_203) rfl (l' := #[own_lv p1, .second, iv q1, own_lv p2, .second, iv q2, iv fl, rv a2, rv a4, iv no1, iv no2, iv sec, own_lv im1, .second, own_lv im2, .second, iv ti1, iv ti2, rv a20, iv ill, own_lv n1, .second, own_lv n2, .second, own_lv (n1 + n2), .second, .unset, .unset, .unset, .unset, .unset, .unset, .unset, .unset, .unset, .unset, .unset, .unset, .unset, .unset, .unset, .unset]) rfl ?_
    show own_S p e below T25 m 205 #[own_lv p1, .second, iv q1, own_lv p2, .second, iv q2, iv fl, rv a2, rv a4, iv no1, iv no2, iv sec, own_lv im1, .second, own_lv im2, .second, iv ti1, iv ti2, rv a20, iv ill, own_lv n1, .second, own_lv n2, .second, own_lv (n1 + n2), .second, .unset, .unset, .unset, .unset, .unset, .unset, .unset, .unset, .unset, .unset, .unset, .unset, .unset, .unset, .unset, .unset] [] _
    rw [htm] at kt
    exact kt
  refine own_st sg41 ?_
  obtain ⟨hg, hhg⟩ : ∃ z : Int64, z = ((((im1.toUInt64 >>> ((32 : Int32) &&& 0x3f).toInt64.toUInt64).toInt64) * n1) + (((im2.toUInt64 >>> ((32 : Int32) &&& 0x3f).toInt64.toUInt64).toInt64) * n2)) := ⟨_, rfl⟩
  have sg42 : own_V p e below T25 (mkF m 224 #[own_lv p1, .second, iv q1, own_lv p2, .second, iv q2, iv fl, rv a2, rv a4, iv no1, iv no2, iv sec, own_lv im1, .second, own_lv im2, .second, iv ti1, iv ti2, rv a20, iv ill, own_lv n1, .second, own_lv n2, .second, own_lv tm, .second, own_lv hg, .second, .unset, .unset, .unset, .unset, .unset, .unset, .unset, .unset, .unset, .unset, .unset, .unset, .unset, .unset] []) (mkF m 205 #[own_lv p1, .second, iv q1, own_lv p2, .second, iv q2, iv fl, rv a2, rv a4, iv no1, iv no2, iv sec, own_lv im1, .second, own_lv im2, .second, iv ti1, iv ti2, rv a20, iv ill, own_lv n1, .second, own_lv n2, .second, own_lv tm, .second, .unset, .unset, .unset, .unset, .unset, .unset, .unset, .unset, .unset, .unset, .unset, .unset, .unset, .unset, .unset, .unset] []) := by
    intro t kt
    refine XS.lload X25.here hx rfl (hb hby at_205) rfl ?_
    show own_S p e below T25 m 207 #[own_lv p1, .second, iv q1, own_lv p2, .second, iv q2, iv fl, rv a2, rv a4, iv no1, iv no2, iv sec, own_lv im1, .second, own_lv im2, .second, iv ti1, iv ti2, rv a20, iv ill, own_lv n1, .second, own_lv n2, .second, own_lv tm, .second, .unset, .unset, .unset, .unset, .unset, .unset, .unset, .unset, .unset, .unset, .unset, .unset, .unset, .unset, .unset, .unset] [(.long im1)] _
    refine XS.bipush X25.here hx rfl (hb hby at_207) ?_
    show own_S p e below T25 m 209 #[own_lv p1, .second, iv q1, own_lv p2, .second, iv q2, iv fl, rv a2, rv a4, iv no1, iv no2, iv sec, own_lv im1, .second, own_lv im2, .second, iv ti1, iv ti2, rv a20, iv ill, own_lv n1, .second, own_lv n2, .second, own_lv tm, .second, .unset, .unset, .unset, .unset, .unset, .unset, .unset, .unset, .unset, .unset, .unset, .unset, .unset, .unset, .unset, .unset] [(.int (32 : Int32)), (.long im1)] _
    refine XS.lushr X25.here hx rfl (hb hby at_209) rfl ?_
    show own_S p e below T25 m 210 #[own_lv p1, .second, iv q1, own_lv p2, .second, iv q2, iv fl, rv a2, rv a4, iv no1, iv no2, iv sec, own_lv im1, .second, own_lv im2, .second, iv ti1, iv ti2, rv a20, iv ill, own_lv n1, .second, own_lv n2, .second, own_lv tm, .second, .unset, .unset, .unset, .unset, .unset, .unset, .unset, .unset, .unset, .unset, .unset, .unset, .unset, .unset, .unset, .unset] [(.long ((im1.toUInt64 >>> ((32 : Int32) &&& 0x3f).toInt64.toUInt64).toInt64))] _
    refine XS.lload X25.here hx rfl (hb hby at_210) rfl ?_
    show own_S p e below T25 m 212 #[own_lv p1, .second, iv q1, own_lv p2, .second, iv q2, iv fl, rv a2, rv a4, iv no1, iv no2, iv sec, own_lv im1, .second, own_lv im2, .second, iv ti1, iv ti2, rv a20, iv ill, own_lv n1, .second, own_lv n2, .second, own_lv tm, .second, .unset, .unset, .unset, .unset, .unset, .unset, .unset, .unset, .unset, .unset, .unset, .unset, .unset, .unset, .unset, .unset] [(.long n1), (.long ((im1.toUInt64 >>> ((32 : Int32) &&& 0x3f).toInt64.toUInt64).toInt64))] _
    refine XS.lmul X25.here hx rfl (hb hby at_212) rfl ?_
    show own_S p e below T25 m 213 #[own_lv p1, .second, iv q1, own_lv p2, .second, iv q2, iv fl, rv a2, rv a4, iv no1, iv no2, iv sec, own_lv im1, .second, own_lv im2, .second, iv ti1, iv ti2, rv a20, iv ill, own_lv n1, .second, own_lv n2, .second, own_lv tm, .second, .unset, .unset, .unset, .unset, .unset, .unset, .unset, .unset, .unset, .unset, .unset, .unset, .unset, .unset, .unset, .unset] [(.long (((im1.toUInt64 >>> ((32 : Int32) &&& 0x3f).toInt64.toUInt64).toInt64) * n1))] _
    refine XS.lload X25.here hx rfl (hb hby at_213) rfl ?_
    show own_S p e below T25 m 215 #[own_lv p1, .second, iv q1, own_lv p2, .second, iv q2, iv fl, rv a2, rv a4, iv no1, iv no2, iv sec, own_lv im1, .second, own_lv im2, .second, iv ti1, iv ti2, rv a20, iv ill, own_lv n1, .second, own_lv n2, .second, own_lv tm, .second, .unset, .unset, .unset, .unset, .unset, .unset, .unset, .unset, .unset, .unset, .unset, .unset, .unset, .unset, .unset, .unset] [(.long im2), (.long (((im1.toUInt64 >>> ((32 : Int32) &&& 0x3f).toInt64.toUInt64).toInt64) * n1))] _
    refine XS.bipush X25.here hx rfl (hb hby at_215) ?_
    show own_S p e below T25 m 217 #[own_lv p1, .second, iv q1, own_lv p2, .second, iv q2, iv fl, rv a2, rv a4, iv no1, iv no2, iv sec, own_lv im1, .second, own_lv im2, .second, iv ti1, iv ti2, rv a20, iv ill, own_lv n1, .second, own_lv n2, .second, own_lv tm, .second, .unset, .unset, .unset, .unset, .unset, .unset, .unset, .unset, .unset, .unset, .unset, .unset, .unset, .unset, .unset, .unset] [(.int (32 : Int32)), (.long im2), (.long (((im1.toUInt64 >>> ((32 : Int32) &&& 0x3f).toInt64.toUInt64).toInt64) * n1))] _
    refine XS.lushr X25.here hx rfl (hb hby at_217) rfl ?_
    show own_S p e below T25 m 218 #[own_lv p1, .second, iv q1, own_lv p2, .second, iv q2, iv fl, rv a2, rv a4, iv no1, iv no2, iv sec, own_lv im1, .second, own_lv im2, .second, iv ti1, iv ti2, rv a20, iv ill, own_lv n1, .second, own_lv n2, .second, own_lv tm, .second, .unset, .unset, .unset, .unset, .unset, .unset, .unset, .unset, .unset, .unset, .unset, .unset, .unset, .unset, .unset, .unset] [(.long ((im2.toUInt64 >>> ((32 : Int32) &&& 0x3f).toInt64.toUInt64).toInt64)), (.long (((im1.toUInt64 >>> ((32 : Int32) &&& 0x3f).toInt64.toUInt64).toInt64) * n1))] _
    refine XS.lload X25.here hx rfl (hb hby at_218) rfl ?_
    show own_S p e below T25 m 220 #[own_lv p1, .second, iv q1, own_lv p2, .second, iv q2, iv fl, rv a2, rv a4, iv no1, iv no2, iv sec, own_lv im1, .second, own_lv im2, .second, iv ti1, iv ti2, rv a20, iv ill, own_lv n1, .second, own_lv n2, .second, own_lv tm, .second, .unset, .unset, .unset, .unset, .unset, .unset, .unset, .unset, .unset, .unset, .unset, .unset, .unset, .unset, .unset, .unset] [(.long n2), (.long ((im2.toUInt64 >>> ((32 : Int32) &&& 0x3f).toInt64.toUInt64).toInt64)), (.long (((im1.toUInt64 >>> ((32 : Int32) &&& 0x3f).toInt64.toUInt64).toInt64) * n1))] _
    refine XS.lmul X25.here hx rfl (hb hby at_220) rfl ?_
    show own_S p e below T25 m 221 #[own_lv p1, .second, iv q1, own_lv p2, .second, iv q2, iv fl, rv a2, rv a4, iv no1, iv no2, iv sec, own_lv im1, .second, own_lv im2, .second, iv ti1, iv ti2, rv a20, iv ill, own_lv n1, .second, own_lv n2, .second, own_lv tm, .second, .unset, .unset, .unset, .unset, .unset, .unset, .unset, .unset, .unset, .unset, .unset, .unset, .unset, .unset, .unset, .unset] [(.long (((im2.toUInt64 >>> ((32 : Int32) &&& 0x3f).toInt64.toUInt64).toInt64) * n2)), (.long (((im1.toUInt64 >>> ((32 : Int32) &&& 0x3f).toInt64.toUInt64).toInt64) * n1))] _
    refine XS.ladd X25.here hx rfl (hb hby at_221) rfl ?_
    show own_S p e below T25 m 222 #[own_lv p1, .second, iv q1, own_lv p2, .second, iv q2, iv fl, rv a2, rv a4, iv no1, iv no2, iv sec, own_lv im1, .second, own_lv im2, .second, iv ti1, iv ti2, rv a20, iv ill, own_lv n1, .second, own_lv n2, .second, own_lv tm, .second, .unset, .unset, .unset, .unset, .unset, .unset, .unset, .unset, .unset, .unset, .unset, .unset, .unset, .unset, .unset, .unset] [(.long ((((im1.toUInt64 >>> ((32 : Int32) &&& 0x3f).toInt64.toUInt64).toInt64) * n1) + (((im2.toUInt64 >>> ((32 : Int32) &&& 0x3f).toInt64.toUInt64).toInt64) * n2)))] _
    refine XS.lstore X25.here hx rfl (hb hby at_222) rfl (l' := #[own_lv p1, .second, iv q1, own_lv p2, .second, iv q2, iv fl, rv a2, rv a4, iv no1, iv no2, iv sec, own_lv im1, .second, own_lv im2, .second, iv ti1, iv ti2, rv a20, iv ill, own_lv n1, .second, own_lv n2, .second, own_lv tm, .second, own_lv ((((im1.toUInt64 >>> ((32 : Int32) &&& 0x3f).toInt64.toUInt64).toInt64) * n1) + (((im2.toUInt64 >>> ((32 : Int32) &&& 0x3f).toInt64.toUInt64).toInt64) * n2)), .second, .unset, .unset, .unset, .unset, .unset, .unset, .unset, .unset, .unset, .unset, .unset, .unset, .unset, .unset]) rfl ?_
    show own_S p e below T25 m 224 #[own_lv p1, .second, iv q1, own_lv p2, .second, iv q2, iv fl, rv a2, rv a4, iv no1, iv no2, iv sec, own_lv im1, .second, own_lv im2, .second, iv ti1, iv ti2, rv a20, iv ill, own_lv n1, .second, own_lv n2, .second, own_lv tm, .second, own_lv ((((im1.toUInt64 >>> ((32 : Int32) &&& 0x3f).toInt64.toUInt64).toInt64) * n1) + (((im2.toUInt64 >>> ((32 : Int32) &&& 0x3f).toInt64.toUInt64).toInt64) * n2)), .second, .unset, .unset, .unset, .unset, .unset, .unset, .unset, .unset, .unset, .unset, .unset, .unset, .unset, .unset] [] _
    rw [hhg] at kt
    exact kt
  refine own_st sg42 ?_
  obtain ⟨lo, hlo⟩ : ∃ z : Int64, z = (((im1 &&& (4294967295 : Int64)) * n1) + ((im2 &&& (4294967295 : Int64)) * n2)) := ⟨_, rfl⟩
  have sg43 : own_V p e below T25 (mkF m 245 #[own_lv p1, .second, iv q1, own_lv p2, .second, iv q2, iv fl, rv a2, rv a4, iv no1, iv no2, iv sec, own_lv im1, .second, own_lv im2, .second, iv ti1, iv ti2, rv a20, iv ill, own_lv n1, .second, own_lv n2, .second, own_lv tm, .second, own_lv hg, .second, own_lv lo, .second, .unset, .unset, .unset, .unset, .unset, .unset, .unset, .unset, .unset, .unset, .unset, .unset] []) (mkF m 224 #[own_lv p1, .second, iv q1, own_lv p2, .second, iv q2, iv fl, rv a2, rv a4, iv no1, iv no2, iv sec, own_lv im1, .second, own_lv im2, .second, iv ti1, iv ti2, rv a20, iv ill, own_lv n1, .second, own_lv n2, .second, own_lv tm, .second, own_lv hg, .second, .unset, .unset, .unset, .unset, .unset, .unset, .unset, .unset, .unset, .unset, .unset, .unset, .unset, .unset] []) := by
    intro t kt
    refine XS.lload X25.here hx rfl (hb hby at_224) rfl ?_
    show own_S p e below T25 m 226 #[own_lv p1, .second, iv q1, own_lv p2, .second, iv q2, iv fl, rv a2, rv a4, iv no1, iv no2, iv sec, own_lv im1, .second, own_lv im2, .second, iv ti1, iv ti2, rv a20, iv ill, own_lv n1, .second, own_lv n2, .second, own_lv tm, .second, own_lv hg, .second, .unset, .unset, .unset, .unset, .unset, .unset, .unset, .unset, .unset, .unset, .unset, .unset, .unset, .unset] [(.long im1)] _
    refine X25.ldc2Long hx hown (mvT hZ (hw _ (List.mem_of_getElem? (i := 31) rfl))) (g := (mkF m 226 #[own_lv p1, .second, iv q1, own_lv p2, .second, iv q2, iv fl, rv a2, rv a4, iv no1, iv no2, iv sec, own_lv im1, .second, own_lv im2, .second, iv ti1, iv ti2, rv a20, iv ill, own_lv n1, .second, own_lv n2, .second, own_lv tm, .second, own_lv hg, .second, .unset, .unset, .unset, .unset, .unset, .unset, .unset, .unset, .unset, .unset, .unset, .unset, .unset, .unset] [(.long im1)])) rfl (hb hby at_226) _ ?_
    show own_S p e below T25 m 229 #[own_lv p1, .second, iv q1, own_lv p2, .second, iv q2, iv fl, rv a2, rv a4, iv no1, iv no2, iv sec, own_lv im1, .second, own_lv im2, .second, iv ti1, iv ti2, rv a20, iv ill, own_lv n1, .second, own_lv n2, .second, own_lv tm, .second, own_lv hg, .second, .unset, .unset, .unset, .unset, .unset, .unset, .unset, .unset, .unset, .unset, .unset, .unset, .unset, .unset] [(.long (4294967295 : Int64)), (.long im1)] _
    refine XS.land X25.here hx rfl (hb hby at_229) rfl ?_
    show own_S p e below T25 m 230 #[own_lv p1, .second, iv q1, own_lv p2, .second, iv q2, iv fl, rv a2, rv a4, iv no1, iv no2, iv sec, own_lv im1, .second, own_lv im2, .second, iv ti1, iv ti2, rv a20, iv ill, own_lv n1, .second, own_lv n2, .second, own_lv tm, .second, own_lv hg, .second, .unset, .unset, .unset, .unset, .unset, .unset, .unset, .unset, .unset, .unset, .unset, .unset, .unset, .unset] [(.long (im1 &&& (4294967295 : Int64)))] _
    refine XS.lload X25.here hx rfl (hb hby at_230) rfl ?_
    show own_S p e below T25 m 232 #[own_lv p1, .second, iv q1, own_lv p2, .second, iv q2, iv fl, rv a2, rv a4, iv no1, iv no2, iv sec, own_lv im1, .second, own_lv im2, .second, iv ti1, iv ti2, rv a20, iv ill, own_lv n1, .second, own_lv n2, .second, own_lv tm, .second, own_lv hg, .second, .unset, .unset, .unset, .unset, .unset, .unset, .unset, .unset, .unset, .unset, .unset, .unset, .unset, .unset] [(.long n1), (.long (im1 &&& (4294967295 : Int64)))] _
    refine XS.lmul X25.here hx rfl (hb hby at_232) rfl ?_
    show own_S p e below T25 m 233 #[own_lv p1, .second, iv q1, own_lv p2, .second, iv q2, iv fl, rv a2, rv a4, iv no1, iv no2, iv sec, own_lv im1, .second, own_lv im2, .second, iv ti1, iv ti2, rv a20, iv ill, own_lv n1, .second, own_lv n2, .second, own_lv tm, .second, own_lv hg, .second, .unset, .unset, .unset, .unset, .unset, .unset, .unset, .unset, .unset, .unset, .unset, .unset, .unset, .unset] [(.long ((im1 &&& (4294967295 : Int64)) * n1))] _
    refine XS.lload X25.here hx rfl (hb hby at_233) rfl ?_
    show own_S p e below T25 m 235 #[own_lv p1, .second, iv q1, own_lv p2, .second, iv q2, iv fl, rv a2, rv a4, iv no1, iv no2, iv sec, own_lv im1, .second, own_lv im2, .second, iv ti1, iv ti2, rv a20, iv ill, own_lv n1, .second, own_lv n2, .second, own_lv tm, .second, own_lv hg, .second, .unset, .unset, .unset, .unset, .unset, .unset, .unset, .unset, .unset, .unset, .unset, .unset, .unset, .unset] [(.long im2), (.long ((im1 &&& (4294967295 : Int64)) * n1))] _
    refine X25.ldc2Long hx hown (mvT hZ (hw _ (List.mem_of_getElem? (i := 31) rfl))) (g := (mkF m 235 #[own_lv p1, .second, iv q1, own_lv p2, .second, iv q2, iv fl, rv a2, rv a4, iv no1, iv no2, iv sec, own_lv im1, .second, own_lv im2, .second, iv ti1, iv ti2, rv a20, iv ill, own_lv n1, .second, own_lv n2, .second, own_lv tm, .second, own_lv hg, .second, .unset, .unset, .unset, .unset, .unset, .unset, .unset, .unset, .unset, .unset, .unset, .unset, .unset, .unset] [(.long im2), (.long ((im1 &&& (4294967295 : Int64)) * n1))])) rfl (hb hby at_235) _ ?_
    show own_S p e below T25 m 238 #[own_lv p1, .second, iv q1, own_lv p2, .second, iv q2, iv fl, rv a2, rv a4, iv no1, iv no2, iv sec, own_lv im1, .second, own_lv im2, .second, iv ti1, iv ti2, rv a20, iv ill, own_lv n1, .second, own_lv n2, .second, own_lv tm, .second, own_lv hg, .second, .unset, .unset, .unset, .unset, .unset, .unset, .unset, .unset, .unset, .unset, .unset, .unset, .unset, .unset] [(.long (4294967295 : Int64)), (.long im2), (.long ((im1 &&& (4294967295 : Int64)) * n1))] _
    refine XS.land X25.here hx rfl (hb hby at_238) rfl ?_
    show own_S p e below T25 m 239 #[own_lv p1, .second, iv q1, own_lv p2, .second, iv q2, iv fl, rv a2, rv a4, iv no1, iv no2, iv sec, own_lv im1, .second, own_lv im2, .second, iv ti1, iv ti2, rv a20, iv ill, own_lv n1, .second, own_lv n2, .second, own_lv tm, .second, own_lv hg, .second, .unset, .unset, .unset, .unset, .unset, .unset, .unset, .unset, .unset, .unset, .unset, .unset, .unset, .unset] [(.long (im2 &&& (4294967295 : Int64))), (.long ((im1 &&& (4294967295 : Int64)) * n1))] _
    refine XS.lload X25.here hx rfl (hb hby at_239) rfl ?_
    show own_S p e below T25 m 241 #[own_lv p1, .second, iv q1, own_lv p2, .second, iv q2, iv fl, rv a2, rv a4, iv no1, iv no2, iv sec, own_lv im1, .second, own_lv im2, .second, iv ti1, iv ti2, rv a20, iv ill, own_lv n1, .second, own_lv n2, .second, own_lv tm, .second, own_lv hg, .second, .unset, .unset, .unset, .unset, .unset, .unset, .unset, .unset, .unset, .unset, .unset, .unset, .unset, .unset] [(.long n2), (.long (im2 &&& (4294967295 : Int64))), (.long ((im1 &&& (4294967295 : Int64)) * n1))] _
    refine XS.lmul X25.here hx rfl (hb hby at_241) rfl ?_
    show own_S p e below T25 m 242 #[own_lv p1, .second, iv q1, own_lv p2, .second, iv q2, iv fl, rv a2, rv a4, iv no1, iv no2, iv sec, own_lv im1, .second, own_lv im2, .second, iv ti1, iv ti2, rv a20, iv ill, own_lv n1, .second, own_lv n2, .second, own_lv tm, .second, own_lv hg, .second, .unset, .unset, .unset, .unset, .unset, .unset, .unset, .unset, .unset, .unset, .unset, .unset, .unset, .unset] [(.long ((im2 &&& (4294967295 : Int64)) * n2)), (.long ((im1 &&& (4294967295 : Int64)) * n1))] _
    refine XS.ladd X25.here hx rfl (hb hby at_242) rfl ?_
    show own_S p e below T25 m 243 #[own_lv p1, .second, iv q1, own_lv p2, .second, iv q2, iv fl, rv a2, rv a4, iv no1, iv no2, iv sec, own_lv im1, .second, own_lv im2, .second, iv ti1, iv ti2, rv a20, iv ill, own_lv n1, .second, own_lv n2, .second, own_lv tm, .second, own_lv hg, .second, .unset, .unset, .unset, .unset, .unset, .unset, .unset, .unset, .unset, .unset, .unset, .unset, .unset, .unset] [(.long (((im1 &&& (4294967295 : Int64)) * n1) + ((im2 &&& (4294967295 : Int64)) * n2)))] _
    refine XS.lstore X25.here hx rfl (hb hby at_243) rfl (l' := #[own_lv p1, .second, iv q1, own_lv p2, .second, iv q2, iv fl, rv a2, rv a4, iv no1, iv no2, iv sec, own_lv im1, .second, own_lv im2, .second, iv ti1, iv ti2, rv a20, iv ill, own_lv n1, .second, own_lv n2, .second, own_lv tm, .second, own_lv hg, .second, own_lv (((im1 &&& (4294967295 : Int64)) * n1) + ((im2 &&& (4294967295 : Int64)) * n2)), .second, .unset, .unset, .unset, .unset, .unset, .unset, .unset, .unset, .unset, .unset, .unset, .unset]) rfl ?_
    show own_S p e below T25 m 245 #[own_lv p1, .second, iv q1, own_lv p2, .second, iv q2, iv fl, rv a2, rv a4, iv no1, iv no2, iv sec, own_lv im1, .second, own_lv im2, .second, iv ti1, iv ti2, rv a20, iv ill, own_lv n1, .second, own_lv n2, .second, own_lv tm, .second, own_lv hg, .second, own_lv (((im1 &&& (4294967295 : Int64)) * n1) + ((im2 &&& (4294967295 : Int64)) * n2)), .second, .unset, .unset, .unset, .unset, .unset, .unset, .unset, .unset, .unset, .unset, .unset, .unset] [] _
    rw [hlo] at kt
    exact kt
  refine own_st sg43 ?_
  obtain ⟨wh, hwh⟩ : ∃ z : Int64, z = (hg + ((lo.toUInt64 >>> ((32 : Int32) &&& 0x3f).toInt64.toUInt64).toInt64)) := ⟨_, rfl⟩
  obtain ⟨be, hbe⟩ : ∃ z : Int64, z = (lo &&& (4294967295 : Int64)) := ⟨_, rfl⟩
  have sg44 : own_V p e below T25 (mkF m 268 #[own_lv p1, .second, iv q1, own_lv p2, .second, iv q2, iv fl, rv a2, rv a4, iv no1, iv no2, iv sec, own_lv im1, .second, own_lv im2, .second, iv ti1, iv ti2, rv a20, iv ill, own_lv n1, .second, own_lv n2, .second, own_lv tm, .second, own_lv hg, .second, own_lv lo, .second, own_lv wh, .second, own_lv be, .second, own_lv (2147483648 : Int64), .second, .unset, .unset, .unset, .unset, .unset, .unset] []) (mkF m 245 #[own_lv p1, .second, iv q1, own_lv p2, .second, iv q2, iv fl, rv a2, rv a4, iv no1, iv no2, iv sec, own_lv im1, .second, own_lv im2, .second, iv ti1, iv ti2, rv a20, iv ill, own_lv n1, .second, own_lv n2, .second, own_lv tm, .second, own_lv hg, .second, own_lv lo, .second, .unset, .unset, .unset, .unset, .unset, .unset, .unset, .unset, .unset, .unset, .unset, .unset] []) := by
    intro t kt
    refine XS.lload X25.here hx rfl (hb hby at_245) rfl ?_
    show own_S p e below T25 m 247 #[own_lv p1, .second, iv q1, own_lv p2, .second, iv q2, iv fl, rv a2, rv a4, iv no1, iv no2, iv sec, own_lv im1, .second, own_lv im2, .second, iv ti1, iv ti2, rv a20, iv ill, own_lv n1, .second, own_lv n2, .second, own_lv tm, .second, own_lv hg, .second, own_lv lo, .second, .unset, .unset, .unset, .unset, .unset, .unset, .unset, .unset, .unset, .unset, .unset, .unset] [(.long hg)] _
    refine XS.lload X25.here hx rfl (hb hby at_247) rfl ?_
    show own_S p e below T25 m 249 #[own_lv p1, .second, iv q1, own_lv p2, .second, iv q2, iv fl, rv a2, rv a4, iv no1, iv no2, iv sec, own_lv im1, .second, own_lv im2, .second, iv ti1, iv ti2, rv a20, iv ill, own_lv n1, .second, own_lv n2, .second, own_lv tm, .second, own_lv hg, .second, own_lv lo, .second, .unset, .unset, .unset, .unset, .unset, .unset, .unset, .unset, .unset, .unset, .unset, .unset] [(.long lo), (.long hg)] _
    refine XS.bipush X25.here hx rfl (hb hby at_249) ?_
    show own_S p e below T25 m 251 #[own_lv p1, .second, iv q1, own_lv p2, .second, iv q2, iv fl, rv a2, rv a4, iv no1, iv no2, iv sec, own_lv im1, .second, own_lv im2, .second, iv ti1, iv ti2, rv a20, iv ill, own_lv n1, .second, own_lv n2, .second, own_lv tm, .second, own_lv hg, .second, own_lv lo, .second, .unset, .unset, .unset, .unset, .unset, .unset, .unset, .unset, .unset, .unset, .unset, .unset] [(.int (32 : Int32)), (.long lo), (.long hg)] _
    refine XS.lushr X25.here hx rfl (hb hby at_251) rfl ?_
    show own_S p e below T25 m 252 #[own_lv p1, .second, iv q1, own_lv p2, .second, iv q2, iv fl, rv a2, rv a4, iv no1, iv no2, iv sec, own_lv im1, .second, own_lv im2, .second, iv ti1, iv ti2, rv a20, iv ill, own_lv n1, .second, own_lv n2, .second, own_lv tm, .second, own_lv hg, .second, own_lv lo, .second, .unset, .unset, .unset, .unset, .unset, .unset, .unset, .unset, .unset, .unset, .unset, .unset] [(.long ((lo.toUInt64 >>> ((32 : Int32) &&& 0x3f).toInt64.toUInt64).toInt64)), (.long hg)] _
    refine XS.ladd X25.here hx rfl (hb hby at_252) rfl ?_
    show own_S p e below T25 m 253 #[own_lv p1, .second, iv q1, own_lv p2, .second, iv q2, iv fl, rv a2, rv a4, iv no1, iv no2, iv sec, own_lv im1, .second, own_lv im2, .second, iv ti1, iv ti2, rv a20, iv ill, own_lv n1, .second, own_lv n2, .second, own_lv tm, .second, own_lv hg, .second, own_lv lo, .second, .unset, .unset, .unset, .unset, .unset, .unset, .unset, .unset, .unset, .unset, .unset, .unset] [(.long (hg + ((lo.toUInt64 >>> ((32 : Int32) &&& 0x3f).toInt64.toUInt64).toInt64)))] _
    refine XS.lstore X25.here hx rfl (hb hby at_253) rfl (l' := #[own_lv p1, .second, iv q1, own_lv p2, .second, iv q2, iv fl, rv a2, rv a4, iv no1, iv no2, iv sec, own_lv im1, .second, own_lv im2, .second, iv ti1, iv ti2, rv a20, iv ill, own_lv n1, .second, own_lv n2, .second, own_lv tm, .second, own_lv hg, .second, own_lv lo, .second, own_lv (hg + ((lo.toUInt64 >>> ((32 : Int32) &&& 0x3f).toInt64.toUInt64).toInt64)), .second, .unset, .unset, .unset, .unset, .unset, .unset, .unset, .unset, .unset, .unset]) rfl ?_
    show own_S p e below T25 m 255 #[own_lv p1, .second, iv q1, own_lv p2, .second, iv q2, iv fl, rv a2, rv a4, iv no1, iv no2, iv sec, own_lv im1, .second, own_lv im2, .second, iv ti1, iv ti2, rv a20, iv ill, own_lv n1, .second, own_lv n2, .second, own_lv tm, .second, own_lv hg, .second, own_lv lo, .second, own_lv (hg + ((lo.toUInt64 >>> ((32 : Int32) &&& 0x3f).toInt64.toUInt64).toInt64)), .second, .unset, .unset, .unset, .unset, .unset, .unset, .unset, .unset, .unset, .unset] [] _
    refine XS.lload X25.here hx rfl (hb hby at_255) rfl ?_
    show own_S p e below T25 m 257 #[own_lv p1, .second, iv q1, own_lv p2, .second, iv q2, iv fl, rv a2, rv a4, iv no1, iv no2, iv sec, own_lv im1, .second, own_lv im2, .second, iv ti1, iv ti2, rv a20, iv ill, own_lv n1, .second, own_lv n2, .second, own_lv tm, .second, own_lv hg, .second, own_lv lo, .second, own_lv (hg + ((lo.toUInt64 >>> ((32 : Int32) &&& 0x3f).toInt64.toUInt64).toInt64)), .second, .unset, .unset, .unset, .unset, .unset, .unset, .unset, .unset, .unset, .unset] [(.long lo)] _
    refine X25.ldc2Long hx hown (mvT hZ (hw _ (List.mem_of_getElem? (i := 31) rfl))) (g := (mkF m 257 #[own_lv p1, .second, iv q1, own_lv p2, .second, iv q2, iv fl, rv a2, rv a4, iv no1, iv no2, iv sec, own_lv im1, .second, own_lv im2, .second, iv ti1, iv ti2, rv a20, iv ill, own_lv n1, .second, own_lv n2, .second, own_lv tm, .second, own_lv hg, .second, own_lv lo, .second, own_lv (hg + ((lo.toUInt64 >>> ((32 : Int32) &&& 0x3f).toInt64.toUInt64).toInt64)), .second, .unset, .unset, .unset, .unset, .unset, .unset, .unset, .unset, .unset, .unset] [(.long lo)])) rfl (hb hby at_257) _ ?_
    show own_S p e below T25 m 260 #[own_lv p1, .second, iv q1, own_lv p2, .second, iv q2, iv fl, rv a2, rv a4, iv no1, iv no2, iv sec, own_lv im1, .second, own_lv im2, .second, iv ti1, iv ti2, rv a20, iv ill, own_lv n1, .second, own_lv n2, .second, own_lv tm, .second, own_lv hg, .second, own_lv lo, .second, own_lv (hg + ((lo.toUInt64 >>> ((32 : Int32) &&& 0x3f).toInt64.toUInt64).toInt64)), .second, .unset, .unset, .unset, .unset, .unset, .unset, .unset, .unset, .unset, .unset] [(.long (4294967295 : Int64)), (.long lo)] _
    refine XS.land X25.here hx rfl (hb hby at_260) rfl ?_
    show own_S p e below T25 m 261 #[own_lv p1, .second, iv q1, own_lv p2, .second, iv q2, iv fl, rv a2, rv a4, iv no1, iv no2, iv sec, own_lv im1, .second, own_lv im2, .second, iv ti1, iv ti2, rv a20, iv ill, own_lv n1, .second, own_lv n2, .second, own_lv tm, .second, own_lv hg, .second, own_lv lo, .second, own_lv (hg + ((lo.toUInt64 >>> ((32 : Int32) &&& 0x3f).toInt64.toUInt64).toInt64)), .second, .unset, .unset, .unset, .unset, .unset, .unset, .unset, .unset, .unset, .unset] [(.long (lo &&& (4294967295 : Int64)))] _
    refine XS.lstore X25.here hx rfl (hb hby at_261) rfl (l' := #[own_lv p1, .second, iv q1, own_lv p2, .second, iv q2, iv fl, rv a2, rv a4, iv no1, iv no2, iv sec, own_lv im1, .second, own_lv im2, .second, iv ti1, iv ti2, rv a20, iv ill, own_lv n1, .second, own_lv n2, .second, own_lv tm, .second, own_lv hg, .second, own_lv lo, .second, own_lv (hg + ((lo.toUInt64 >>> ((32 : Int32) &&& 0x3f).toInt64.toUInt64).toInt64)), .second, own_lv (lo &&& (4294967295 : Int64)), .second, .unset, .unset, .unset, .unset, .unset, .unset, .unset, .unset]) rfl ?_
    show own_S p e below T25 m 263 #[own_lv p1, .second, iv q1, own_lv p2, .second, iv q2, iv fl, rv a2, rv a4, iv no1, iv no2, iv sec, own_lv im1, .second, own_lv im2, .second, iv ti1, iv ti2, rv a20, iv ill, own_lv n1, .second, own_lv n2, .second, own_lv tm, .second, own_lv hg, .second, own_lv lo, .second, own_lv (hg + ((lo.toUInt64 >>> ((32 : Int32) &&& 0x3f).toInt64.toUInt64).toInt64)), .second, own_lv (lo &&& (4294967295 : Int64)), .second, .unset, .unset, .unset, .unset, .unset, .unset, .unset, .unset] [] _
    refine X25.ldc2Long hx hown (mvT hZ (hw _ (List.mem_of_getElem? (i := 32) rfl))) (g := (mkF m 263 #[own_lv p1, .second, iv q1, own_lv p2, .second, iv q2, iv fl, rv a2, rv a4, iv no1, iv no2, iv sec, own_lv im1, .second, own_lv im2, .second, iv ti1, iv ti2, rv a20, iv ill, own_lv n1, .second, own_lv n2, .second, own_lv tm, .second, own_lv hg, .second, own_lv lo, .second, own_lv (hg + ((lo.toUInt64 >>> ((32 : Int32) &&& 0x3f).toInt64.toUInt64).toInt64)), .second, own_lv (lo &&& (4294967295 : Int64)), .second, .unset, .unset, .unset, .unset, .unset, .unset, .unset, .unset] [])) rfl (hb hby at_263) _ ?_
    show own_S p e below T25 m 266 #[own_lv p1, .second, iv q1, own_lv p2, .second, iv q2, iv fl, rv a2, rv a4, iv no1, iv no2, iv sec, own_lv im1, .second, own_lv im2, .second, iv ti1, iv ti2, rv a20, iv ill, own_lv n1, .second, own_lv n2, .second, own_lv tm, .second, own_lv hg, .second, own_lv lo, .second, own_lv (hg + ((lo.toUInt64 >>> ((32 : Int32) &&& 0x3f).toInt64.toUInt64).toInt64)), .second, own_lv (lo &&& (4294967295 : Int64)), .second, .unset, .unset, .unset, .unset, .unset, .unset, .unset, .unset] [(.long (2147483648 : Int64))] _
    refine XS.lstore X25.here hx rfl (hb hby at_266) rfl (l' := #[own_lv p1, .second, iv q1, own_lv p2, .second, iv q2, iv fl, rv a2, rv a4, iv no1, iv no2, iv sec, own_lv im1, .second, own_lv im2, .second, iv ti1, iv ti2, rv a20, iv ill, own_lv n1, .second, own_lv n2, .second, own_lv tm, .second, own_lv hg, .second, own_lv lo, .second, own_lv (hg + ((lo.toUInt64 >>> ((32 : Int32) &&& 0x3f).toInt64.toUInt64).toInt64)), .second, own_lv (lo &&& (4294967295 : Int64)), .second, own_lv (2147483648 : Int64), .second, .unset, .unset, .unset, .unset, .unset, .unset]) rfl ?_
    show own_S p e below T25 m 268 #[own_lv p1, .second, iv q1, own_lv p2, .second, iv q2, iv fl, rv a2, rv a4, iv no1, iv no2, iv sec, own_lv im1, .second, own_lv im2, .second, iv ti1, iv ti2, rv a20, iv ill, own_lv n1, .second, own_lv n2, .second, own_lv tm, .second, own_lv hg, .second, own_lv lo, .second, own_lv (hg + ((lo.toUInt64 >>> ((32 : Int32) &&& 0x3f).toInt64.toUInt64).toInt64)), .second, own_lv (lo &&& (4294967295 : Int64)), .second, own_lv (2147483648 : Int64), .second, .unset, .unset, .unset, .unset, .unset, .unset] [] _
    rw [hwh] at kt
    rw [hbe] at kt
    exact kt
  refine own_st sg44 ?_
  obtain ⟨his, hhis⟩ : ∃ z : Int32, z = (if (2147483648 : Int64) < be then (0 : Int32) else (if (2147483648 : Int64) < (be + tm) then (1 : Int32) else (0 : Int32))) := ⟨_, rfl⟩
  have sg47 : own_V p e below T25 (mkF m 292 #[own_lv p1, .second, iv q1, own_lv p2, .second, iv q2, iv fl, rv a2, rv a4, iv no1, iv no2, iv sec, own_lv im1, .second, own_lv im2, .second, iv ti1, iv ti2, rv a20, iv ill, own_lv n1, .second, own_lv n2, .second, own_lv tm, .second, own_lv hg, .second, own_lv lo, .second, own_lv wh, .second, own_lv be, .second, own_lv (2147483648 : Int64), .second, .unset, .unset, .unset, .unset, .unset, .unset] [(.int his)]) (mkF m 268 #[own_lv p1, .second, iv q1, own_lv p2, .second, iv q2, iv fl, rv a2, rv a4, iv no1, iv no2, iv sec, own_lv im1, .second, own_lv im2, .second, iv ti1, iv ti2, rv a20, iv ill, own_lv n1, .second, own_lv n2, .second, own_lv tm, .second, own_lv hg, .second, own_lv lo, .second, own_lv wh, .second, own_lv be, .second, own_lv (2147483648 : Int64), .second, .unset, .unset, .unset, .unset, .unset, .unset] []) := by
    intro t kt
    refine XS.lload X25.here hx rfl (hb hby at_268) rfl ?_
    show own_S p e below T25 m 270 #[own_lv p1, .second, iv q1, own_lv p2, .second, iv q2, iv fl, rv a2, rv a4, iv no1, iv no2, iv sec, own_lv im1, .second, own_lv im2, .second, iv ti1, iv ti2, rv a20, iv ill, own_lv n1, .second, own_lv n2, .second, own_lv tm, .second, own_lv hg, .second, own_lv lo, .second, own_lv wh, .second, own_lv be, .second, own_lv (2147483648 : Int64), .second, .unset, .unset, .unset, .unset, .unset, .unset] [(.long be)] _
    refine XS.lload X25.here hx rfl (hb hby at_270) rfl ?_
    show own_S p e below T25 m 272 #[own_lv p1, .second, iv q1, own_lv p2, .second, iv q2, iv fl, rv a2, rv a4, iv no1, iv no2, iv sec, own_lv im1, .second, own_lv im2, .second, iv ti1, iv ti2, rv a20, iv ill, own_lv n1, .second, own_lv n2, .second, own_lv tm, .second, own_lv hg, .second, own_lv lo, .second, own_lv wh, .second, own_lv be, .second, own_lv (2147483648 : Int64), .second, .unset, .unset, .unset, .unset, .unset, .unset] [(.long (2147483648 : Int64)), (.long be)] _
    refine XS.lcmp X25.here hx rfl (hb hby at_272) rfl ?_
    show own_S p e below T25 m 273 #[own_lv p1, .second, iv q1, own_lv p2, .second, iv q2, iv fl, rv a2, rv a4, iv no1, iv no2, iv sec, own_lv im1, .second, own_lv im2, .second, iv ti1, iv ti2, rv a20, iv ill, own_lv n1, .second, own_lv n2, .second, own_lv tm, .second, own_lv hg, .second, own_lv lo, .second, own_lv wh, .second, own_lv be, .second, own_lv (2147483648 : Int64), .second, .unset, .unset, .unset, .unset, .unset, .unset] [(.int (lcmpW be (2147483648 : Int64)))] _
    by_cases hc45 : (2147483648 : Int64) < be
    · refine XS.ifYes X25.here hx rfl (pc0 := 273) (pc' := 291) rfl (hb hby at_273) rfl (own_tgtL hc45).1 (by decide) (by decide) ?_
      show own_S p e below T25 m 291 #[own_lv p1, .second, iv q1, own_lv p2, .second, iv q2, iv fl, rv a2, rv a4, iv no1, iv no2, iv sec, own_lv im1, .second, own_lv im2, .second, iv ti1, iv ti2, rv a20, iv ill, own_lv n1, .second, own_lv n2, .second, own_lv tm, .second, own_lv hg, .second, own_lv lo, .second, own_lv wh, .second, own_lv be, .second, own_lv (2147483648 : Int64), .second, .unset, .unset, .unset, .unset, .unset, .unset] [] _
      refine XS.iconst X25.here hx rfl (hb hby at_291) ?_
      show own_S p e below T25 m 292 #[own_lv p1, .second, iv q1, own_lv p2, .second, iv q2, iv fl, rv a2, rv a4, iv no1, iv no2, iv sec, own_lv im1, .second, own_lv im2, .second, iv ti1, iv ti2, rv a20, iv ill, own_lv n1, .second, own_lv n2, .second, own_lv tm, .second, own_lv hg, .second, own_lv lo, .second, own_lv wh, .second, own_lv be, .second, own_lv (2147483648 : Int64), .second, .unset, .unset, .unset, .unset, .unset, .unset] [(.int (0 : Int32))] _
      rw [show his = (0 : Int32) from by rw [hhis, if_pos hc45]] at kt
      exact kt
    · refine XS.ifNo X25.here hx rfl (hb hby at_273) rfl (own_fgtL hc45).1 ?_
      show own_S p e below T25 m 276 #[own_lv p1, .second, iv q1, own_lv p2, .second, iv q2, iv fl, rv a2, rv a4, iv no1, iv no2, iv sec, own_lv im1, .second, own_lv im2, .second, iv ti1, iv ti2, rv a20, iv ill, own_lv n1, .second, own_lv n2, .second, own_lv tm, .second, own_lv hg, .second, own_lv lo, .second, own_lv wh, .second, own_lv be, .second, own_lv (2147483648 : Int64), .second, .unset, .unset, .unset, .unset, .unset, .unset] [] _
      refine XS.lload X25.here hx rfl (hb hby at_276) rfl ?_
      show own_S p e below T25 m 278 #[own_lv p1, .second, iv q1, own_lv p2, .second, iv q2, iv fl, rv a2, rv a4, iv no1, iv no2, iv sec, own_lv im1, .second, own_lv im2, .second, iv ti1, iv ti2, rv a20, iv ill, own_lv n1, .second, own_lv n2, .second, own_lv tm, .second, own_lv hg, .second, own_lv lo, .second, own_lv wh, .second, own_lv be, .second, own_lv (2147483648 : Int64), .second, .unset, .unset, .unset, .unset, .unset, .unset] [(.long (2147483648 : Int64))] _
      refine XS.lload X25.here hx rfl (hb hby at_278) rfl ?_
      show own_S p e below T25 m 280 #[own_lv p1, .second, iv q1, own_lv p2, .second, iv q2, iv fl, rv a2, rv a4, iv no1, iv no2, iv sec, own_lv im1, .second, own_lv im2, .second, iv ti1, iv ti2, rv a20, iv ill, own_lv n1, .second, own_lv n2, .second, own_lv tm, .second, own_lv hg, .second, own_lv lo, .second, own_lv wh, .second, own_lv be, .second, own_lv (2147483648 : Int64), .second, .unset, .unset, .unset, .unset, .unset, .unset] [(.long be), (.long (2147483648 : Int64))] _
      refine XS.lload X25.here hx rfl (hb hby at_280) rfl ?_
      show own_S p e below T25 m 282 #[own_lv p1, .second, iv q1, own_lv p2, .second, iv q2, iv fl, rv a2, rv a4, iv no1, iv no2, iv sec, own_lv im1, .second, own_lv im2, .second, iv ti1, iv ti2, rv a20, iv ill, own_lv n1, .second, own_lv n2, .second, own_lv tm, .second, own_lv hg, .second, own_lv lo, .second, own_lv wh, .second, own_lv be, .second, own_lv (2147483648 : Int64), .second, .unset, .unset, .unset, .unset, .unset, .unset] [(.long tm), (.long be), (.long (2147483648 : Int64))] _
      refine XS.ladd X25.here hx rfl (hb hby at_282) rfl ?_
      show own_S p e below T25 m 283 #[own_lv p1, .second, iv q1, own_lv p2, .second, iv q2, iv fl, rv a2, rv a4, iv no1, iv no2, iv sec, own_lv im1, .second, own_lv im2, .second, iv ti1, iv ti2, rv a20, iv ill, own_lv n1, .second, own_lv n2, .second, own_lv tm, .second, own_lv hg, .second, own_lv lo, .second, own_lv wh, .second, own_lv be, .second, own_lv (2147483648 : Int64), .second, .unset, .unset, .unset, .unset, .unset, .unset] [(.long (be + tm)), (.long (2147483648 : Int64))] _
      refine XS.lcmp X25.here hx rfl (hb hby at_283) rfl ?_
      show own_S p e below T25 m 284 #[own_lv p1, .second, iv q1, own_lv p2, .second, iv q2, iv fl, rv a2, rv a4, iv no1, iv no2, iv sec, own_lv im1, .second, own_lv im2, .second, iv ti1, iv ti2, rv a20, iv ill, own_lv n1, .second, own_lv n2, .second, own_lv tm, .second, own_lv hg, .second, own_lv lo, .second, own_lv wh, .second, own_lv be, .second, own_lv (2147483648 : Int64), .second, .unset, .unset, .unset, .unset, .unset, .unset] [(.int (lcmpW (2147483648 : Int64) (be + tm)))] _
      by_cases hc46 : (2147483648 : Int64) < (be + tm)
      · refine XS.ifNo X25.here hx rfl (hb hby at_284) rfl (own_tltL hc46).2 ?_
        show own_S p e below T25 m 287 #[own_lv p1, .second, iv q1, own_lv p2, .second, iv q2, iv fl, rv a2, rv a4, iv no1, iv no2, iv sec, own_lv im1, .second, own_lv im2, .second, iv ti1, iv ti2, rv a20, iv ill, own_lv n1, .second, own_lv n2, .second, own_lv tm, .second, own_lv hg, .second, own_lv lo, .second, own_lv wh, .second, own_lv be, .second, own_lv (2147483648 : Int64), .second, .unset, .unset, .unset, .unset, .unset, .unset] [] _
        refine XS.iconst X25.here hx rfl (hb hby at_287) ?_
        show own_S p e below T25 m 288 #[own_lv p1, .second, iv q1, own_lv p2, .second, iv q2, iv fl, rv a2, rv a4, iv no1, iv no2, iv sec, own_lv im1, .second, own_lv im2, .second, iv ti1, iv ti2, rv a20, iv ill, own_lv n1, .second, own_lv n2, .second, own_lv tm, .second, own_lv hg, .second, own_lv lo, .second, own_lv wh, .second, own_lv be, .second, own_lv (2147483648 : Int64), .second, .unset, .unset, .unset, .unset, .unset, .unset] [(.int (1 : Int32))] _
        refine XS.goto X25.here hx rfl (pc0 := 288) (pc' := 292) rfl (hb hby at_288) (by decide) (by decide) ?_
        show own_S p e below T25 m 292 #[own_lv p1, .second, iv q1, own_lv p2, .second, iv q2, iv fl, rv a2, rv a4, iv no1, iv no2, iv sec, own_lv im1, .second, own_lv im2, .second, iv ti1, iv ti2, rv a20, iv ill, own_lv n1, .second, own_lv n2, .second, own_lv tm, .second, own_lv hg, .second, own_lv lo, .second, own_lv wh, .second, own_lv be, .second, own_lv (2147483648 : Int64), .second, .unset, .unset, .unset, .unset, .unset, .unset] [(.int (1 : Int32))] _
        rw [show his = (1 : Int32) from by rw [hhis, if_neg hc45, if_pos hc46]] at kt
        exact kt
      · refine XS.ifYes X25.here hx rfl (pc0 := 284) (pc' := 291) rfl (hb hby at_284) rfl (own_fltL hc46).2 (by decide) (by decide) ?_
        show own_S p e below T25 m 291 #[own_lv p1, .second, iv q1, own_lv p2, .second, iv q2, iv fl, rv a2, rv a4, iv no1, iv no2, iv sec, own_lv im1, .second, own_lv im2, .second, iv ti1, iv ti2, rv a20, iv ill, own_lv n1, .second, own_lv n2, .second, own_lv tm, .second, own_lv hg, .second, own_lv lo, .second, own_lv wh, .second, own_lv be, .second, own_lv (2147483648 : Int64), .second, .unset, .unset, .unset, .unset, .unset, .unset] [] _
        refine XS.iconst X25.here hx rfl (hb hby at_291) ?_
        show own_S p e below T25 m 292 #[own_lv p1, .second, iv q1, own_lv p2, .second, iv q2, iv fl, rv a2, rv a4, iv no1, iv no2, iv sec, own_lv im1, .second, own_lv im2, .second, iv ti1, iv ti2, rv a20, iv ill, own_lv n1, .second, own_lv n2, .second, own_lv tm, .second, own_lv hg, .second, own_lv lo, .second, own_lv wh, .second, own_lv be, .second, own_lv (2147483648 : Int64), .second, .unset, .unset, .unset, .unset, .unset, .unset] [(.int (0 : Int32))] _
        rw [show his = (0 : Int32) from by rw [hhis, if_neg hc45, if_neg hc46]] at kt
        exact kt
  refine own_st sg47 ?_
  obtain ⟨ex, hex⟩ : ∃ z : Int32, z = (if ill = (0 : Int32) then (if (1073741824 : Int64) < tm then (0 : Int32) else (if his = (0 : Int32) then (1 : Int32) else (0 : Int32))) else (0 : Int32)) := ⟨_, rfl⟩
  have sg51 : own_V p e below T25 (mkF m 318 #[own_lv p1, .second, iv q1, own_lv p2, .second, iv q2, iv fl, rv a2, rv a4, iv no1, iv no2, iv sec, own_lv im1, .second, own_lv im2, .second, iv ti1, iv ti2, rv a20, iv ill, own_lv n1, .second, own_lv n2, .second, own_lv tm, .second, own_lv hg, .second, own_lv lo, .second, own_lv wh, .second, own_lv be, .second, own_lv (2147483648 : Int64), .second, iv his, .unset, .unset, .unset, .unset, .unset] [(.int ex)]) (mkF m 292 #[own_lv p1, .second, iv q1, own_lv p2, .second, iv q2, iv fl, rv a2, rv a4, iv no1, iv no2, iv sec, own_lv im1, .second, own_lv im2, .second, iv ti1, iv ti2, rv a20, iv ill, own_lv n1, .second, own_lv n2, .second, own_lv tm, .second, own_lv hg, .second, own_lv lo, .second, own_lv wh, .second, own_lv be, .second, own_lv (2147483648 : Int64), .second, .unset, .unset, .unset, .unset, .unset, .unset] [(.int his)]) := by
    intro t kt
    refine XS.istore X25.here hx rfl (hb hby at_292) rfl (l' := #[own_lv p1, .second, iv q1, own_lv p2, .second, iv q2, iv fl, rv a2, rv a4, iv no1, iv no2, iv sec, own_lv im1, .second, own_lv im2, .second, iv ti1, iv ti2, rv a20, iv ill, own_lv n1, .second, own_lv n2, .second, own_lv tm, .second, own_lv hg, .second, own_lv lo, .second, own_lv wh, .second, own_lv be, .second, own_lv (2147483648 : Int64), .second, iv his, .unset, .unset, .unset, .unset, .unset]) rfl ?_
    show own_S p e below T25 m 294 #[own_lv p1, .second, iv q1, own_lv p2, .second, iv q2, iv fl, rv a2, rv a4, iv no1, iv no2, iv sec, own_lv im1, .second, own_lv im2, .second, iv ti1, iv ti2, rv a20, iv ill, own_lv n1, .second, own_lv n2, .second, own_lv tm, .second, own_lv hg, .second, own_lv lo, .second, own_lv wh, .second, own_lv be, .second, own_lv (2147483648 : Int64), .second, iv his, .unset, .unset, .unset, .unset, .unset] [] _
    refine XS.iload X25.here hx rfl (hb hby at_294) rfl ?_
    show own_S p e below T25 m 296 #[own_lv p1, .second, iv q1, own_lv p2, .second, iv q2, iv fl, rv a2, rv a4, iv no1, iv no2, iv sec, own_lv im1, .second, own_lv im2, .second, iv ti1, iv ti2, rv a20, iv ill, own_lv n1, .second, own_lv n2, .second, own_lv tm, .second, own_lv hg, .second, own_lv lo, .second, own_lv wh, .second, own_lv be, .second, own_lv (2147483648 : Int64), .second, iv his, .unset, .unset, .unset, .unset, .unset] [(.int ill)] _
    by_cases hc48 : ill = (0 : Int32)
    · refine XS.ifNo X25.here hx rfl (hb hby at_296) rfl ((if0 _ _).trans (teq hc48).2) ?_
      show own_S p e below T25 m 299 #[own_lv p1, .second, iv q1, own_lv p2, .second, iv q2, iv fl, rv a2, rv a4, iv no1, iv no2, iv sec, own_lv im1, .second, own_lv im2, .second, iv ti1, iv ti2, rv a20, iv ill, own_lv n1, .second, own_lv n2, .second, own_lv tm, .second, own_lv hg, .second, own_lv lo, .second, own_lv wh, .second, own_lv be, .second, own_lv (2147483648 : Int64), .second, iv his, .unset, .unset, .unset, .unset, .unset] [] _
      refine XS.lload X25.here hx rfl (hb hby at_299) rfl ?_
      show own_S p e below T25 m 301 #[own_lv p1, .second, iv q1, own_lv p2, .second, iv q2, iv fl, rv a2, rv a4, iv no1, iv no2, iv sec, own_lv im1, .second, own_lv im2, .second, iv ti1, iv ti2, rv a20, iv ill, own_lv n1, .second, own_lv n2, .second, own_lv tm, .second, own_lv hg, .second, own_lv lo, .second, own_lv wh, .second, own_lv be, .second, own_lv (2147483648 : Int64), .second, iv his, .unset, .unset, .unset, .unset, .unset] [(.long tm)] _
      refine X25.ldc2Long hx hown (mvT hZ (hw _ (List.mem_of_getElem? (i := 43) rfl))) (g := (mkF m 301 #[own_lv p1, .second, iv q1, own_lv p2, .second, iv q2, iv fl, rv a2, rv a4, iv no1, iv no2, iv sec, own_lv im1, .second, own_lv im2, .second, iv ti1, iv ti2, rv a20, iv ill, own_lv n1, .second, own_lv n2, .second, own_lv tm, .second, own_lv hg, .second, own_lv lo, .second, own_lv wh, .second, own_lv be, .second, own_lv (2147483648 : Int64), .second, iv his, .unset, .unset, .unset, .unset, .unset] [(.long tm)])) rfl (hb hby at_301) _ ?_
      show own_S p e below T25 m 304 #[own_lv p1, .second, iv q1, own_lv p2, .second, iv q2, iv fl, rv a2, rv a4, iv no1, iv no2, iv sec, own_lv im1, .second, own_lv im2, .second, iv ti1, iv ti2, rv a20, iv ill, own_lv n1, .second, own_lv n2, .second, own_lv tm, .second, own_lv hg, .second, own_lv lo, .second, own_lv wh, .second, own_lv be, .second, own_lv (2147483648 : Int64), .second, iv his, .unset, .unset, .unset, .unset, .unset] [(.long (1073741824 : Int64)), (.long tm)] _
      refine XS.lcmp X25.here hx rfl (hb hby at_304) rfl ?_
      show own_S p e below T25 m 305 #[own_lv p1, .second, iv q1, own_lv p2, .second, iv q2, iv fl, rv a2, rv a4, iv no1, iv no2, iv sec, own_lv im1, .second, own_lv im2, .second, iv ti1, iv ti2, rv a20, iv ill, own_lv n1, .second, own_lv n2, .second, own_lv tm, .second, own_lv hg, .second, own_lv lo, .second, own_lv wh, .second, own_lv be, .second, own_lv (2147483648 : Int64), .second, iv his, .unset, .unset, .unset, .unset, .unset] [(.int (lcmpW tm (1073741824 : Int64)))] _
      by_cases hc49 : (1073741824 : Int64) < tm
      · refine XS.ifYes X25.here hx rfl (pc0 := 305) (pc' := 317) rfl (hb hby at_305) rfl (own_tgtL hc49).1 (by decide) (by decide) ?_
        show own_S p e below T25 m 317 #[own_lv p1, .second, iv q1, own_lv p2, .second, iv q2, iv fl, rv a2, rv a4, iv no1, iv no2, iv sec, own_lv im1, .second, own_lv im2, .second, iv ti1, iv ti2, rv a20, iv ill, own_lv n1, .second, own_lv n2, .second, own_lv tm, .second, own_lv hg, .second, own_lv lo, .second, own_lv wh, .second, own_lv be, .second, own_lv (2147483648 : Int64), .second, iv his, .unset, .unset, .unset, .unset, .unset] [] _
        refine XS.iconst X25.here hx rfl (hb hby at_317) ?_
        show own_S p e below T25 m 318 #[own_lv p1, .second, iv q1, own_lv p2, .second, iv q2, iv fl, rv a2, rv a4, iv no1, iv no2, iv sec, own_lv im1, .second, own_lv im2, .second, iv ti1, iv ti2, rv a20, iv ill, own_lv n1, .second, own_lv n2, .second, own_lv tm, .second, own_lv hg, .second, own_lv lo, .second, own_lv wh, .second, own_lv be, .second, own_lv (2147483648 : Int64), .second, iv his, .unset, .unset, .unset, .unset, .unset] [(.int (0 : Int32))] _
        rw [show ex = (0 : Int32) from by rw [hex, if_pos hc48, if_pos hc49]] at kt
        exact kt
      · refine XS.ifNo X25.here hx rfl (hb hby at_305) rfl (own_fgtL hc49).1 ?_
        show own_S p e below T25 m 308 #[own_lv p1, .second, iv q1, own_lv p2, .second, iv q2, iv fl, rv a2, rv a4, iv no1, iv no2, iv sec, own_lv im1, .second, own_lv im2, .second, iv ti1, iv ti2, rv a20, iv ill, own_lv n1, .second, own_lv n2, .second, own_lv tm, .second, own_lv hg, .second, own_lv lo, .second, own_lv wh, .second, own_lv be, .second, own_lv (2147483648 : Int64), .second, iv his, .unset, .unset, .unset, .unset, .unset] [] _
        refine XS.iload X25.here hx rfl (hb hby at_308) rfl ?_
        show own_S p e below T25 m 310 #[own_lv p1, .second, iv q1, own_lv p2, .second, iv q2, iv fl, rv a2, rv a4, iv no1, iv no2, iv sec, own_lv im1, .second, own_lv im2, .second, iv ti1, iv ti2, rv a20, iv ill, own_lv n1, .second, own_lv n2, .second, own_lv tm, .second, own_lv hg, .second, own_lv lo, .second, own_lv wh, .second, own_lv be, .second, own_lv (2147483648 : Int64), .second, iv his, .unset, .unset, .unset, .unset, .unset] [(.int his)] _
        by_cases hc50 : his = (0 : Int32)
        · refine XS.ifNo X25.here hx rfl (hb hby at_310) rfl ((if0 _ _).trans (teq hc50).2) ?_
          show own_S p e below T25 m 313 #[own_lv p1, .second, iv q1, own_lv p2, .second, iv q2, iv fl, rv a2, rv a4, iv no1, iv no2, iv sec, own_lv im1, .second, own_lv im2, .second, iv ti1, iv ti2, rv a20, iv ill, own_lv n1, .second, own_lv n2, .second, own_lv tm, .second, own_lv hg, .second, own_lv lo, .second, own_lv wh, .second, own_lv be, .second, own_lv (2147483648 : Int64), .second, iv his, .unset, .unset, .unset, .unset, .unset] [] _
          refine XS.iconst X25.here hx rfl (hb hby at_313) ?_
          show own_S p e below T25 m 314 #[own_lv p1, .second, iv q1, own_lv p2, .second, iv q2, iv fl, rv a2, rv a4, iv no1, iv no2, iv sec, own_lv im1, .second, own_lv im2, .second, iv ti1, iv ti2, rv a20, iv ill, own_lv n1, .second, own_lv n2, .second, own_lv tm, .second, own_lv hg, .second, own_lv lo, .second, own_lv wh, .second, own_lv be, .second, own_lv (2147483648 : Int64), .second, iv his, .unset, .unset, .unset, .unset, .unset] [(.int (1 : Int32))] _
          refine XS.goto X25.here hx rfl (pc0 := 314) (pc' := 318) rfl (hb hby at_314) (by decide) (by decide) ?_
          show own_S p e below T25 m 318 #[own_lv p1, .second, iv q1, own_lv p2, .second, iv q2, iv fl, rv a2, rv a4, iv no1, iv no2, iv sec, own_lv im1, .second, own_lv im2, .second, iv ti1, iv ti2, rv a20, iv ill, own_lv n1, .second, own_lv n2, .second, own_lv tm, .second, own_lv hg, .second, own_lv lo, .second, own_lv wh, .second, own_lv be, .second, own_lv (2147483648 : Int64), .second, iv his, .unset, .unset, .unset, .unset, .unset] [(.int (1 : Int32))] _
          rw [show ex = (1 : Int32) from by rw [hex, if_pos hc48, if_neg hc49, if_pos hc50]] at kt
          exact kt
        · refine XS.ifYes X25.here hx rfl (pc0 := 310) (pc' := 317) rfl (hb hby at_310) rfl ((if0 _ _).trans (feq hc50).2) (by decide) (by decide) ?_
          show own_S p e below T25 m 317 #[own_lv p1, .second, iv q1, own_lv p2, .second, iv q2, iv fl, rv a2, rv a4, iv no1, iv no2, iv sec, own_lv im1, .second, own_lv im2, .second, iv ti1, iv ti2, rv a20, iv ill, own_lv n1, .second, own_lv n2, .second, own_lv tm, .second, own_lv hg, .second, own_lv lo, .second, own_lv wh, .second, own_lv be, .second, own_lv (2147483648 : Int64), .second, iv his, .unset, .unset, .unset, .unset, .unset] [] _
          refine XS.iconst X25.here hx rfl (hb hby at_317) ?_
          show own_S p e below T25 m 318 #[own_lv p1, .second, iv q1, own_lv p2, .second, iv q2, iv fl, rv a2, rv a4, iv no1, iv no2, iv sec, own_lv im1, .second, own_lv im2, .second, iv ti1, iv ti2, rv a20, iv ill, own_lv n1, .second, own_lv n2, .second, own_lv tm, .second, own_lv hg, .second, own_lv lo, .second, own_lv wh, .second, own_lv be, .second, own_lv (2147483648 : Int64), .second, iv his, .unset, .unset, .unset, .unset, .unset] [(.int (0 : Int32))] _
          rw [show ex = (0 : Int32) from by rw [hex, if_pos hc48, if_neg hc49, if_neg hc50]] at kt
          exact kt
    · refine XS.ifYes X25.here hx rfl (pc0 := 296) (pc' := 317) rfl (hb hby at_296) rfl ((if0 _ _).trans (feq hc48).2) (by decide) (by decide) ?_
      show own_S p e below T25 m 317 #[own_lv p1, .second, iv q1, own_lv p2, .second, iv q2, iv fl, rv a2, rv a4, iv no1, iv no2, iv sec, own_lv im1, .second, own_lv im2, .second, iv ti1, iv ti2, rv a20, iv ill, own_lv n1, .second, own_lv n2, .second, own_lv tm, .second, own_lv hg, .second, own_lv lo, .second, own_lv wh, .second, own_lv be, .second, own_lv (2147483648 : Int64), .second, iv his, .unset, .unset, .unset, .unset, .unset] [] _
      refine XS.iconst X25.here hx rfl (hb hby at_317) ?_
      show own_S p e below T25 m 318 #[own_lv p1, .second, iv q1, own_lv p2, .second, iv q2, iv fl, rv a2, rv a4, iv no1, iv no2, iv sec, own_lv im1, .second, own_lv im2, .second, iv ti1, iv ti2, rv a20, iv ill, own_lv n1, .second, own_lv n2, .second, own_lv tm, .second, own_lv hg, .second, own_lv lo, .second, own_lv wh, .second, own_lv be, .second, own_lv (2147483648 : Int64), .second, iv his, .unset, .unset, .unset, .unset, .unset] [(.int (0 : Int32))] _
      rw [show ex = (0 : Int32) from by rw [hex, if_neg hc48]] at kt
      exact kt
  refine own_st sg51 ?_
  have sg52 : own_V p e below T25 (mkF m 322 #[own_lv p1, .second, iv q1, own_lv p2, .second, iv q2, iv fl, rv a2, rv a4, iv no1, iv no2, iv sec, own_lv im1, .second, own_lv im2, .second, iv ti1, iv ti2, rv a20, iv ill, own_lv n1, .second, own_lv n2, .second, own_lv tm, .second, own_lv hg, .second, own_lv lo, .second, own_lv wh, .second, own_lv be, .second, own_lv (2147483648 : Int64), .second, iv his, iv ex, .unset, .unset, .unset, .unset] [(.ref a20)]) (mkF m 318 #[own_lv p1, .second, iv q1, own_lv p2, .second, iv q2, iv fl, rv a2, rv a4, iv no1, iv no2, iv sec, own_lv im1, .second, own_lv im2, .second, iv ti1, iv ti2, rv a20, iv ill, own_lv n1, .second, own_lv n2, .second, own_lv tm, .second, own_lv hg, .second, own_lv lo, .second, own_lv wh, .second, own_lv be, .second, own_lv (2147483648 : Int64), .second, iv his, .unset, .unset, .unset, .unset, .unset] [(.int ex)]) := by
    intro t kt
    refine XS.istore X25.here hx rfl (hb hby at_318) rfl (l' := #[own_lv p1, .second, iv q1, own_lv p2, .second, iv q2, iv fl, rv a2, rv a4, iv no1, iv no2, iv sec, own_lv im1, .second, own_lv im2, .second, iv ti1, iv ti2, rv a20, iv ill, own_lv n1, .second, own_lv n2, .second, own_lv tm, .second, own_lv hg, .second, own_lv lo, .second, own_lv wh, .second, own_lv be, .second, own_lv (2147483648 : Int64), .second, iv his, iv ex, .unset, .unset, .unset, .unset]) rfl ?_
    show own_S p e below T25 m 320 #[own_lv p1, .second, iv q1, own_lv p2, .second, iv q2, iv fl, rv a2, rv a4, iv no1, iv no2, iv sec, own_lv im1, .second, own_lv im2, .second, iv ti1, iv ti2, rv a20, iv ill, own_lv n1, .second, own_lv n2, .second, own_lv tm, .second, own_lv hg, .second, own_lv lo, .second, own_lv wh, .second, own_lv be, .second, own_lv (2147483648 : Int64), .second, iv his, iv ex, .unset, .unset, .unset, .unset] [] _
    refine XS.aload X25.here hx rfl (hb hby at_320) rfl rfl ?_
    show own_S p e below T25 m 322 #[own_lv p1, .second, iv q1, own_lv p2, .second, iv q2, iv fl, rv a2, rv a4, iv no1, iv no2, iv sec, own_lv im1, .second, own_lv im2, .second, iv ti1, iv ti2, rv a20, iv ill, own_lv n1, .second, own_lv n2, .second, own_lv tm, .second, own_lv hg, .second, own_lv lo, .second, own_lv wh, .second, own_lv be, .second, own_lv (2147483648 : Int64), .second, iv his, iv ex, .unset, .unset, .unset, .unset] [(.ref a20)] _
    exact kt
  refine own_st sg52 ?_
  obtain ⟨_, T53, L53, X53, hQ53, st53⟩ := own_callV (y := (⟨"com/example/coverfold/coverfold/Figures$Sum", "isDecided", "()Z"⟩ : MethodName)) (y0 := (⟨"com/example/coverfold/coverfold/Figures$Sum", "isDecided", "()Z"⟩ : MethodName)) (a := a20) (C := "com/example/coverfold/coverfold/Figures$Sum") X25 hx hZ hown SS.1 (hw _ (List.mem_of_getElem? (i := 33) rfl)) (hw _ (List.mem_of_getElem? (i := 34) rfl)) (hw _ (List.mem_of_getElem? (i := 36) rfl)) (notFace_of_selects (args := #[]) (mvT hZ (hw _ (List.mem_of_getElem? (i := 36) rfl)))) (hw _ (List.mem_of_getElem? (i := 35) rfl)) (hw _ (List.mem_of_getElem? (i := 10) rfl)) (hw _ (List.mem_of_getElem? (i := 37) rfl)) (by decide) (own_rmisd l Z a0 hw a20 vi vm vp vt h25 n0 Z25 SS) e25 (g := (mkF m 322 #[own_lv p1, .second, iv q1, own_lv p2, .second, iv q2, iv fl, rv a2, rv a4, iv no1, iv no2, iv sec, own_lv im1, .second, own_lv im2, .second, iv ti1, iv ti2, rv a20, iv ill, own_lv n1, .second, own_lv n2, .second, own_lv tm, .second, own_lv hg, .second, own_lv lo, .second, own_lv wh, .second, own_lv be, .second, own_lv (2147483648 : Int64), .second, iv his, iv ex, .unset, .unset, .unset, .unset] [(.ref a20)])) rfl (by rw [hml]; rfl) (argsL := []) (rest := []) (lenOf own_pd5 rfl) rfl (W := 0) (by show 2 * 0 + _ ≤ _; exact Nat.le_of_eq rfl) (hb hby at_322) (by decide) (by decide) (by decide) (by decide)
  obtain ⟨rfl, Nq53, e53⟩ := hQ53
  refine own_st st53 ?_
  have N53 := Fr.app N25 Nq53
  show own_Go p e below _ T53 (mkF m 325 #[own_lv p1, .second, iv q1, own_lv p2, .second, iv q2, iv fl, rv a2, rv a4, iv no1, iv no2, iv sec, own_lv im1, .second, own_lv im2, .second, iv ti1, iv ti2, rv a20, iv ill, own_lv n1, .second, own_lv n2, .second, own_lv tm, .second, own_lv hg, .second, own_lv lo, .second, own_lv wh, .second, own_lv be, .second, own_lv (2147483648 : Int64), .second, iv his, iv ex, .unset, .unset, .unset, .unset] [(.int (if own_rnd vi vm vp vt < (0 : Int64) then (0 : Int32) else (1 : Int32)))])
  have sg54 : own_V p e below T53 (mkF m 327 #[own_lv p1, .second, iv q1, own_lv p2, .second, iv q2, iv fl, rv a2, rv a4, iv no1, iv no2, iv sec, own_lv im1, .second, own_lv im2, .second, iv ti1, iv ti2, rv a20, iv ill, own_lv n1, .second, own_lv n2, .second, own_lv tm, .second, own_lv hg, .second, own_lv lo, .second, own_lv wh, .second, own_lv be, .second, own_lv (2147483648 : Int64), .second, iv his, iv ex, .unset, .unset, .unset, .unset] [(.int ex), (.int (if own_rnd vi vm vp vt < (0 : Int64) then (0 : Int32) else (1 : Int32)))]) (mkF m 325 #[own_lv p1, .second, iv q1, own_lv p2, .second, iv q2, iv fl, rv a2, rv a4, iv no1, iv no2, iv sec, own_lv im1, .second, own_lv im2, .second, iv ti1, iv ti2, rv a20, iv ill, own_lv n1, .second, own_lv n2, .second, own_lv tm, .second, own_lv hg, .second, own_lv lo, .second, own_lv wh, .second, own_lv be, .second, own_lv (2147483648 : Int64), .second, iv his, iv ex, .unset, .unset, .unset, .unset] [(.int (if own_rnd vi vm vp vt < (0 : Int64) then (0 : Int32) else (1 : Int32)))]) := by
    intro t kt
    refine XS.iload X53.here hx rfl (hb hby at_325) rfl ?_
    show own_S p e below T53 m 327 #[own_lv p1, .second, iv q1, own_lv p2, .second, iv q2, iv fl, rv a2, rv a4, iv no1, iv no2, iv sec, own_lv im1, .second, own_lv im2, .second, iv ti1, iv ti2, rv a20, iv ill, own_lv n1, .second, own_lv n2, .second, own_lv tm, .second, own_lv hg, .second, own_lv lo, .second, own_lv wh, .second, own_lv be, .second, own_lv (2147483648 : Int64), .second, iv his, iv ex, .unset, .unset, .unset, .unset] [(.int ex), (.int (if own_rnd vi vm vp vt < (0 : Int64) then (0 : Int32) else (1 : Int32)))] _
    exact kt
  refine own_st sg54 ?_
  have hc55 : (if own_rnd vi vm vp vt < (0 : Int64) then (0 : Int32) else (1 : Int32)) = ex := own_dec p1 p2 q1 q2 fl no1 hno1 no2 hno2 sec hsec im1 him1 im2 him2 y1 hy1 ti1 hti1 y2 hy2 ti2 hti2 ill hill n1 hn1 n2 hn2 tm htm hg hhg lo hlo wh hwh be hbe his hhis ex hex vi vm vp vt hvi hvm hvp hvt
  have sg56 : own_V p e below T53 (mkF m 332 #[own_lv p1, .second, iv q1, own_lv p2, .second, iv q2, iv fl, rv a2, rv a4, iv no1, iv no2, iv sec, own_lv im1, .second, own_lv im2, .second, iv ti1, iv ti2, rv a20, iv ill, own_lv n1, .second, own_lv n2, .second, own_lv tm, .second, own_lv hg, .second, own_lv lo, .second, own_lv wh, .second, own_lv be, .second, own_lv (2147483648 : Int64), .second, iv his, iv ex, .unset, .unset, .unset, .unset] []) (mkF m 327 #[own_lv p1, .second, iv q1, own_lv p2, .second, iv q2, iv fl, rv a2, rv a4, iv no1, iv no2, iv sec, own_lv im1, .second, own_lv im2, .second, iv ti1, iv ti2, rv a20, iv ill, own_lv n1, .second, own_lv n2, .second, own_lv tm, .second, own_lv hg, .second, own_lv lo, .second, own_lv wh, .second, own_lv be, .second, own_lv (2147483648 : Int64), .second, iv his, iv ex, .unset, .unset, .unset, .unset] [(.int ex), (.int (if own_rnd vi vm vp vt < (0 : Int64) then (0 : Int32) else (1 : Int32)))]) := by
    intro t kt
    refine XS.icmpYes X53.here hx rfl (pc0 := 327) (pc' := 332) rfl (hb hby at_327) rfl (teq hc55).1 (by decide) (by decide) ?_
    exact kt
  refine own_st sg56 ?_
  have sg57 : own_V p e below T53 (mkF m 334 #[own_lv p1, .second, iv q1, own_lv p2, .second, iv q2, iv fl, rv a2, rv a4, iv no1, iv no2, iv sec, own_lv im1, .second, own_lv im2, .second, iv ti1, iv ti2, rv a20, iv ill, own_lv n1, .second, own_lv n2, .second, own_lv tm, .second, own_lv hg, .second, own_lv lo, .second, own_lv wh, .second, own_lv be, .second, own_lv (2147483648 : Int64), .second, iv his, iv ex, .unset, .unset, .unset, .unset] [(.int ex)]) (mkF m 332 #[own_lv p1, .second, iv q1, own_lv p2, .second, iv q2, iv fl, rv a2, rv a4, iv no1, iv no2, iv sec, own_lv im1, .second, own_lv im2, .second, iv ti1, iv ti2, rv a20, iv ill, own_lv n1, .second, own_lv n2, .second, own_lv tm, .second, own_lv hg, .second, own_lv lo, .second, own_lv wh, .second, own_lv be, .second, own_lv (2147483648 : Int64), .second, iv his, iv ex, .unset, .unset, .unset, .unset] []) := by
    intro t kt
    refine XS.iload X53.here hx rfl (hb hby at_332) rfl ?_
    show own_S p e below T53 m 334 #[own_lv p1, .second, iv q1, own_lv p2, .second, iv q2, iv fl, rv a2, rv a4, iv no1, iv no2, iv sec, own_lv im1, .second, own_lv im2, .second, iv ti1, iv ti2, rv a20, iv ill, own_lv n1, .second, own_lv n2, .second, own_lv tm, .second, own_lv hg, .second, own_lv lo, .second, own_lv wh, .second, own_lv be, .second, own_lv (2147483648 : Int64), .second, iv his, iv ex, .unset, .unset, .unset, .unset] [(.int ex)] _
    exact kt
  refine own_st sg57 ?_
  by_cases hc58 : ex = (0 : Int32)
  · skip
    have sg59 : own_V p e below T53 (mkF m 337 #[own_lv p1, .second, iv q1, own_lv p2, .second, iv q2, iv fl, rv a2, rv a4, iv no1, iv no2, iv sec, own_lv im1, .second, own_lv im2, .second, iv ti1, iv ti2, rv a20, iv ill, own_lv n1, .second, own_lv n2, .second, own_lv tm, .second, own_lv hg, .second, own_lv lo, .second, own_lv wh, .second, own_lv be, .second, own_lv (2147483648 : Int64), .second, iv his, iv ex, .unset, .unset, .unset, .unset] []) (mkF m 334 #[own_lv p1, .second, iv q1, own_lv p2, .second, iv q2, iv fl, rv a2, rv a4, iv no1, iv no2, iv sec, own_lv im1, .second, own_lv im2, .second, iv ti1, iv ti2, rv a20, iv ill, own_lv n1, .second, own_lv n2, .second, own_lv tm, .second, own_lv hg, .second, own_lv lo, .second, own_lv wh, .second, own_lv be, .second, own_lv (2147483648 : Int64), .second, iv his, iv ex, .unset, .unset, .unset, .unset] [(.int ex)]) := by
      intro t kt
      refine XS.ifNo X53.here hx rfl (hb hby at_334) rfl ((if0 _ _).trans (teq hc58).2) ?_
      exact kt
    refine own_st sg59 ?_
    have sg60 : own_V p e below T53 (mkF m 338 #[own_lv p1, .second, iv q1, own_lv p2, .second, iv q2, iv fl, rv a2, rv a4, iv no1, iv no2, iv sec, own_lv im1, .second, own_lv im2, .second, iv ti1, iv ti2, rv a20, iv ill, own_lv n1, .second, own_lv n2, .second, own_lv tm, .second, own_lv hg, .second, own_lv lo, .second, own_lv wh, .second, own_lv be, .second, own_lv (2147483648 : Int64), .second, iv his, iv ex, .unset, .unset, .unset, .unset] [(.int (1 : Int32))]) (mkF m 337 #[own_lv p1, .second, iv q1, own_lv p2, .second, iv q2, iv fl, rv a2, rv a4, iv no1, iv no2, iv sec, own_lv im1, .second, own_lv im2, .second, iv ti1, iv ti2, rv a20, iv ill, own_lv n1, .second, own_lv n2, .second, own_lv tm, .second, own_lv hg, .second, own_lv lo, .second, own_lv wh, .second, own_lv be, .second, own_lv (2147483648 : Int64), .second, iv his, iv ex, .unset, .unset, .unset, .unset] []) := by
      intro t kt
      refine XS.iconst X53.here hx rfl (hb hby at_337) ?_
      show own_S p e below T53 m 338 #[own_lv p1, .second, iv q1, own_lv p2, .second, iv q2, iv fl, rv a2, rv a4, iv no1, iv no2, iv sec, own_lv im1, .second, own_lv im2, .second, iv ti1, iv ti2, rv a20, iv ill, own_lv n1, .second, own_lv n2, .second, own_lv tm, .second, own_lv hg, .second, own_lv lo, .second, own_lv wh, .second, own_lv be, .second, own_lv (2147483648 : Int64), .second, iv his, iv ex, .unset, .unset, .unset, .unset] [(.int (1 : Int32))] _
      exact kt
    refine own_st sg60 ?_
    exact own_retZ X53 hx Bd.notSynchronized Bd.returns (hb hby at_338) (by decide) (by decide) (by decide) e53 ⟨rfl, N53⟩
  have sg61 : own_V p e below T53 (mkF m 339 #[own_lv p1, .second, iv q1, own_lv p2, .second, iv q2, iv fl, rv a2, rv a4, iv no1, iv no2, iv sec, own_lv im1, .second, own_lv im2, .second, iv ti1, iv ti2, rv a20, iv ill, own_lv n1, .second, own_lv n2, .second, own_lv tm, .second, own_lv hg, .second, own_lv lo, .second, own_lv wh, .second, own_lv be, .second, own_lv (2147483648 : Int64), .second, iv his, iv ex, .unset, .unset, .unset, .unset] []) (mkF m 334 #[own_lv p1, .second, iv q1, own_lv p2, .second, iv q2, iv fl, rv a2, rv a4, iv no1, iv no2, iv sec, own_lv im1, .second, own_lv im2, .second, iv ti1, iv ti2, rv a20, iv ill, own_lv n1, .second, own_lv n2, .second, own_lv tm, .second, own_lv hg, .second, own_lv lo, .second, own_lv wh, .second, own_lv be, .second, own_lv (2147483648 : Int64), .second, iv his, iv ex, .unset, .unset, .unset, .unset] [(.int ex)]) := by
    intro t kt
    refine XS.ifYes X53.here hx rfl (pc0 := 334) (pc' := 339) rfl (hb hby at_334) rfl ((if0 _ _).trans (feq hc58).2) (by decide) (by decide) ?_
    exact kt
  refine own_st sg61 ?_
  obtain ⟨fig, hfig⟩ : ∃ z : Int64, z = (if (2147483648 : Int64) < be then (wh + (1 : Int64)) else wh) := ⟨_, rfl⟩
  have sg63 : own_V p e below T53 (mkF m 356 #[own_lv p1, .second, iv q1, own_lv p2, .second, iv q2, iv fl, rv a2, rv a4, iv no1, iv no2, iv sec, own_lv im1, .second, own_lv im2, .second, iv ti1, iv ti2, rv a20, iv ill, own_lv n1, .second, own_lv n2, .second, own_lv tm, .second, own_lv hg, .second, own_lv lo, .second, own_lv wh, .second, own_lv be, .second, own_lv (2147483648 : Int64), .second, iv his, iv ex, .unset, .unset, .unset, .unset] [(.long fig)]) (mkF m 339 #[own_lv p1, .second, iv q1, own_lv p2, .second, iv q2, iv fl, rv a2, rv a4, iv no1, iv no2, iv sec, own_lv im1, .second, own_lv im2, .second, iv ti1, iv ti2, rv a20, iv ill, own_lv n1, .second, own_lv n2, .second, own_lv tm, .second, own_lv hg, .second, own_lv lo, .second, own_lv wh, .second, own_lv be, .second, own_lv (2147483648 : Int64), .second, iv his, iv ex, .unset, .unset, .unset, .unset] []) := by
    intro t kt
    refine XS.lload X53.here hx rfl (hb hby at_339) rfl ?_
    show own_S p e below T53 m 341 #[own_lv p1, .second, iv q1, own_lv p2, .second, iv q2, iv fl, rv a2, rv a4, iv no1, iv no2, iv sec, own_lv im1, .second, own_lv im2, .second, iv ti1, iv ti2, rv a20, iv ill, own_lv n1, .second, own_lv n2, .second, own_lv tm, .second, own_lv hg, .second, own_lv lo, .second, own_lv wh, .second, own_lv be, .second, own_lv (2147483648 : Int64), .second, iv his, iv ex, .unset, .unset, .unset, .unset] [(.long be)] _
    refine XS.lload X53.here hx rfl (hb hby at_341) rfl ?_
    show own_S p e below T53 m 343 #[own_lv p1, .second, iv q1, own_lv p2, .second, iv q2, iv fl, rv a2, rv a4, iv no1, iv no2, iv sec, own_lv im1, .second, own_lv im2, .second, iv ti1, iv ti2, rv a20, iv ill, own_lv n1, .second, own_lv n2, .second, own_lv tm, .second, own_lv hg, .second, own_lv lo, .second, own_lv wh, .second, own_lv be, .second, own_lv (2147483648 : Int64), .second, iv his, iv ex, .unset, .unset, .unset, .unset] [(.long (2147483648 : Int64)), (.long be)] _
    refine XS.lcmp X53.here hx rfl (hb hby at_343) rfl ?_
    show own_S p e below T53 m 344 #[own_lv p1, .second, iv q1, own_lv p2, .second, iv q2, iv fl, rv a2, rv a4, iv no1, iv no2, iv sec, own_lv im1, .second, own_lv im2, .second, iv ti1, iv ti2, rv a20, iv ill, own_lv n1, .second, own_lv n2, .second, own_lv tm, .second, own_lv hg, .second, own_lv lo, .second, own_lv wh, .second, own_lv be, .second, own_lv (2147483648 : Int64), .second, iv his, iv ex, .unset, .unset, .unset, .unset] [(.int (lcmpW be (2147483648 : Int64)))] _
    by_cases hc62 : (2147483648 : Int64) < be
    · refine XS.ifNo X53.here hx rfl (hb hby at_344) rfl (own_tgtL hc62).2 ?_
      show own_S p e below T53 m 347 #[own_lv p1, .second, iv q1, own_lv p2, .second, iv q2, iv fl, rv a2, rv a4, iv no1, iv no2, iv sec, own_lv im1, .second, own_lv im2, .second, iv ti1, iv ti2, rv a20, iv ill, own_lv n1, .second, own_lv n2, .second, own_lv tm, .second, own_lv hg, .second, own_lv lo, .second, own_lv wh, .second, own_lv be, .second, own_lv (2147483648 : Int64), .second, iv his, iv ex, .unset, .unset, .unset, .unset] [] _
      refine XS.lload X53.here hx rfl (hb hby at_347) rfl ?_
      show own_S p e below T53 m 349 #[own_lv p1, .second, iv q1, own_lv p2, .second, iv q2, iv fl, rv a2, rv a4, iv no1, iv no2, iv sec, own_lv im1, .second, own_lv im2, .second, iv ti1, iv ti2, rv a20, iv ill, own_lv n1, .second, own_lv n2, .second, own_lv tm, .second, own_lv hg, .second, own_lv lo, .second, own_lv wh, .second, own_lv be, .second, own_lv (2147483648 : Int64), .second, iv his, iv ex, .unset, .unset, .unset, .unset] [(.long wh)] _
      refine XS.lconst X53.here hx rfl (hb hby at_349) ?_
      show own_S p e below T53 m 350 #[own_lv p1, .second, iv q1, own_lv p2, .second, iv q2, iv fl, rv a2, rv a4, iv no1, iv no2, iv sec, own_lv im1, .second, own_lv im2, .second, iv ti1, iv ti2, rv a20, iv ill, own_lv n1, .second, own_lv n2, .second, own_lv tm, .second, own_lv hg, .second, own_lv lo, .second, own_lv wh, .second, own_lv be, .second, own_lv (2147483648 : Int64), .second, iv his, iv ex, .unset, .unset, .unset, .unset] [(.long (1 : Int64)), (.long wh)] _
      refine XS.ladd X53.here hx rfl (hb hby at_350) rfl ?_
      show own_S p e below T53 m 351 #[own_lv p1, .second, iv q1, own_lv p2, .second, iv q2, iv fl, rv a2, rv a4, iv no1, iv no2, iv sec, own_lv im1, .second, own_lv im2, .second, iv ti1, iv ti2, rv a20, iv ill, own_lv n1, .second, own_lv n2, .second, own_lv tm, .second, own_lv hg, .second, own_lv lo, .second, own_lv wh, .second, own_lv be, .second, own_lv (2147483648 : Int64), .second, iv his, iv ex, .unset, .unset, .unset, .unset] [(.long (wh + (1 : Int64)))] _
      refine XS.goto X53.here hx rfl (pc0 := 351) (pc' := 356) rfl (hb hby at_351) (by decide) (by decide) ?_
      show own_S p e below T53 m 356 #[own_lv p1, .second, iv q1, own_lv p2, .second, iv q2, iv fl, rv a2, rv a4, iv no1, iv no2, iv sec, own_lv im1, .second, own_lv im2, .second, iv ti1, iv ti2, rv a20, iv ill, own_lv n1, .second, own_lv n2, .second, own_lv tm, .second, own_lv hg, .second, own_lv lo, .second, own_lv wh, .second, own_lv be, .second, own_lv (2147483648 : Int64), .second, iv his, iv ex, .unset, .unset, .unset, .unset] [(.long (wh + (1 : Int64)))] _
      rw [show fig = (wh + (1 : Int64)) from by rw [hfig, if_pos hc62]] at kt
      exact kt
    · refine XS.ifYes X53.here hx rfl (pc0 := 344) (pc' := 354) rfl (hb hby at_344) rfl (own_fgtL hc62).2 (by decide) (by decide) ?_
      show own_S p e below T53 m 354 #[own_lv p1, .second, iv q1, own_lv p2, .second, iv q2, iv fl, rv a2, rv a4, iv no1, iv no2, iv sec, own_lv im1, .second, own_lv im2, .second, iv ti1, iv ti2, rv a20, iv ill, own_lv n1, .second, own_lv n2, .second, own_lv tm, .second, own_lv hg, .second, own_lv lo, .second, own_lv wh, .second, own_lv be, .second, own_lv (2147483648 : Int64), .second, iv his, iv ex, .unset, .unset, .unset, .unset] [] _
      refine XS.lload X53.here hx rfl (hb hby at_354) rfl ?_
      show own_S p e below T53 m 356 #[own_lv p1, .second, iv q1, own_lv p2, .second, iv q2, iv fl, rv a2, rv a4, iv no1, iv no2, iv sec, own_lv im1, .second, own_lv im2, .second, iv ti1, iv ti2, rv a20, iv ill, own_lv n1, .second, own_lv n2, .second, own_lv tm, .second, own_lv hg, .second, own_lv lo, .second, own_lv wh, .second, own_lv be, .second, own_lv (2147483648 : Int64), .second, iv his, iv ex, .unset, .unset, .unset, .unset] [(.long wh)] _
      rw [show fig = wh from by rw [hfig, if_neg hc62]] at kt
      exact kt
  refine own_st sg63 ?_
  obtain ⟨hrf, R, hR, hR4⟩ := own_fig p1 p2 q1 q2 fl no1 hno1 no2 hno2 sec hsec im1 him1 im2 him2 y1 hy1 ti1 hti1 y2 hy2 ti2 hti2 ill hill n1 hn1 n2 hn2 tm htm hg hhg lo hlo wh hwh be hbe his hhis ex hex vi vm vp vt hvi hvm hvp hvt hc58 fig hfig
  have hnd := own_nd_le 12 (R / 1000000) (by have : (10 : Nat) ^ (12 + 1) = 10000000000000 := (by decide); rw [this]; omega)
  obtain ⟨hm1, hm2⟩ := own_mil fig R hR
  have sg64 : own_V p e below T53 (mkF m 363 #[own_lv p1, .second, iv q1, own_lv p2, .second, iv q2, iv fl, rv a2, rv a4, iv no1, iv no2, iv sec, own_lv im1, .second, own_lv im2, .second, iv ti1, iv ti2, rv a20, iv ill, own_lv n1, .second, own_lv n2, .second, own_lv tm, .second, own_lv hg, .second, own_lv lo, .second, own_lv wh, .second, own_lv be, .second, own_lv (2147483648 : Int64), .second, iv his, iv ex, own_lv fig, .second, .unset, .unset] [(.int (0 : Int32)), (.ref a2), (.ref a20)]) (mkF m 356 #[own_lv p1, .second, iv q1, own_lv p2, .second, iv q2, iv fl, rv a2, rv a4, iv no1, iv no2, iv sec, own_lv im1, .second, own_lv im2, .second, iv ti1, iv ti2, rv a20, iv ill, own_lv n1, .second, own_lv n2, .second, own_lv tm, .second, own_lv hg, .second, own_lv lo, .second, own_lv wh, .second, own_lv be, .second, own_lv (2147483648 : Int64), .second, iv his, iv ex, .unset, .unset, .unset, .unset] [(.long fig)]) := by
    intro t kt
    refine XS.lstore X53.here hx rfl (hb hby at_356) rfl (l' := #[own_lv p1, .second, iv q1, own_lv p2, .second, iv q2, iv fl, rv a2, rv a4, iv no1, iv no2, iv sec, own_lv im1, .second, own_lv im2, .second, iv ti1, iv ti2, rv a20, iv ill, own_lv n1, .second, own_lv n2, .second, own_lv tm, .second, own_lv hg, .second, own_lv lo, .second, own_lv wh, .second, own_lv be, .second, own_lv (2147483648 : Int64), .second, iv his, iv ex, own_lv fig, .second, .unset, .unset]) rfl ?_
    show own_S p e below T53 m 358 #[own_lv p1, .second, iv q1, own_lv p2, .second, iv q2, iv fl, rv a2, rv a4, iv no1, iv no2, iv sec, own_lv im1, .second, own_lv im2, .second, iv ti1, iv ti2, rv a20, iv ill, own_lv n1, .second, own_lv n2, .second, own_lv tm, .second, own_lv hg, .second, own_lv lo, .second, own_lv wh, .second, own_lv be, .second, own_lv (2147483648 : Int64), .second, iv his, iv ex, own_lv fig, .second, .unset, .unset] [] _
    refine XS.aload X53.here hx rfl (hb hby at_358) rfl rfl ?_
    show own_S p e below T53 m 360 #[own_lv p1, .second, iv q1, own_lv p2, .second, iv q2, iv fl, rv a2, rv a4, iv no1, iv no2, iv sec, own_lv im1, .second, own_lv im2, .second, iv ti1, iv ti2, rv a20, iv ill, own_lv n1, .second, own_lv n2, .second, own_lv tm, .second, own_lv hg, .second, own_lv lo, .second, own_lv wh, .second, own_lv be, .second, own_lv (2147483648 : Int64), .second, iv his, iv ex, own_lv fig, .second, .unset, .unset] [(.ref a20)] _
    refine XS.aload X53.here hx rfl (hb hby at_360) rfl rfl ?_
    show own_S p e below T53 m 362 #[own_lv p1, .second, iv q1, own_lv p2, .second, iv q2, iv fl, rv a2, rv a4, iv no1, iv no2, iv sec, own_lv im1, .second, own_lv im2, .second, iv ti1, iv ti2, rv a20, iv ill, own_lv n1, .second, own_lv n2, .second, own_lv tm, .second, own_lv hg, .second, own_lv lo, .second, own_lv wh, .second, own_lv be, .second, own_lv (2147483648 : Int64), .second, iv his, iv ex, own_lv fig, .second, .unset, .unset] [(.ref a2), (.ref a20)] _
    refine XS.iconst X53.here hx rfl (hb hby at_362) ?_
    show own_S p e below T53 m 363 #[own_lv p1, .second, iv q1, own_lv p2, .second, iv q2, iv fl, rv a2, rv a4, iv no1, iv no2, iv sec, own_lv im1, .second, own_lv im2, .second, iv ti1, iv ti2, rv a20, iv ill, own_lv n1, .second, own_lv n2, .second, own_lv tm, .second, own_lv hg, .second, own_lv lo, .second, own_lv wh, .second, own_lv be, .second, own_lv (2147483648 : Int64), .second, iv his, iv ex, own_lv fig, .second, .unset, .unset] [(.int (0 : Int32)), (.ref a2), (.ref a20)] _
    exact kt
  refine own_st sg64 ?_
  obtain ⟨_, T65, L65, X65, hQ65, st65⟩ := own_callV (y := (⟨"com/example/coverfold/coverfold/Figures$Sum", "put", "([BI)I"⟩ : MethodName)) (y0 := (⟨"com/example/coverfold/coverfold/Figures$Sum", "put", "([BI)I"⟩ : MethodName)) (a := a20) (C := "com/example/coverfold/coverfold/Figures$Sum") X53 hx hZ hown SS.1 (hw _ (List.mem_of_getElem? (i := 46) rfl)) (hw _ (List.mem_of_getElem? (i := 47) rfl)) (hw _ (List.mem_of_getElem? (i := 49) rfl)) (notFace_of_selects (args := #[]) (mvT hZ (hw _ (List.mem_of_getElem? (i := 49) rfl)))) (hw _ (List.mem_of_getElem? (i := 48) rfl)) (hw _ (List.mem_of_getElem? (i := 10) rfl)) (hw _ (List.mem_of_getElem? (i := 50) rfl)) (by decide) (own_rmput l Z a0 hw a20 a2 (0 : Int32) vi vm vp vt (fun _ => 0) R h25 n0 Z25 SS G1 g_a2 rfl (by rw [hrf]; exact hR) (by omega) (by omega)) e53 (g := (mkF m 363 #[own_lv p1, .second, iv q1, own_lv p2, .second, iv q2, iv fl, rv a2, rv a4, iv no1, iv no2, iv sec, own_lv im1, .second, own_lv im2, .second, iv ti1, iv ti2, rv a20, iv ill, own_lv n1, .second, own_lv n2, .second, own_lv tm, .second, own_lv hg, .second, own_lv lo, .second, own_lv wh, .second, own_lv be, .second, own_lv (2147483648 : Int64), .second, iv his, iv ex, own_lv fig, .second, .unset, .unset] [(.int (0 : Int32)), (.ref a2), (.ref a20)])) rfl (by rw [hml]; rfl) (argsL := [(.ref a2), (.int (0 : Int32))]) (rest := []) (lenOf own_pd6 rfl) rfl (W := 0) (by show 2 * 0 + _ ≤ _; exact Nat.le_of_eq rfl) (hb hby at_363) (by decide) (by decide) (by decide) (by decide)
  obtain ⟨⟨z65, rfl, hz65⟩, Nq65, K65, A65⟩ := hQ65
  refine own_st st65 ?_
  have Z65 : n0 ≤ T65.heap.size := Nat.le_trans Z25 K65.1
  have N65 := Fr.app N53 Nq65
  show own_Go p e below _ T65 (mkF m 366 #[own_lv p1, .second, iv q1, own_lv p2, .second, iv q2, iv fl, rv a2, rv a4, iv no1, iv no2, iv sec, own_lv im1, .second, own_lv im2, .second, iv ti1, iv ti2, rv a20, iv ill, own_lv n1, .second, own_lv n2, .second, own_lv tm, .second, own_lv hg, .second, own_lv lo, .second, own_lv wh, .second, own_lv be, .second, own_lv (2147483648 : Int64), .second, iv his, iv ex, own_lv fig, .second, .unset, .unset] [(.int z65)])
  have G3 := G2.keep K65 (own_ninS (Ne.symm ne12) nin0)
  have sg66 : own_V p e below T65 (mkF m 386 #[own_lv p1, .second, iv q1, own_lv p2, .second, iv q2, iv fl, rv a2, rv a4, iv no1, iv no2, iv sec, own_lv im1, .second, own_lv im2, .second, iv ti1, iv ti2, rv a20, iv ill, own_lv n1, .second, own_lv n2, .second, own_lv tm, .second, own_lv hg, .second, own_lv lo, .second, own_lv wh, .second, own_lv be, .second, own_lv (2147483648 : Int64), .second, iv his, iv ex, own_lv fig, .second, iv z65, .unset] [(.int (0 : Int32)), (.ref a4), (.int (6 : Int32)), (.long (fig - (fig / (1000000 : Int64)) * (1000000 : Int64))), (.long (fig / (1000000 : Int64))), (.int (0 : Int32))]) (mkF m 366 #[own_lv p1, .second, iv q1, own_lv p2, .second, iv q2, iv fl, rv a2, rv a4, iv no1, iv no2, iv sec, own_lv im1, .second, own_lv im2, .second, iv ti1, iv ti2, rv a20, iv ill, own_lv n1, .second, own_lv n2, .second, own_lv tm, .second, own_lv hg, .second, own_lv lo, .second, own_lv wh, .second, own_lv be, .second, own_lv (2147483648 : Int64), .second, iv his, iv ex, own_lv fig, .second, .unset, .unset] [(.int z65)]) := by
    intro t kt
    refine XS.istore X65.here hx rfl (hb hby at_366) rfl (l' := #[own_lv p1, .second, iv q1, own_lv p2, .second, iv q2, iv fl, rv a2, rv a4, iv no1, iv no2, iv sec, own_lv im1, .second, own_lv im2, .second, iv ti1, iv ti2, rv a20, iv ill, own_lv n1, .second, own_lv n2, .second, own_lv tm, .second, own_lv hg, .second, own_lv lo, .second, own_lv wh, .second, own_lv be, .second, own_lv (2147483648 : Int64), .second, iv his, iv ex, own_lv fig, .second, iv z65, .unset]) rfl ?_
    show own_S p e below T65 m 368 #[own_lv p1, .second, iv q1, own_lv p2, .second, iv q2, iv fl, rv a2, rv a4, iv no1, iv no2, iv sec, own_lv im1, .second, own_lv im2, .second, iv ti1, iv ti2, rv a20, iv ill, own_lv n1, .second, own_lv n2, .second, own_lv tm, .second, own_lv hg, .second, own_lv lo, .second, own_lv wh, .second, own_lv be, .second, own_lv (2147483648 : Int64), .second, iv his, iv ex, own_lv fig, .second, iv z65, .unset] [] _
    refine XS.iconst X65.here hx rfl (hb hby at_368) ?_
    show own_S p e below T65 m 369 #[own_lv p1, .second, iv q1, own_lv p2, .second, iv q2, iv fl, rv a2, rv a4, iv no1, iv no2, iv sec, own_lv im1, .second, own_lv im2, .second, iv ti1, iv ti2, rv a20, iv ill, own_lv n1, .second, own_lv n2, .second, own_lv tm, .second, own_lv hg, .second, own_lv lo, .second, own_lv wh, .second, own_lv be, .second, own_lv (2147483648 : Int64), .second, iv his, iv ex, own_lv fig, .second, iv z65, .unset] [(.int (0 : Int32))] _
    refine XS.lload X65.here hx rfl (hb hby at_369) rfl ?_
    show own_S p e below T65 m 371 #[own_lv p1, .second, iv q1, own_lv p2, .second, iv q2, iv fl, rv a2, rv a4, iv no1, iv no2, iv sec, own_lv im1, .second, own_lv im2, .second, iv ti1, iv ti2, rv a20, iv ill, own_lv n1, .second, own_lv n2, .second, own_lv tm, .second, own_lv hg, .second, own_lv lo, .second, own_lv wh, .second, own_lv be, .second, own_lv (2147483648 : Int64), .second, iv his, iv ex, own_lv fig, .second, iv z65, .unset] [(.long fig), (.int (0 : Int32))] _
    refine X65.ldc2Long hx hown (mvT hZ (hw _ (List.mem_of_getElem? (i := 58) rfl))) (g := (mkF m 371 #[own_lv p1, .second, iv q1, own_lv p2, .second, iv q2, iv fl, rv a2, rv a4, iv no1, iv no2, iv sec, own_lv im1, .second, own_lv im2, .second, iv ti1, iv ti2, rv a20, iv ill, own_lv n1, .second, own_lv n2, .second, own_lv tm, .second, own_lv hg, .second, own_lv lo, .second, own_lv wh, .second, own_lv be, .second, own_lv (2147483648 : Int64), .second, iv his, iv ex, own_lv fig, .second, iv z65, .unset] [(.long fig), (.int (0 : Int32))])) rfl (hb hby at_371) _ ?_
    show own_S p e below T65 m 374 #[own_lv p1, .second, iv q1, own_lv p2, .second, iv q2, iv fl, rv a2, rv a4, iv no1, iv no2, iv sec, own_lv im1, .second, own_lv im2, .second, iv ti1, iv ti2, rv a20, iv ill, own_lv n1, .second, own_lv n2, .second, own_lv tm, .second, own_lv hg, .second, own_lv lo, .second, own_lv wh, .second, own_lv be, .second, own_lv (2147483648 : Int64), .second, iv his, iv ex, own_lv fig, .second, iv z65, .unset] [(.long (1000000 : Int64)), (.long fig), (.int (0 : Int32))] _
    refine XS.ldiv X65.here hx rfl (hb hby at_374) rfl (by decide) ?_
    show own_S p e below T65 m 375 #[own_lv p1, .second, iv q1, own_lv p2, .second, iv q2, iv fl, rv a2, rv a4, iv no1, iv no2, iv sec, own_lv im1, .second, own_lv im2, .second, iv ti1, iv ti2, rv a20, iv ill, own_lv n1, .second, own_lv n2, .second, own_lv tm, .second, own_lv hg, .second, own_lv lo, .second, own_lv wh, .second, own_lv be, .second, own_lv (2147483648 : Int64), .second, iv his, iv ex, own_lv fig, .second, iv z65, .unset] [(.long (fig / (1000000 : Int64))), (.int (0 : Int32))] _
    refine XS.lload X65.here hx rfl (hb hby at_375) rfl ?_
    show own_S p e below T65 m 377 #[own_lv p1, .second, iv q1, own_lv p2, .second, iv q2, iv fl, rv a2, rv a4, iv no1, iv no2, iv sec, own_lv im1, .second, own_lv im2, .second, iv ti1, iv ti2, rv a20, iv ill, own_lv n1, .second, own_lv n2, .second, own_lv tm, .second, own_lv hg, .second, own_lv lo, .second, own_lv wh, .second, own_lv be, .second, own_lv (2147483648 : Int64), .second, iv his, iv ex, own_lv fig, .second, iv z65, .unset] [(.long fig), (.long (fig / (1000000 : Int64))), (.int (0 : Int32))] _
    refine X65.ldc2Long hx hown (mvT hZ (hw _ (List.mem_of_getElem? (i := 58) rfl))) (g := (mkF m 377 #[own_lv p1, .second, iv q1, own_lv p2, .second, iv q2, iv fl, rv a2, rv a4, iv no1, iv no2, iv sec, own_lv im1, .second, own_lv im2, .second, iv ti1, iv ti2, rv a20, iv ill, own_lv n1, .second, own_lv n2, .second, own_lv tm, .second, own_lv hg, .second, own_lv lo, .second, own_lv wh, .second, own_lv be, .second, own_lv (2147483648 : Int64), .second, iv his, iv ex, own_lv fig, .second, iv z65, .unset] [(.long fig), (.long (fig / (1000000 : Int64))), (.int (0 : Int32))])) rfl (hb hby at_377) _ ?_
    show own_S p e below T65 m 380 #[own_lv p1, .second, iv q1, own_lv p2, .second, iv q2, iv fl, rv a2, rv a4, iv no1, iv no2, iv sec, own_lv im1, .second, own_lv im2, .second, iv ti1, iv ti2, rv a20, iv ill, own_lv n1, .second, own_lv n2, .second, own_lv tm, .second, own_lv hg, .second, own_lv lo, .second, own_lv wh, .second, own_lv be, .second, own_lv (2147483648 : Int64), .second, iv his, iv ex, own_lv fig, .second, iv z65, .unset] [(.long (1000000 : Int64)), (.long fig), (.long (fig / (1000000 : Int64))), (.int (0 : Int32))] _
    refine XS.lrem X65.here hx rfl (hb hby at_380) rfl (by decide) ?_
    show own_S p e below T65 m 381 #[own_lv p1, .second, iv q1, own_lv p2, .second, iv q2, iv fl, rv a2, rv a4, iv no1, iv no2, iv sec, own_lv im1, .second, own_lv im2, .second, iv ti1, iv ti2, rv a20, iv ill, own_lv n1, .second, own_lv n2, .second, own_lv tm, .second, own_lv hg, .second, own_lv lo, .second, own_lv wh, .second, own_lv be, .second, own_lv (2147483648 : Int64), .second, iv his, iv ex, own_lv fig, .second, iv z65, .unset] [(.long (fig - (fig / (1000000 : Int64)) * (1000000 : Int64))), (.long (fig / (1000000 : Int64))), (.int (0 : Int32))] _
    refine XS.bipush X65.here hx rfl (hb hby at_381) ?_
    show own_S p e below T65 m 383 #[own_lv p1, .second, iv q1, own_lv p2, .second, iv q2, iv fl, rv a2, rv a4, iv no1, iv no2, iv sec, own_lv im1, .second, own_lv im2, .second, iv ti1, iv ti2, rv a20, iv ill, own_lv n1, .second, own_lv n2, .second, own_lv tm, .second, own_lv hg, .second, own_lv lo, .second, own_lv wh, .second, own_lv be, .second, own_lv (2147483648 : Int64), .second, iv his, iv ex, own_lv fig, .second, iv z65, .unset] [(.int (6 : Int32)), (.long (fig - (fig / (1000000 : Int64)) * (1000000 : Int64))), (.long (fig / (1000000 : Int64))), (.int (0 : Int32))] _
    refine XS.aload X65.here hx rfl (hb hby at_383) rfl rfl ?_
    show own_S p e below T65 m 385 #[own_lv p1, .second, iv q1, own_lv p2, .second, iv q2, iv fl, rv a2, rv a4, iv no1, iv no2, iv sec, own_lv im1, .second, own_lv im2, .second, iv ti1, iv ti2, rv a20, iv ill, own_lv n1, .second, own_lv n2, .second, own_lv tm, .second, own_lv hg, .second, own_lv lo, .second, own_lv wh, .second, own_lv be, .second, own_lv (2147483648 : Int64), .second, iv his, iv ex, own_lv fig, .second, iv z65, .unset] [(.ref a4), (.int (6 : Int32)), (.long (fig - (fig / (1000000 : Int64)) * (1000000 : Int64))), (.long (fig / (1000000 : Int64))), (.int (0 : Int32))] _
    refine XS.iconst X65.here hx rfl (hb hby at_385) ?_
    show own_S p e below T65 m 386 #[own_lv p1, .second, iv q1, own_lv p2, .second, iv q2, iv fl, rv a2, rv a4, iv no1, iv no2, iv sec, own_lv im1, .second, own_lv im2, .second, iv ti1, iv ti2, rv a20, iv ill, own_lv n1, .second, own_lv n2, .second, own_lv tm, .second, own_lv hg, .second, own_lv lo, .second, own_lv wh, .second, own_lv be, .second, own_lv (2147483648 : Int64), .second, iv his, iv ex, own_lv fig, .second, iv z65, .unset] [(.int (0 : Int32)), (.ref a4), (.int (6 : Int32)), (.long (fig - (fig / (1000000 : Int64)) * (1000000 : Int64))), (.long (fig / (1000000 : Int64))), (.int (0 : Int32))] _
    exact kt
  refine own_st sg66 ?_
  obtain ⟨_, T67, L67, X67, hQ67, st67⟩ := own_callS (y := (⟨"com/example/coverfold/coverfold/Rational", "putFixed", "(ZJJI[BI)I"⟩ : MethodName)) X65 hx hZ hown (hw _ (List.mem_of_getElem? (i := 59) rfl)) (hw _ (List.mem_of_getElem? (i := 53) rfl)) (hw _ (List.mem_of_getElem? (i := 54) rfl)) (hw _ (List.mem_of_getElem? (i := 55) rfl)) (by decide) (own_rmpf l Z a0 hw (0 : Int32) (fig / (1000000 : Int64)) (fig - (fig / (1000000 : Int64)) * (1000000 : Int64)) (6 : Int32) a4 (0 : Int32) (fun _ => 0) 27 0 0 6 (R / 1000000) (R % 1000000) T65.heap n0 Z65 G3 g_a4 (Or.inl ⟨rfl, rfl⟩) hm1 hm2 (by decide) (by decide) (by omega) (by omega) (by decide)) rfl (g := (mkF m 386 #[own_lv p1, .second, iv q1, own_lv p2, .second, iv q2, iv fl, rv a2, rv a4, iv no1, iv no2, iv sec, own_lv im1, .second, own_lv im2, .second, iv ti1, iv ti2, rv a20, iv ill, own_lv n1, .second, own_lv n2, .second, own_lv tm, .second, own_lv hg, .second, own_lv lo, .second, own_lv wh, .second, own_lv be, .second, own_lv (2147483648 : Int64), .second, iv his, iv ex, own_lv fig, .second, iv z65, .unset] [(.int (0 : Int32)), (.ref a4), (.int (6 : Int32)), (.long (fig - (fig / (1000000 : Int64)) * (1000000 : Int64))), (.long (fig / (1000000 : Int64))), (.int (0 : Int32))])) rfl (by rw [hml]; rfl) (argsL := [(.int (0 : Int32)), (.long (fig / (1000000 : Int64))), (.long (fig - (fig / (1000000 : Int64)) * (1000000 : Int64))), (.int (6 : Int32)), (.ref a4), (.int (0 : Int32))]) (rest := []) (lenOf own_pd1 rfl) rfl (W := 0) (by show 2 * 0 + _ ≤ _; exact Nat.le_of_eq rfl) (hb hby at_386) (by decide) (by decide) (by decide) (by decide)
  obtain ⟨⟨z67, rfl, hz67⟩, Nq67, K67, A67⟩ := hQ67
  refine own_st st67 ?_
  have Z67 : n0 ≤ T67.heap.size := Nat.le_trans Z65 K67.1
  have N67 := Fr.app N65 Nq67
  show own_Go p e below _ T67 (mkF m 389 #[own_lv p1, .second, iv q1, own_lv p2, .second, iv q2, iv fl, rv a2, rv a4, iv no1, iv no2, iv sec, own_lv im1, .second, own_lv im2, .second, iv ti1, iv ti2, rv a20, iv ill, own_lv n1, .second, own_lv n2, .second, own_lv tm, .second, own_lv hg, .second, own_lv lo, .second, own_lv wh, .second, own_lv be, .second, own_lv (2147483648 : Int64), .second, iv his, iv ex, own_lv fig, .second, iv z65, .unset] [(.int z67)])
  have G4 := A65.keep K67 (own_ninS ne12 nin0)
  have sg68 : own_V p e below T67 (mkF m 395 #[own_lv p1, .second, iv q1, own_lv p2, .second, iv q2, iv fl, rv a2, rv a4, iv no1, iv no2, iv sec, own_lv im1, .second, own_lv im2, .second, iv ti1, iv ti2, rv a20, iv ill, own_lv n1, .second, own_lv n2, .second, own_lv tm, .second, own_lv hg, .second, own_lv lo, .second, own_lv wh, .second, own_lv be, .second, own_lv (2147483648 : Int64), .second, iv his, iv ex, own_lv fig, .second, iv z65, iv z67] [(.int z67), (.int z65)]) (mkF m 389 #[own_lv p1, .second, iv q1, own_lv p2, .second, iv q2, iv fl, rv a2, rv a4, iv no1, iv no2, iv sec, own_lv im1, .second, own_lv im2, .second, iv ti1, iv ti2, rv a20, iv ill, own_lv n1, .second, own_lv n2, .second, own_lv tm, .second, own_lv hg, .second, own_lv lo, .second, own_lv wh, .second, own_lv be, .second, own_lv (2147483648 : Int64), .second, iv his, iv ex, own_lv fig, .second, iv z65, .unset] [(.int z67)]) := by
    intro t kt
    refine XS.istore X67.here hx rfl (hb hby at_389) rfl (l' := #[own_lv p1, .second, iv q1, own_lv p2, .second, iv q2, iv fl, rv a2, rv a4, iv no1, iv no2, iv sec, own_lv im1, .second, own_lv im2, .second, iv ti1, iv ti2, rv a20, iv ill, own_lv n1, .second, own_lv n2, .second, own_lv tm, .second, own_lv hg, .second, own_lv lo, .second, own_lv wh, .second, own_lv be, .second, own_lv (2147483648 : Int64), .second, iv his, iv ex, own_lv fig, .second, iv z65, iv z67]) rfl ?_
    show own_S p e below T67 m 391 #[own_lv p1, .second, iv q1, own_lv p2, .second, iv q2, iv fl, rv a2, rv a4, iv no1, iv no2, iv sec, own_lv im1, .second, own_lv im2, .second, iv ti1, iv ti2, rv a20, iv ill, own_lv n1, .second, own_lv n2, .second, own_lv tm, .second, own_lv hg, .second, own_lv lo, .second, own_lv wh, .second, own_lv be, .second, own_lv (2147483648 : Int64), .second, iv his, iv ex, own_lv fig, .second, iv z65, iv z67] [] _
    refine XS.iload X67.here hx rfl (hb hby at_391) rfl ?_
    show own_S p e below T67 m 393 #[own_lv p1, .second, iv q1, own_lv p2, .second, iv q2, iv fl, rv a2, rv a4, iv no1, iv no2, iv sec, own_lv im1, .second, own_lv im2, .second, iv ti1, iv ti2, rv a20, iv ill, own_lv n1, .second, own_lv n2, .second, own_lv tm, .second, own_lv hg, .second, own_lv lo, .second, own_lv wh, .second, own_lv be, .second, own_lv (2147483648 : Int64), .second, iv his, iv ex, own_lv fig, .second, iv z65, iv z67] [(.int z65)] _
    refine XS.iload X67.here hx rfl (hb hby at_393) rfl ?_
    show own_S p e below T67 m 395 #[own_lv p1, .second, iv q1, own_lv p2, .second, iv q2, iv fl, rv a2, rv a4, iv no1, iv no2, iv sec, own_lv im1, .second, own_lv im2, .second, iv ti1, iv ti2, rv a20, iv ill, own_lv n1, .second, own_lv n2, .second, own_lv tm, .second, own_lv hg, .second, own_lv lo, .second, own_lv wh, .second, own_lv be, .second, own_lv (2147483648 : Int64), .second, iv his, iv ex, own_lv fig, .second, iv z65, iv z67] [(.int z67), (.int z65)] _
    exact kt
  refine own_st sg68 ?_
  have hc69 : z65 = z67 := own_eqI (by rw [hz65, hz67])
  have sg70 : own_V p e below T67 (mkF m 398 #[own_lv p1, .second, iv q1, own_lv p2, .second, iv q2, iv fl, rv a2, rv a4, iv no1, iv no2, iv sec, own_lv im1, .second, own_lv im2, .second, iv ti1, iv ti2, rv a20, iv ill, own_lv n1, .second, own_lv n2, .second, own_lv tm, .second, own_lv hg, .second, own_lv lo, .second, own_lv wh, .second, own_lv be, .second, own_lv (2147483648 : Int64), .second, iv his, iv ex, own_lv fig, .second, iv z65, iv z67] []) (mkF m 395 #[own_lv p1, .second, iv q1, own_lv p2, .second, iv q2, iv fl, rv a2, rv a4, iv no1, iv no2, iv sec, own_lv im1, .second, own_lv im2, .second, iv ti1, iv ti2, rv a20, iv ill, own_lv n1, .second, own_lv n2, .second, own_lv tm, .second, own_lv hg, .second, own_lv lo, .second, own_lv wh, .second, own_lv be, .second, own_lv (2147483648 : Int64), .second, iv his, iv ex, own_lv fig, .second, iv z65, iv z67] [(.int z67), (.int z65)]) := by
    intro t kt
    refine XS.icmpNo X67.here hx rfl (hb hby at_395) rfl (teq hc69).2 ?_
    exact kt
  refine own_st sg70 ?_
  have sg71 : own_V p e below T67 (mkF m 402 #[own_lv p1, .second, iv q1, own_lv p2, .second, iv q2, iv fl, rv a2, rv a4, iv no1, iv no2, iv sec, own_lv im1, .second, own_lv im2, .second, iv ti1, iv ti2, rv a20, iv ill, own_lv n1, .second, own_lv n2, .second, own_lv tm, .second, own_lv hg, .second, own_lv lo, .second, own_lv wh, .second, own_lv be, .second, own_lv (2147483648 : Int64), .second, iv his, iv ex, own_lv fig, .second, iv z65, iv z67] [(.ref a4), (.ref a2)]) (mkF m 398 #[own_lv p1, .second, iv q1, own_lv p2, .second, iv q2, iv fl, rv a2, rv a4, iv no1, iv no2, iv sec, own_lv im1, .second, own_lv im2, .second, iv ti1, iv ti2, rv a20, iv ill, own_lv n1, .second, own_lv n2, .second, own_lv tm, .second, own_lv hg, .second, own_lv lo, .second, own_lv wh, .second, own_lv be, .second, own_lv (2147483648 : Int64), .second, iv his, iv ex, own_lv fig, .second, iv z65, iv z67] []) := by
    intro t kt
    refine XS.aload X67.here hx rfl (hb hby at_398) rfl rfl ?_
    show own_S p e below T67 m 400 #[own_lv p1, .second, iv q1, own_lv p2, .second, iv q2, iv fl, rv a2, rv a4, iv no1, iv no2, iv sec, own_lv im1, .second, own_lv im2, .second, iv ti1, iv ti2, rv a20, iv ill, own_lv n1, .second, own_lv n2, .second, own_lv tm, .second, own_lv hg, .second, own_lv lo, .second, own_lv wh, .second, own_lv be, .second, own_lv (2147483648 : Int64), .second, iv his, iv ex, own_lv fig, .second, iv z65, iv z67] [(.ref a2)] _
    refine XS.aload X67.here hx rfl (hb hby at_400) rfl rfl ?_
    show own_S p e below T67 m 402 #[own_lv p1, .second, iv q1, own_lv p2, .second, iv q2, iv fl, rv a2, rv a4, iv no1, iv no2, iv sec, own_lv im1, .second, own_lv im2, .second, iv ti1, iv ti2, rv a20, iv ill, own_lv n1, .second, own_lv n2, .second, own_lv tm, .second, own_lv hg, .second, own_lv lo, .second, own_lv wh, .second, own_lv be, .second, own_lv (2147483648 : Int64), .second, iv his, iv ex, own_lv fig, .second, iv z65, iv z67] [(.ref a4), (.ref a2)] _
    exact kt
  refine own_st sg71 ?_
  obtain ⟨_, T72, L72, X72, hQ72, st72⟩ := own_callS (y := (⟨"com/example/coverfold/coverfold/SumAddPinLaw", "same", "([B[B)Z"⟩ : MethodName)) X67 hx hZ hown (hw _ (List.mem_of_getElem? (i := 60) rfl)) (hw _ (List.mem_of_getElem? (i := 61) rfl)) (hw _ (List.mem_of_getElem? (i := 62) rfl)) (hw _ (List.mem_of_getElem? (i := 63) rfl)) (by decide) (own_rmsam l Z a0 hw a2 a4 _ T67.heap n0 Z67 G4 A67) rfl (g := (mkF m 402 #[own_lv p1, .second, iv q1, own_lv p2, .second, iv q2, iv fl, rv a2, rv a4, iv no1, iv no2, iv sec, own_lv im1, .second, own_lv im2, .second, iv ti1, iv ti2, rv a20, iv ill, own_lv n1, .second, own_lv n2, .second, own_lv tm, .second, own_lv hg, .second, own_lv lo, .second, own_lv wh, .second, own_lv be, .second, own_lv (2147483648 : Int64), .second, iv his, iv ex, own_lv fig, .second, iv z65, iv z67] [(.ref a4), (.ref a2)])) rfl (by rw [hml]; rfl) (argsL := [(.ref a2), (.ref a4)]) (rest := []) (lenOf own_pd7 rfl) rfl (W := 0) (by show 2 * 0 + _ ≤ _; exact Nat.le_of_eq rfl) (hb hby at_402) (by decide) (by decide) (by decide) (by decide)
  obtain ⟨rfl, Nq72, e72⟩ := hQ72
  refine own_st st72 ?_
  have N72 := Fr.app N67 Nq72
  show own_Go p e below _ T72 (mkF m 405 #[own_lv p1, .second, iv q1, own_lv p2, .second, iv q2, iv fl, rv a2, rv a4, iv no1, iv no2, iv sec, own_lv im1, .second, own_lv im2, .second, iv ti1, iv ti2, rv a20, iv ill, own_lv n1, .second, own_lv n2, .second, own_lv tm, .second, own_lv hg, .second, own_lv lo, .second, own_lv wh, .second, own_lv be, .second, own_lv (2147483648 : Int64), .second, iv his, iv ex, own_lv fig, .second, iv z65, iv z67] [(.int (1 : Int32))])
  have sg74 : own_V p e below T72 (mkF m 408 #[own_lv p1, .second, iv q1, own_lv p2, .second, iv q2, iv fl, rv a2, rv a4, iv no1, iv no2, iv sec, own_lv im1, .second, own_lv im2, .second, iv ti1, iv ti2, rv a20, iv ill, own_lv n1, .second, own_lv n2, .second, own_lv tm, .second, own_lv hg, .second, own_lv lo, .second, own_lv wh, .second, own_lv be, .second, own_lv (2147483648 : Int64), .second, iv his, iv ex, own_lv fig, .second, iv z65, iv z67] []) (mkF m 405 #[own_lv p1, .second, iv q1, own_lv p2, .second, iv q2, iv fl, rv a2, rv a4, iv no1, iv no2, iv sec, own_lv im1, .second, own_lv im2, .second, iv ti1, iv ti2, rv a20, iv ill, own_lv n1, .second, own_lv n2, .second, own_lv tm, .second, own_lv hg, .second, own_lv lo, .second, own_lv wh, .second, own_lv be, .second, own_lv (2147483648 : Int64), .second, iv his, iv ex, own_lv fig, .second, iv z65, iv z67] [(.int (1 : Int32))]) := by
    intro t kt
    refine XS.ifNo X72.here hx rfl (hb hby at_405) rfl ((if0 _ _).trans (feq (by decide : ¬ (1 : Int32) = (0 : Int32))).1) ?_
    exact kt
  refine own_st sg74 ?_
  have sg75 : own_V p e below T72 (mkF m 413 #[own_lv p1, .second, iv q1, own_lv p2, .second, iv q2, iv fl, rv a2, rv a4, iv no1, iv no2, iv sec, own_lv im1, .second, own_lv im2, .second, iv ti1, iv ti2, rv a20, iv ill, own_lv n1, .second, own_lv n2, .second, own_lv tm, .second, own_lv hg, .second, own_lv lo, .second, own_lv wh, .second, own_lv be, .second, own_lv (2147483648 : Int64), .second, iv his, iv ex, own_lv fig, .second, iv z65, iv z67] [(.int (1 : Int32))]) (mkF m 408 #[own_lv p1, .second, iv q1, own_lv p2, .second, iv q2, iv fl, rv a2, rv a4, iv no1, iv no2, iv sec, own_lv im1, .second, own_lv im2, .second, iv ti1, iv ti2, rv a20, iv ill, own_lv n1, .second, own_lv n2, .second, own_lv tm, .second, own_lv hg, .second, own_lv lo, .second, own_lv wh, .second, own_lv be, .second, own_lv (2147483648 : Int64), .second, iv his, iv ex, own_lv fig, .second, iv z65, iv z67] []) := by
    intro t kt
    refine XS.iconst X72.here hx rfl (hb hby at_408) ?_
    show own_S p e below T72 m 409 #[own_lv p1, .second, iv q1, own_lv p2, .second, iv q2, iv fl, rv a2, rv a4, iv no1, iv no2, iv sec, own_lv im1, .second, own_lv im2, .second, iv ti1, iv ti2, rv a20, iv ill, own_lv n1, .second, own_lv n2, .second, own_lv tm, .second, own_lv hg, .second, own_lv lo, .second, own_lv wh, .second, own_lv be, .second, own_lv (2147483648 : Int64), .second, iv his, iv ex, own_lv fig, .second, iv z65, iv z67] [(.int (1 : Int32))] _
    refine XS.goto X72.here hx rfl (pc0 := 409) (pc' := 413) rfl (hb hby at_409) (by decide) (by decide) ?_
    show own_S p e below T72 m 413 #[own_lv p1, .second, iv q1, own_lv p2, .second, iv q2, iv fl, rv a2, rv a4, iv no1, iv no2, iv sec, own_lv im1, .second, own_lv im2, .second, iv ti1, iv ti2, rv a20, iv ill, own_lv n1, .second, own_lv n2, .second, own_lv tm, .second, own_lv hg, .second, own_lv lo, .second, own_lv wh, .second, own_lv be, .second, own_lv (2147483648 : Int64), .second, iv his, iv ex, own_lv fig, .second, iv z65, iv z67] [(.int (1 : Int32))] _
    exact kt
  refine own_st sg75 ?_
  exact own_retZ X72 hx Bd.notSynchronized Bd.returns (hb hby at_413) (by decide) (by decide) (by decide) e72 ⟨rfl, N72⟩
set_option maxRecDepth 65536 in
set_option maxHeartbeats 40000000 in
theorem comes_1 {Post : Tables → Env → Array Value → State → Outcome → State → Prop} (hpost : ∀ tb e args s v u, (limb_1_1.after args s (.returned v) u = true ∧ limb_1_2.after args s (.returned v) u = true ∧ True) → FrameEnd s (.returned v) u (Jvm.fieldLocs frame_1_writes args s ++ Jvm.arrayLocs frame_1_arrays args s ++ Jvm.staticLocs frame_1_statics s) 16 192 → Post tb e args s (.returned v) u) :
    ArmFor flags0 classFile x code maxLocals ret World_1 tables_1 room_1 Calls_1 rest_1 Pre_1 Post := by
  intro l hfl _ _ p e ha hc hk s m args below hf hA hF happ hP
  obtain ⟨hcalls, hrest, hpre⟩ := hP
  obtain ⟨-, -, -, hnamed, -, -, -, hat⟩ := (Spec.applies_iff hf).mp happ
  obtain ⟨hg, hn⟩ := and_e (Cond.before_iff.mp (show (Jvm.Cond.and given_1 narrow_1).before args s = true from hpre))
  obtain ⟨g1, g2⟩ := and_e hg
  obtain ⟨g3, g4⟩ := and_e g2
  obtain ⟨g5, g6⟩ := and_e g4
  obtain ⟨g7, g8⟩ := and_e g6
  obtain ⟨g9, g10⟩ := and_e g8
  obtain ⟨w0, w1, w2, w3, w4, rfl⟩ : ∃ w0 w1 w2 w3 w4 : Value, args = #[w0, w1, w2, w3, w4] := by
    have hs : args.size = 5 := by simpa [Cond.value, given_1] using g1
    obtain ⟨L⟩ := args
    match L, hs with
    | [w0, w1, w2, w3, w4], _ => exact ⟨w0, w1, w2, w3, w4, rfl⟩
  have hw := fun d (hd : d ∈ tables_1) => atoms_spec (ws := Jvm.Cond.code x code maxLocals ret :: tables_1) hat d (List.mem_cons_of_mem _ hd)
  have hfit : Fit s := fun {y c} hc i hi => by
    obtain ⟨ha, rfl⟩ := Array.getElem?_eq_some_iff.mp hc
    have q := List.all_eq_true.mp ((Array.all_eq_true_iff_forall_mem.mp hF) _ (Array.getElem_mem ha)) i (List.mem_range.mpr hi)
    simpa [Array.getElem?_eq_getElem hi] using q
  obtain ⟨i0, ei0⟩ := isL_v g3
  obtain rfl : w0 = (.long i0) := Option.some.inj ei0
  obtain ⟨i1, ei1⟩ := is_v g5
  obtain rfl : w1 = (.int i1) := Option.some.inj ei1
  obtain ⟨i2, ei2⟩ := isL_v g7
  obtain rfl : w2 = (.long i2) := Option.some.inj ei2
  obtain ⟨i3, ei3⟩ := is_v g9
  obtain rfl : w3 = (.int i3) := Option.some.inj ei3
  obtain ⟨i4, ei4⟩ := is_v g10
  obtain rfl : w4 = (.int i4) := Option.some.inj ei4
  obtain ⟨n, o, h1, h2, h3, _, L, rfl, ⟨rfl, N⟩, hq⟩ := own_rmlaw l s _ hw i0 i1 i2 i3 i4 s.heap s.heap.size (Nat.le_refl _) p e ha hc hk s m _ below hf ((Spec.applies_iff_loose hf).mp happ).1 ⟨rfl, State.Warmed39.refl s, rfl⟩ trivial
  refine ⟨n, _, h1, h2, h3, hpost _ _ _ _ _ _ ⟨Cond.after_iff.mpr rfl, Cond.after_iff.mpr (eq_i res_at (Term.int_eval (1)) rfl), trivial⟩ ⟨hq.1, hq.2.1, (hq.2.2.sift fun y hy => Or.inr (N y hy)).mono (by decide) (by decide)⟩⟩
theorem main_1_1 : Claimed_1_1 := comes_1 fun _ _ _ _ _ _ h hF => ⟨h.1, hF⟩
theorem main_1_2 : Claimed_1_2 := comes_1 fun _ _ _ _ _ _ h hF => ⟨h.2.1, hF⟩
end Jvm.Pilot.@@N@@
namespace Jvm.Pilot.@@N@@
open Jvm Jvm.ClassFile Sem Op Lib Jvm.Free Jvm.Stand Jvm.Pilot.@@N@@.Jvm.D
/-! MADE BY PROGRAM (witnessworld.py) out of the Statement's table words and the real class files: 12 classes; the members and pool entries that the words name. The judged class is class 1, her method 1. -/
namespace start1
open Jvm.ClassFile
def u (s : String) : CpInfo := .utf8 (stringToUtf16 s)
/-- a pool by its gaps: so many unusable entries, then the entry; so many at the end -/
def gap : Nat → List CpInfo → List CpInfo
  | 0, r => r
  | n + 1, r => .unusable :: gap n r
def poolList (es : List (Nat × CpInfo)) (last : Nat) : List CpInfo := es.foldr (fun e r => gap e.1 (e.2 :: r)) (gap last [])
def pool (es : List (Nat × CpInfo)) (last : Nat) : Array CpInfo := ⟨poolList es last⟩
def fileOf (pool : Array CpInfo) (this : Nat) (attrs : Array Attribute := #[]) (ms : Array MethodInfo := #[]) (fl : Nat := 33) (sup : Nat := 0) (ifs : Array Nat := #[]) (fds : Array FieldInfo := #[]) : ClassFile where
  minorVersion := 0
  majorVersion := 65
  constantPool := pool
  accessFlags := fl
  thisClass := this
  superClass := sup
  interfaces := ifs
  fields := fds
  methods := ms
  attributes := attrs
def plain (name : String) (sup : Option ClassId) : Class where
  name := name
  kind := .ordinary
  loader := none
  accessFlags := 33
  super := sup
  interfaces := #[]
  cf := none
  fields := #[]
  methods := #[]
  instanceTypes := #[]
  staticTypes := #[]
  resolved := #[]
  callSites := []
  init := .initialized
  statics := none
  mirror := none

def pool0 : Array CpInfo := pool [(5, u "<init>"), (0, u "()V"), (1, .class_ 10), (1, u "java/lang/Object")] 113

def k0c0 : Code := { maxStack := 0, maxLocals := 1, code := object_method_1_code, exceptionTable := #[], attributes := #[] }
def k0m0 : Method := { name := "<init>", desc := "()V", sig := { parameters := [], returnType := none }, accessFlags := 1, code := some k0c0 }
/-- java/lang/Object -/
def k0 : Class := { plain "java/lang/Object" none with
  accessFlags := 33
  interfaces := #[]
  cf := some (fileOf pool0 8 #[] #[{ accessFlags := 1, nameIndex := 5, descriptorIndex := 6, attributes := #[] }] 33 0 #[] #[])
  fields := #[]
  methods := #[k0m0]
  instanceTypes := #[]
  staticTypes := #[]
  resolved := Array.replicate 124 none
  statics := none }

def pool1 : Array CpInfo := pool [(2, .class_ 4), (0, .nameAndType 5 6), (0, u "java/lang/Object"), (0, u "<init>"), (0, u "()V"), (0, .long 18446744073709551615), (3, .long 9223372036854775807), (1, .integer 2147483647), (0, .methodref 15 16), (0, .class_ 17), (0, .nameAndType 18 19), (0, u "java/lang/Math"), (0, u "max"), (0, u "(II)I"), (0, .class_ 21), (0, u "com/example/coverfold/coverfold/Figures$Sum"), (0, .methodref 20 3), (0, .methodref 20 24), (0, .nameAndType 25 26), (0, u "add"), (0, u "(JI)V"), (0, .long 4294967295), (1, .long 2147483648), (1, .long 1073741824), (1, .methodref 20 34), (0, .nameAndType 35 36), (0, u "isDecided"), (0, u "()Z"), (0, .methodref 20 38), (0, .nameAndType 39 40), (0, u "put"), (0, u "([BI)I"), (0, .long 1000000), (1, .methodref 44 45), (0, .class_ 46), (0, .nameAndType 47 48), (0, u "com/example/coverfold/coverfold/Rational"), (0, u "putFixed"), (0, u "(ZJJI[BI)I"), (0, .methodref 50 51), (0, .class_ 52), (0, .nameAndType 53 54), (0, u "com/example/coverfold/coverfold/SumAddPinLaw"), (0, u "same"), (0, u "([B[B)Z"), (2, u "law"), (0, u "(JIJII)Z")] 9

def k1m0 : Method := { name := "<init>", desc := "()V", sig := { parameters := [], returnType := none }, accessFlags := 2, code := none }
def k1c1 : Code := { maxStack := 8, maxLocals := 42, code := code, exceptionTable := #[], attributes := #[] }
def k1m1 : Method := { name := "law", desc := "(JIJII)Z", sig := { parameters := [.long, .int, .long, .int, .int], returnType := some .boolean }, accessFlags := 9, code := some k1c1 }
def k1c2 : Code := { maxStack := 3, maxLocals := 2, code := method_3_code, exceptionTable := #[], attributes := #[] }
def k1m2 : Method := { name := "same", desc := "([B[B)Z", sig := { parameters := [(.array .byte), (.array .byte)], returnType := some .boolean }, accessFlags := 10, code := some k1c2 }
/-- com/example/coverfold/coverfold/SumAddPinLaw -/
def k1 : Class := { plain "com/example/coverfold/coverfold/SumAddPinLaw" (some 0) with
  accessFlags := 49
  interfaces := #[]
  cf := some (fileOf pool1 50 #[] #[{ accessFlags := 2, nameIndex := 5, descriptorIndex := 6, attributes := #[] }, { accessFlags := 9, nameIndex := 57, descriptorIndex := 58, attributes := #[] }, { accessFlags := 10, nameIndex := 53, descriptorIndex := 54, attributes := #[] }] 49 2 #[] #[])
  fields := #[]
  methods := #[k1m0, k1m1, k1m2]
  instanceTypes := #[]
  staticTypes := #[]
  resolved := Array.replicate 68 none
  statics := none }

def pool2 : Array CpInfo := pool [(1, .class_ 2), (0, u "java/lang/Math"), (1, .class_ 6), (1, u "java/lang/Object"), (0, u "<init>"), (0, u "()V"), (89, .class_ 100), (1, u "java/lang/Math$RandomNumberGeneratorHolder"), (71, u "negativeZeroFloatBits"), (0, u "J"), (2, u "negativeZeroDoubleBits"), (21, u "max"), (46, u "$assertionsDisabled"), (0, u "Z"), (88, u "(II)I"), (2, u "twoToTheDoubleScaleDown"), (0, u "D"), (4, u "twoToTheDoubleScaleUp"), (9, u "E"), (3, u "PI"), (2, u "TAU"), (2, u "DEGREES_TO_RADIANS"), (0, u "RADIANS_TO_DEGREES")] 94

def k2m0 : Method := { name := "<init>", desc := "()V", sig := { parameters := [], returnType := none }, accessFlags := 2, code := none }
def k2c1 : Code := { maxStack := 2, maxLocals := 2, code := jdk_29_method_65_code, exceptionTable := #[], attributes := #[] }
def k2m1 : Method := { name := "max", desc := "(II)I", sig := { parameters := [.int, .int], returnType := some .int }, accessFlags := 9, code := some k2c1 }
/-- java/lang/Math -/
def k2 : Class := { plain "java/lang/Math" (some 0) with
  accessFlags := 49
  interfaces := #[]
  cf := some (fileOf pool2 1 #[.nestMembers #[98]] #[{ accessFlags := 2, nameIndex := 7, descriptorIndex := 8, attributes := #[] }, { accessFlags := 9, nameIndex := 198, descriptorIndex := 335, attributes := #[] }] 49 4 #[] #[{ accessFlags := 25, nameIndex := 354, descriptorIndex := 339, attributes := #[] }, { accessFlags := 25, nameIndex := 358, descriptorIndex := 339, attributes := #[] }, { accessFlags := 25, nameIndex := 361, descriptorIndex := 339, attributes := #[] }, { accessFlags := 26, nameIndex := 364, descriptorIndex := 339, attributes := #[] }, { accessFlags := 26, nameIndex := 365, descriptorIndex := 339, attributes := #[] }, { accessFlags := 26, nameIndex := 172, descriptorIndex := 173, attributes := #[] }, { accessFlags := 26, nameIndex := 176, descriptorIndex := 173, attributes := #[] }, { accessFlags := 8, nameIndex := 344, descriptorIndex := 339, attributes := #[] }, { accessFlags := 8, nameIndex := 338, descriptorIndex := 339, attributes := #[] }, { accessFlags := 4120, nameIndex := 245, descriptorIndex := 246, attributes := #[] }])
  fields := #[{ name := "E", type := .double, accessFlags := 25, slot := 0, constantValue := 0 }, { name := "PI", type := .double, accessFlags := 25, slot := 1, constantValue := 0 }, { name := "TAU", type := .double, accessFlags := 25, slot := 2, constantValue := 0 }, { name := "DEGREES_TO_RADIANS", type := .double, accessFlags := 26, slot := 3, constantValue := 0 }, { name := "RADIANS_TO_DEGREES", type := .double, accessFlags := 26, slot := 4, constantValue := 0 }, { name := "negativeZeroFloatBits", type := .long, accessFlags := 26, slot := 5, constantValue := 0 }, { name := "negativeZeroDoubleBits", type := .long, accessFlags := 26, slot := 6, constantValue := 0 }, { name := "twoToTheDoubleScaleUp", type := .double, accessFlags := 8, slot := 7, constantValue := 0 }, { name := "twoToTheDoubleScaleDown", type := .double, accessFlags := 8, slot := 8, constantValue := 0 }, { name := "$assertionsDisabled", type := .boolean, accessFlags := 4120, slot := 9, constantValue := 0 }]
  methods := #[k2m0, k2m1]
  instanceTypes := #[]
  staticTypes := #[.double, .double, .double, .double, .double, .long, .long, .double, .double, .boolean]
  resolved := Array.replicate 460 none
  statics := none }

def pool3 : Array CpInfo := pool [(1, .class_ 2), (0, u "com/example/coverfold/coverfold/Figures$Sum"), (0, .class_ 4), (0, u "com/example/coverfold/coverfold/Figures"), (0, .methodref 6 7), (0, .class_ 8), (0, .nameAndType 9 10), (0, u "java/lang/Object"), (0, u "<init>"), (0, u "()V"), (2, u "add"), (0, u "(JI)V"), (0, .fieldref 1 16), (0, .nameAndType 17 18), (0, u "imageless"), (0, u "J"), (0, .fieldref 1 20), (0, .nameAndType 21 18), (0, u "millionths"), (0, .fieldref 1 23), (0, .nameAndType 24 18), (0, u "places"), (0, .long 4294967295), (1, .fieldref 1 28), (0, .nameAndType 29 18), (0, u "terms"), (0, .methodref 1 31), (0, .nameAndType 32 33), (0, u "rounded"), (0, u "()J"), (0, .long 1000000), (1, .methodref 37 38), (0, .class_ 39), (0, .nameAndType 40 41), (0, u "com/example/coverfold/coverfold/Rational"), (0, u "putFixed"), (0, u "(ZJJI[BI)I"), (0, .long 1073741824), (1, .long 18446744073709551615), (1, .long 2147483648), (1, u "PLACES"), (0, u "I"), (2, u "PLACE_MASK"), (0, u "HALF"), (0, u "MOST_TERMS"), (5, u "isDecided"), (0, u "()Z"), (0, u "put"), (0, u "([BI)I")] 5

def k3c0 : Code := { maxStack := 1, maxLocals := 1, code := prog_58_method_1_code, exceptionTable := #[], attributes := #[] }
def k3m0 : Method := { name := "<init>", desc := "()V", sig := { parameters := [], returnType := none }, accessFlags := 0, code := some k3c0 }
def k3c1 : Code := { maxStack := 7, maxLocals := 4, code := prog_58_method_3_code, exceptionTable := #[], attributes := #[] }
def k3m1 : Method := { name := "add", desc := "(JI)V", sig := { parameters := [.long, .int], returnType := none }, accessFlags := 0, code := some k3c1 }
def k3c2 : Code := { maxStack := 4, maxLocals := 1, code := prog_58_method_5_code, exceptionTable := #[], attributes := #[] }
def k3m2 : Method := { name := "isDecided", desc := "()Z", sig := { parameters := [], returnType := some .boolean }, accessFlags := 0, code := some k3c2 }
def k3c3 : Code := { maxStack := 8, maxLocals := 5, code := prog_58_method_6_code, exceptionTable := #[], attributes := #[] }
def k3m3 : Method := { name := "put", desc := "([BI)I", sig := { parameters := [(.array .byte), .int], returnType := some .int }, accessFlags := 0, code := some k3c3 }
def k3c4 : Code := { maxStack := 5, maxLocals := 5, code := prog_58_method_7_code, exceptionTable := #[], attributes := #[] }
def k3m4 : Method := { name := "rounded", desc := "()J", sig := { parameters := [], returnType := some .long }, accessFlags := 2, code := some k3c4 }
/-- com/example/coverfold/coverfold/Figures$Sum -/
def k3 : Class := { plain "com/example/coverfold/coverfold/Figures$Sum" (some 0) with
  accessFlags := 32
  interfaces := #[]
  cf := some (fileOf pool3 1 #[.nestHost 3] #[{ accessFlags := 0, nameIndex := 9, descriptorIndex := 10, attributes := #[] }, { accessFlags := 0, nameIndex := 13, descriptorIndex := 14, attributes := #[] }, { accessFlags := 0, nameIndex := 60, descriptorIndex := 61, attributes := #[] }, { accessFlags := 0, nameIndex := 62, descriptorIndex := 63, attributes := #[] }, { accessFlags := 2, nameIndex := 32, descriptorIndex := 33, attributes := #[] }] 32 6 #[] #[{ accessFlags := 24, nameIndex := 48, descriptorIndex := 49, attributes := #[] }, { accessFlags := 26, nameIndex := 52, descriptorIndex := 18, attributes := #[] }, { accessFlags := 26, nameIndex := 53, descriptorIndex := 18, attributes := #[] }, { accessFlags := 26, nameIndex := 54, descriptorIndex := 18, attributes := #[] }, { accessFlags := 2, nameIndex := 21, descriptorIndex := 18, attributes := #[] }, { accessFlags := 2, nameIndex := 24, descriptorIndex := 18, attributes := #[] }, { accessFlags := 2, nameIndex := 29, descriptorIndex := 18, attributes := #[] }, { accessFlags := 2, nameIndex := 17, descriptorIndex := 18, attributes := #[] }])
  fields := #[{ name := "PLACES", type := .int, accessFlags := 24, slot := 0, constantValue := 0 }, { name := "PLACE_MASK", type := .long, accessFlags := 26, slot := 1, constantValue := 0 }, { name := "HALF", type := .long, accessFlags := 26, slot := 2, constantValue := 0 }, { name := "MOST_TERMS", type := .long, accessFlags := 26, slot := 3, constantValue := 0 }, { name := "millionths", type := .long, accessFlags := 2, slot := 0, constantValue := 0 }, { name := "places", type := .long, accessFlags := 2, slot := 1, constantValue := 0 }, { name := "terms", type := .long, accessFlags := 2, slot := 2, constantValue := 0 }, { name := "imageless", type := .long, accessFlags := 2, slot := 3, constantValue := 0 }]
  methods := #[k3m0, k3m1, k3m2, k3m3, k3m4]
  instanceTypes := #[.long, .long, .long, .long]
  staticTypes := #[.int, .long, .long, .long]
  resolved := Array.replicate 69 none
  statics := none }

def pool4 : Array CpInfo := pool [(1, .class_ 2), (0, u "java/lang/Comparable"), (0, .class_ 4), (0, u "java/lang/Object")] 7

/-- java/lang/Comparable -/
def k4 : Class := { plain "java/lang/Comparable" (some 0) with
  accessFlags := 1537
  interfaces := #[]
  cf := some (fileOf pool4 1 #[] #[] 1537 3 #[] #[])
  fields := #[]
  methods := #[]
  instanceTypes := #[]
  staticTypes := #[]
  resolved := Array.replicate 12 none
  statics := none }

def pool5 : Array CpInfo := pool [(2, .class_ 4), (1, u "java/lang/Object"), (3, .class_ 10), (1, u "com/example/coverfold/coverfold/Rational"), (0, u "numerator"), (0, u "J"), (2, u "denominator"), (2, u "bigNumerator"), (0, u "Ljava/math/BigInteger;"), (2, u "bigDenominator"), (19, u "ONE"), (45, u "ZERO"), (0, u "Lcom/example/coverfold/coverfold/Rational;"), (39, u "putFixed"), (17, u "POWERS_OF_TEN"), (0, u "[J"), (101, u "(ZJJI[BI)I"), (0, .long 10), (3, .long 2147483647), (1, .long 48), (20, u "LONG_MIN"), (2, u "LONG_MAX"), (24, .class_ 307), (0, u "java/lang/Comparable"), (0, u "DIVISION_BY_ZERO"), (0, u "Ljava/lang/String;"), (23, .class_ 334), (0, u "com/example/coverfold/coverfold/Rational$Sum")] 16

def k5c0 : Code := { maxStack := 8, maxLocals := 15, code := prog_87_method_32_code, exceptionTable := #[], attributes := #[] }
def k5m0 : Method := { name := "putFixed", desc := "(ZJJI[BI)I", sig := { parameters := [.boolean, .long, .long, .int, (.array .byte), .int], returnType := some .int }, accessFlags := 8, code := some k5c0 }
/-- com/example/coverfold/coverfold/Rational -/
def k5 : Class := { plain "com/example/coverfold/coverfold/Rational" (some 0) with
  accessFlags := 33
  interfaces := #[4]
  cf := some (fileOf pool5 8 #[.nestMembers #[333]] #[{ accessFlags := 8, nameIndex := 129, descriptorIndex := 250, attributes := #[] }] 33 2 #[306] #[{ accessFlags := 25, nameIndex := 88, descriptorIndex := 89, attributes := #[] }, { accessFlags := 25, nameIndex := 42, descriptorIndex := 89, attributes := #[] }, { accessFlags := 26, nameIndex := 308, descriptorIndex := 309, attributes := #[] }, { accessFlags := 26, nameIndex := 278, descriptorIndex := 19, attributes := #[] }, { accessFlags := 26, nameIndex := 281, descriptorIndex := 19, attributes := #[] }, { accessFlags := 26, nameIndex := 147, descriptorIndex := 148, attributes := #[] }, { accessFlags := 18, nameIndex := 11, descriptorIndex := 12, attributes := #[] }, { accessFlags := 18, nameIndex := 15, descriptorIndex := 12, attributes := #[] }, { accessFlags := 18, nameIndex := 18, descriptorIndex := 19, attributes := #[] }, { accessFlags := 18, nameIndex := 22, descriptorIndex := 19, attributes := #[] }])
  fields := #[{ name := "ZERO", type := (.object "com/example/coverfold/coverfold/Rational"), accessFlags := 25, slot := 0, constantValue := 0 }, { name := "ONE", type := (.object "com/example/coverfold/coverfold/Rational"), accessFlags := 25, slot := 1, constantValue := 0 }, { name := "DIVISION_BY_ZERO", type := (.object "java/lang/String"), accessFlags := 26, slot := 2, constantValue := 0 }, { name := "LONG_MIN", type := (.object "java/math/BigInteger"), accessFlags := 26, slot := 3, constantValue := 0 }, { name := "LONG_MAX", type := (.object "java/math/BigInteger"), accessFlags := 26, slot := 4, constantValue := 0 }, { name := "POWERS_OF_TEN", type := (.array .long), accessFlags := 26, slot := 5, constantValue := 0 }, { name := "numerator", type := .long, accessFlags := 18, slot := 0, constantValue := 0 }, { name := "denominator", type := .long, accessFlags := 18, slot := 1, constantValue := 0 }, { name := "bigNumerator", type := (.object "java/math/BigInteger"), accessFlags := 18, slot := 2, constantValue := 0 }, { name := "bigDenominator", type := (.object "java/math/BigInteger"), accessFlags := 18, slot := 3, constantValue := 0 }]
  methods := #[k5m0]
  instanceTypes := #[.long, .long, (.object "java/math/BigInteger"), (.object "java/math/BigInteger")]
  staticTypes := #[(.object "com/example/coverfold/coverfold/Rational"), (.object "com/example/coverfold/coverfold/Rational"), (.object "java/lang/String"), (.object "java/math/BigInteger"), (.object "java/math/BigInteger"), (.array .long)]
  resolved := Array.replicate 351 none
  statics := none }

def pool6 : Array CpInfo := pool [(1, u "java/lang/Cloneable"), (0, .class_ 1), (0, u "java/lang/Object"), (0, .class_ 3)] 3

/-- java/lang/Cloneable -/
def k6 : Class := { plain "java/lang/Cloneable" (some 0) with
  accessFlags := 1537
  interfaces := #[]
  cf := some (fileOf pool6 2 #[] #[] 1537 4 #[] #[])
  fields := #[]
  methods := #[]
  instanceTypes := #[]
  staticTypes := #[]
  resolved := Array.replicate 8 none
  statics := none }

def pool7 : Array CpInfo := pool [(1, u "java/io/Serializable"), (0, .class_ 1), (0, u "java/lang/Object"), (0, .class_ 3)] 3

/-- java/io/Serializable -/
def k7 : Class := { plain "java/io/Serializable" (some 0) with
  accessFlags := 1537
  interfaces := #[]
  cf := some (fileOf pool7 2 #[] #[] 1537 4 #[] #[])
  fields := #[]
  methods := #[]
  instanceTypes := #[]
  staticTypes := #[]
  resolved := Array.replicate 8 none
  statics := none }

/-- the primitive byte -/
def k8 : Class := { plain "byte" none with kind := .primitive 'B', accessFlags := 0x411 }
/-- [B -/
def k9 : Class := { plain "[B" (some 0) with kind := .array 8 .byte, interfaces := #[6, 7], accessFlags := 1041 }

/-- the primitive int -/
def k10 : Class := { plain "int" none with kind := .primitive 'I', accessFlags := 0x411 }
/-- [I -/
def k11 : Class := { plain "[I" (some 0) with kind := .array 10 .int, interfaces := #[6, 7], accessFlags := 1041 }

def heap : Heap := #[]
def classes : Array Class := #[k0, k1, k2, k3, k4, k5, k6, k7, k8, k9, k10, k11]
def interned : List (Array UInt16 × Addr) := []
def slotsUsed : Nat := 0
def theMethod : MethodId := ⟨1, 1⟩
def args0 : Array Value := #[.long 5, .int 1, .long 5, .int 1, .int 1]
def aboutOver (below : List Frame) : State where
  vm := { classes := classes, interned := interned.toArray }
  heap := heap
  slotsUsed := slotsUsed
  threads := #[{ frames := .invoking theMethod args0 :: below }]
def below0 : List Frame := [.native { method := ⟨0, 0⟩, args := #[] }]
def about1 : State := aboutOver below0
def p0 : Program := .bare "" "" ""
def e0 : Env := launch0.env 0 0 0
theorem w_frames : about1.frames = Frame.invoking theMethod args0 :: below0 := rfl
set_option maxRecDepth 65536 in
theorem w_args : argsFit about1.vm theMethod args0 = true := by decide +kernel
set_option maxRecDepth 65536 in
theorem w_heap : heapFits about1 = true := by decide +kernel
set_option maxRecDepth 65536 in
theorem w_runnable : about1.curStatus? = some .runnable := by decide +kernel
set_option maxRecDepth 65536 in
theorem w_alone : about1.alone = true := by decide +kernel
set_option maxRecDepth 65536 in
theorem w_named : about1.methodNamed? x = some theMethod := by decide +kernel
set_option maxRecDepth 65536 in
theorem w_hears : about1.hears theMethod below0 = true := by decide +kernel
set_option maxRecDepth 65536 in
theorem w_ripe : about1.ripe theMethod args0 below0 = true := by decide +kernel
theorem w_running : about1.status = .running := rfl
set_option maxRecDepth 65536 in
theorem w_room : about1.hasRoom e0.platform room_1 = true :=
  launch0.hasRoom_least _ room_1 (by decide +kernel) (by decide +kernel) (by decide +kernel) (by decide +kernel) (by decide +kernel) (by decide +kernel)
theorem allAtoms_all (ts : List Jvm.Cond) (a : Array Jvm.Value) (st : Jvm.State) : (allAtoms ts).before a st = ts.all (fun c => c.before a st) := by
  induction ts with
  | nil => rfl
  | cons c t ih =>
    show (Jvm.Cond.and c (allAtoms t)).before a st = _
    rw [Jvm.Cond.before_and, ih, List.all_cons]
def words1 : List Jvm.Cond := Jvm.Cond.code x code maxLocals ret :: tables_1
/-- a 'code' word, met by the world's own term for the bytes: nothing is compared byte by byte -/
theorem code_word {y : MethodName} {bytes : ByteArray} {mx : Nat} {rt : Option FieldType} {a : Array Value} {s : State} {m : MethodId} {meth : Method} {c : Code} (h1 : s.methodNamed? y = some m) (h2 : s.vm.method? m = some meth) (h3 : meth.code = some c) (h4 : c.code = bytes)
    (h5 : (c.maxLocals == mx && c.exceptionTable.isEmpty && decide (c.maxStack ≤ mostOperands) && decide (meth.sig.returnType = rt) && !meth.locks && decide (parseMethodDescriptor y.desc = some meth.sig)) = true) : (Jvm.Cond.code y bytes mx rt).before a s = true := by
  simp only [Bool.and_eq_true, beq_iff_eq, Bool.not_eq_true', decide_eq_true_eq] at h5
  obtain ⟨⟨⟨⟨⟨g1, g2⟩, g3⟩, g4⟩, g5⟩, g6⟩ := h5
  simp [Cond.before, Cond.holds, Cond.value, h1, h2, h3, h4, g1, g2, g3, g4, g5, g6]
def isCode : Jvm.Cond → Bool
  | .code _ _ _ _ => true
  | _ => false
theorem all_split {L : List Jvm.Cond} {P : Jvm.Cond → Bool} (h1 : L.all (fun c => isCode c || P c) = true) (h2 : ∀ c ∈ L.filter isCode, P c = true) : L.all P = true := by
  refine List.all_eq_true.mpr fun c hc => ?_
  have h := List.all_eq_true.mp h1 c hc
  rcases Bool.eq_false_or_eq_true (isCode c) with hi | hi
  · exact h2 c (List.mem_filter.mpr ⟨hc, hi⟩)
  · simpa [hi] using h
set_option maxRecDepth 65536 in
theorem w_c0 : (Jvm.Cond.code x code maxLocals ret).before args0 about1 = true := code_word (m := ⟨1, 1⟩) (meth := k1m1) (c := k1c1) (by decide +kernel) rfl rfl rfl (by decide +kernel)
set_option maxRecDepth 65536 in
theorem w_c1 : (Jvm.Cond.code ({ cls := "java/lang/Math", name := "max", desc := "(II)I" } : Jvm.MethodName) jdk_29_method_65_code (2 : Nat) (Option.some Jvm.ClassFile.FieldType.int)).before args0 about1 = true := code_word (m := ⟨2, 1⟩) (meth := k2m1) (c := k2c1) (by decide +kernel) rfl rfl rfl (by decide +kernel)
set_option maxRecDepth 65536 in
theorem w_c2 : (Jvm.Cond.code ({ cls := "com/example/coverfold/coverfold/Figures$Sum", name := "<init>", desc := "()V" } : Jvm.MethodName) prog_58_method_1_code (1 : Nat) (Option.none : Option Jvm.ClassFile.FieldType)).before args0 about1 = true := code_word (m := ⟨3, 0⟩) (meth := k3m0) (c := k3c0) (by decide +kernel) rfl rfl rfl (by decide +kernel)
set_option maxRecDepth 65536 in
theorem w_c3 : (Jvm.Cond.code ({ cls := "java/lang/Object", name := "<init>", desc := "()V" } : Jvm.MethodName) object_method_1_code (1 : Nat) (Option.none : Option Jvm.ClassFile.FieldType)).before args0 about1 = true := code_word (m := ⟨0, 0⟩) (meth := k0m0) (c := k0c0) (by decide +kernel) rfl rfl rfl (by decide +kernel)
set_option maxRecDepth 65536 in
theorem w_c4 : (Jvm.Cond.code ({ cls := "com/example/coverfold/coverfold/Figures$Sum", name := "add", desc := "(JI)V" } : Jvm.MethodName) prog_58_method_3_code (4 : Nat) (Option.none : Option Jvm.ClassFile.FieldType)).before args0 about1 = true := code_word (m := ⟨3, 1⟩) (meth := k3m1) (c := k3c1) (by decide +kernel) rfl rfl rfl (by decide +kernel)
set_option maxRecDepth 65536 in
theorem w_c5 : (Jvm.Cond.code ({ cls := "com/example/coverfold/coverfold/Figures$Sum", name := "isDecided", desc := "()Z" } : Jvm.MethodName) prog_58_method_5_code (1 : Nat) (Option.some Jvm.ClassFile.FieldType.boolean)).before args0 about1 = true := code_word (m := ⟨3, 2⟩) (meth := k3m2) (c := k3c2) (by decide +kernel) rfl rfl rfl (by decide +kernel)
set_option maxRecDepth 65536 in
theorem w_c6 : (Jvm.Cond.code ({ cls := "com/example/coverfold/coverfold/Figures$Sum", name := "rounded", desc := "()J" } : Jvm.MethodName) prog_58_method_7_code (5 : Nat) (Option.some Jvm.ClassFile.FieldType.long)).before args0 about1 = true := code_word (m := ⟨3, 4⟩) (meth := k3m4) (c := k3c4) (by decide +kernel) rfl rfl rfl (by decide +kernel)
set_option maxRecDepth 65536 in
theorem w_c7 : (Jvm.Cond.code ({ cls := "com/example/coverfold/coverfold/Figures$Sum", name := "put", desc := "([BI)I" } : Jvm.MethodName) prog_58_method_6_code (5 : Nat) (Option.some Jvm.ClassFile.FieldType.int)).before args0 about1 = true := code_word (m := ⟨3, 3⟩) (meth := k3m3) (c := k3c3) (by decide +kernel) rfl rfl rfl (by decide +kernel)
set_option maxRecDepth 65536 in
theorem w_c8 : (Jvm.Cond.code ({ cls := "com/example/coverfold/coverfold/Rational", name := "putFixed", desc := "(ZJJI[BI)I" } : Jvm.MethodName) prog_87_method_32_code (15 : Nat) (Option.some Jvm.ClassFile.FieldType.int)).before args0 about1 = true := code_word (m := ⟨5, 0⟩) (meth := k5m0) (c := k5c0) (by decide +kernel) rfl rfl rfl (by decide +kernel)
set_option maxRecDepth 65536 in
theorem w_c9 : (Jvm.Cond.code ({ cls := "com/example/coverfold/coverfold/SumAddPinLaw", name := "same", desc := "([B[B)Z" } : Jvm.MethodName) method_3_code (2 : Nat) (Option.some Jvm.ClassFile.FieldType.boolean)).before args0 about1 = true := code_word (m := ⟨1, 2⟩) (meth := k1m2) (c := k1c2) (by decide +kernel) rfl rfl rfl (by decide +kernel)
def codes1 : List Jvm.Cond := [Jvm.Cond.code x code maxLocals ret, Jvm.Cond.code ({ cls := "java/lang/Math", name := "max", desc := "(II)I" } : Jvm.MethodName) jdk_29_method_65_code (2 : Nat) (Option.some Jvm.ClassFile.FieldType.int), Jvm.Cond.code ({ cls := "com/example/coverfold/coverfold/Figures$Sum", name := "<init>", desc := "()V" } : Jvm.MethodName) prog_58_method_1_code (1 : Nat) (Option.none : Option Jvm.ClassFile.FieldType), Jvm.Cond.code ({ cls := "java/lang/Object", name := "<init>", desc := "()V" } : Jvm.MethodName) object_method_1_code (1 : Nat) (Option.none : Option Jvm.ClassFile.FieldType), Jvm.Cond.code ({ cls := "com/example/coverfold/coverfold/Figures$Sum", name := "add", desc := "(JI)V" } : Jvm.MethodName) prog_58_method_3_code (4 : Nat) (Option.none : Option Jvm.ClassFile.FieldType), Jvm.Cond.code ({ cls := "com/example/coverfold/coverfold/Figures$Sum", name := "isDecided", desc := "()Z" } : Jvm.MethodName) prog_58_method_5_code (1 : Nat) (Option.some Jvm.ClassFile.FieldType.boolean), Jvm.Cond.code ({ cls := "com/example/coverfold/coverfold/Figures$Sum", name := "rounded", desc := "()J" } : Jvm.MethodName) prog_58_method_7_code (5 : Nat) (Option.some Jvm.ClassFile.FieldType.long), Jvm.Cond.code ({ cls := "com/example/coverfold/coverfold/Figures$Sum", name := "put", desc := "([BI)I" } : Jvm.MethodName) prog_58_method_6_code (5 : Nat) (Option.some Jvm.ClassFile.FieldType.int), Jvm.Cond.code ({ cls := "com/example/coverfold/coverfold/Rational", name := "putFixed", desc := "(ZJJI[BI)I" } : Jvm.MethodName) prog_87_method_32_code (15 : Nat) (Option.some Jvm.ClassFile.FieldType.int), Jvm.Cond.code ({ cls := "com/example/coverfold/coverfold/SumAddPinLaw", name := "same", desc := "([B[B)Z" } : Jvm.MethodName) method_3_code (2 : Nat) (Option.some Jvm.ClassFile.FieldType.boolean)]
set_option maxRecDepth 65536 in
theorem codes_eq : words1.filter isCode = codes1 := rfl
theorem w_codes : ∀ c ∈ words1.filter isCode, c.before args0 about1 = true := by
  rw [codes_eq]
  intro c hc
  simp only [codes1, List.mem_cons, List.not_mem_nil, or_false] at hc
  rcases hc with rfl | rfl | rfl | rfl | rfl | rfl | rfl | rfl | rfl | rfl
  · exact w_c0
  · exact w_c1
  · exact w_c2
  · exact w_c3
  · exact w_c4
  · exact w_c5
  · exact w_c6
  · exact w_c7
  · exact w_c8
  · exact w_c9
set_option maxRecDepth 65536 in
theorem w_t1 : (words1.take 24).all (fun c => isCode c || c.before args0 about1) = true := by decide +kernel
set_option maxRecDepth 65536 in
theorem w_t2 : ((words1.drop 24).take 24).all (fun c => isCode c || c.before args0 about1) = true := by decide +kernel
set_option maxRecDepth 65536 in
theorem w_t3 : ((words1.drop 24).drop 24).all (fun c => isCode c || c.before args0 about1) = true := by decide +kernel
theorem w_tables : (allAtoms (Jvm.Cond.code x code maxLocals ret :: tables_1)).before args0 about1 = true := by
  rw [allAtoms_all]
  show words1.all (fun c => c.before args0 about1) = true
  refine all_split ?_ w_codes
  rw [← List.take_append_drop 24 words1, List.all_append, w_t1, ← List.take_append_drop 24 (words1.drop 24), List.all_append, w_t2, w_t3]
  rfl
set_option maxRecDepth 65536 in
theorem w_case : (Jvm.Cond.and given_1 narrow_1).before args0 about1 = true := by decide +kernel
theorem w_applies : (headSpec (Jvm.Cond.code x code maxLocals ret :: tables_1) room_1).applies x e0.platform about1 = true :=
  (Spec.applies_iff w_frames).mpr ⟨w_running, w_runnable, w_alone, w_named, w_hears, w_ripe, w_room, w_tables⟩
theorem atStart : AtStart classFile x code maxLocals ret World_1 tables_1 room_1 Calls_1 rest_1 Pre_1 launch0 p0 e0 about1 theMethod args0 below0 :=
  ⟨lists_1, trivial, launch0.admits_env _ _ _, launch0.least_env, fairChoices_fair.cas, fairChoices_fair.clock, w_frames, w_args, w_heap, w_applies, trivial, trivial, w_case⟩
end start1
theorem witness_1 : WitnessClaimed_1 := ⟨start1.p0, start1.e0, start1.about1, start1.theMethod, start1.args0, start1.below0, start1.atStart⟩
end Jvm.Pilot.@@N@@
