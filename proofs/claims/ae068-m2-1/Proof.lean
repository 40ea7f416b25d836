import JvmDerived
import JvmDerived.Pilot.@@N@@Statement
import JvmDerived.Pilot.@@N@@Code
set_option linter.unusedVariables false
set_option linter.unusedSimpArgs false
@@BLOCK:NumsL.lean.txt@@
namespace Jvm.Pilot.@@N@@
open Jvm Jvm.ClassFile Sem Op Lib Jvm.Free Jvm.Stand Jvm.LawKit Jvm.RoadKit Bundle Jvm.Pilot.@@N@@.Jvm.D

/-! the walk's goal, read backwards: from here the run comes to its end -/
def own_Done (p : Program) (e : Env) (below : List Frame) (W : State) (Q : Outcome → State → Prop) : Prop := ∃ s₂ o, Steps p.tables e below W s₂ ∧ s₂.status = .running ∧ Ended s₂ below o ∧ Q o s₂
theorem own_step {p : Program} {e : Env} {below : List Frame} {W W' : State} {Q : Outcome → State → Prop} (st : ∀ t, Steps p.tables e below W' t → Steps p.tables e below W t) (h : own_Done p e below W' Q) : own_Done p e below W Q := by
  obtain ⟨s2, o, h1, r⟩ := h
  exact ⟨s2, o, st _ h1, r⟩
theorem own_enter {p : Program} {e : Env} {below : List Frame} {T : State} {g g' : JFrame} {Q : Outcome → State → Prop} (q : g = g') (h : own_Done p e below (T.setTop g') Q) : ∃ s₂ o, Steps p.tables e below (T.setTop g) s₂ ∧ s₂.status = .running ∧ Ended s₂ below o ∧ Q o s₂ := by
  subst q; exact h
theorem own_ret {p : Program} {l : Launch} {e : Env} {R : Room} {s : State} {m : MethodId} {args : Array Value} {below : List Frame} {meth : Method} {c : Code} {T W : State} {locs : List Loc} {cells slots k n : Nat} {r : Option Value → Heap → List Loc → Prop} {v : Value} {t : FieldType}
    (X : Stand p l e R s m args below meth c T locs cells slots) (hlocks : meth.locks = false) (hret : meth.sig.returnType = some t)
    (hs : ∀ fs : List Frame, (∀ (f : JFrame) (acts : List Action), f.method = m → f.locked = none → f.entered = [] → (doReturn e (T.setTop f) acts (some v)).1 = T.setFrames fs) → Steps p.tables e below W (T.setFrames fs))
    (hq : r (some v) T.heap locs) (hk : cells ≤ k) (hn : slots ≤ n) : own_Done p e below W (fun o U' => ∃ v L, o = .returned v ∧ r v U'.heap L ∧ FrameEnd s o U' L k n) := by
  obtain ⟨fs, hr, hrun, hended, hW, hsame⟩ := X.leave (v := some v) (fun h => by rw [hret] at h; cases h) hlocks
  exact ⟨_, _, hs fs hr, hrun, hended, _, _, rfl, hq, ⟨_, rfl⟩, hW, hsame.mono hk hn⟩
theorem own_ret0 {p : Program} {l : Launch} {e : Env} {R : Room} {s : State} {m : MethodId} {args : Array Value} {below : List Frame} {meth : Method} {c : Code} {T W : State} {locs : List Loc} {cells slots k n : Nat} {r : Option Value → Heap → List Loc → Prop}
    (X : Stand p l e R s m args below meth c T locs cells slots) (hlocks : meth.locks = false) (hret : meth.sig.returnType = none)
    (hs : ∀ fs : List Frame, (∀ (f : JFrame) (acts : List Action), f.method = m → f.locked = none → f.entered = [] → (doReturn e (T.setTop f) acts none).1 = T.setFrames fs) → Steps p.tables e below W (T.setFrames fs))
    (hq : r none T.heap locs) (hk : cells ≤ k) (hn : slots ≤ n) : own_Done p e below W (fun o U' => ∃ v L, o = .returned v ∧ r v U'.heap L ∧ FrameEnd s o U' L k n) := by
  obtain ⟨fs, hr, hrun, hended, hW, hsame⟩ := X.leave (v := none) (fun _ => rfl) hlocks
  exact ⟨_, _, hs fs hr, hrun, hended, _, _, rfl, hq, ⟨_, rfl⟩, hW, hsame.mono hk hn⟩
/-- a body that writes nothing and returns r -/
def own_QK (r : Option Value) (h0 : Heap) (n0 : Nat) (v : Option Value) (h : Heap) (L : List Loc) : Prop := v = r ∧ Fr n0 L ∧ h = h0
/-- the law itself -/
def own_Q0 (n0 : Nat) (v : Option Value) (h : Heap) (L : List Loc) : Prop := v = some (.int (1 : Int32)) ∧ Fr n0 L

theorem own_eqJ {args : Array Value} {first s : State} {o : Option Outcome} {idx : List Nat} {t : Term} {k : Int64} (h : (Cond.eq t (.long k)).value args first o s idx = some true) : t.eval args first o idx s = some (.long k) := by
  obtain ⟨u, w, e1, e2, -, k2⟩ := cmp_v (Or.inl h)
  have e3 : (Term.long k).eval args first o idx s = some (.long k) := rfl
  cases e3.symm.trans e2
  obtain ⟨z, rfl⟩ := k2
  rw [e1]
  have := gotT (eq_L e1 e3) h
  rw [this]
theorem own_fldI {Z : State} {args : Array Value} {t : Term} {a : Addr} {C n d : String} {k : Int32} (ev : t.eval args Z none [] Z = some (.ref a)) (h : (Cond.eq (.field t C n d) (.int k)).value args Z none Z [] = some true) : Fld Z Z.heap a C n d (.int k) := by
  refine Fld.start ?_
  rw [← fld_at (C := C) (n := n) (dd := d) ev]
  obtain ⟨u, w, e1, e2, -, k2⟩ := cmp_v (Or.inl h)
  cases (Term.int_eval k).symm.trans e2
  obtain ⟨z, rfl⟩ := k2
  rw [e1]
  simp [Cond.value, e1, Term.int_eval] at h
  rw [h]
theorem own_fldN {Z : State} {args : Array Value} {t : Term} {a : Addr} {C n d : String} (ev : t.eval args Z none [] Z = some (.ref a)) (h : (Cond.eq (.field t C n d) .null).value args Z none Z [] = some true) : Fld Z Z.heap a C n d .null := by
  refine Fld.start ?_
  rw [← fld_at (C := C) (n := n) (dd := d) ev]
  exact null_v h
theorem own_fldR {Z : State} {args : Array Value} {t u : Term} {a b : Addr} {C n d : String} (ev : t.eval args Z none [] Z = some (.ref a)) (eu : u.eval args Z none [] Z = some (.ref b)) (h : (Cond.eq (.field t C n d) u).value args Z none Z [] = some true) : Fld Z Z.heap a C n d (.ref b) := by
  refine Fld.start ?_
  rw [← fld_at (C := C) (n := n) (dd := d) ev]
  obtain ⟨x, w, e1, e2, k1, k2⟩ := cmp_v (Or.inl h)
  cases eu.symm.trans e2
  obtain ⟨-, hx⟩ := k2
  rw [e1]
  have := gotT (eq_R e1 eu hx rfl) h
  rw [this]

theorem own_mask (p : Int32) : 0 ≤ (p &&& (2147483647 : Int32)).toInt := by
  have e1 : (p &&& (2147483647 : Int32)).toInt = p.toInt % 2 ^ 31 := Jvm.Kit.i32_mask p 2147483647 (k := 31) (by decide) (by decide)
  omega
theorem own_rem (p q : Int32) (h : 0 < q.toInt) : 0 ≤ ((p &&& (2147483647 : Int32)) % q).toInt ∧ ((p &&& (2147483647 : Int32)) % q).toInt < q.toInt := by
  have h0 := own_mask p
  rw [Int32.toInt_mod]
  exact ⟨Int.tmod_nonneg _ h0, Int.tmod_lt_of_pos _ h⟩
theorem own_m5 (p : Int32) : ((p &&& (2147483647 : Int32)) % (5 : Int32)) = (0 : Int32) ∨ ((p &&& (2147483647 : Int32)) % (5 : Int32)) = (1 : Int32) ∨ ((p &&& (2147483647 : Int32)) % (5 : Int32)) = (2 : Int32) ∨ ((p &&& (2147483647 : Int32)) % (5 : Int32)) = (3 : Int32) ∨ ((p &&& (2147483647 : Int32)) % (5 : Int32)) = (4 : Int32) := by
  have h := own_rem p (5 : Int32) (by decide)
  have hq : (5 : Int32).toInt = 5 := by decide
  rw [hq] at h
  generalize ((p &&& (2147483647 : Int32)) % (5 : Int32)) = z at h
  have hz : z.toInt = 0 ∨ z.toInt = 1 ∨ z.toInt = 2 ∨ z.toInt = 3 ∨ z.toInt = 4 := by omega
  rcases hz with hz | hz | hz | hz | hz
  · exact Or.inl (Int32.toInt_inj.mp (hz.trans (by decide)))
  · exact Or.inr (Or.inl (Int32.toInt_inj.mp (hz.trans (by decide))))
  · exact Or.inr (Or.inr (Or.inl (Int32.toInt_inj.mp (hz.trans (by decide)))))
  · exact Or.inr (Or.inr (Or.inr (Or.inl (Int32.toInt_inj.mp (hz.trans (by decide))))))
  · exact Or.inr (Or.inr (Or.inr (Or.inr ((Int32.toInt_inj.mp (hz.trans (by decide)))))))

theorem own_extWr {h0 h h' : Heap} {a : Addr} {sl : Nat} {v : Value} (E : Ext h0 h) (W : Wr h h' a sl v) (q : h0.size ≤ a) : Ext h0 h' :=
  ⟨by rw [W.size]; exact E.1, fun x c hx => by
    have hlt := (Array.getElem?_eq_some_iff.mp hx).1
    exact (Keep.of_wr W).2.1 x c (E.2 x c hx) (ninS (Nat.ne_of_lt (Nat.lt_of_lt_of_le hlt q)) nin0)⟩
theorem own_extTrans {h0 h h' : Heap} (E : Ext h0 h) (F : Ext h h') : Ext h0 h' := ⟨Nat.le_trans E.1 F.1, fun x c hx => F.2 x c (E.2 x c hx)⟩
theorem own_new {Z : State} {h : Heap} {a : Addr} {k : ClassId} {ty : FieldType} {z : Int32} {n : Nat} (A : Arr Z h a (newA k ty z) ty) (q : ¬ z < 0) (hn : z.toNatClampNeg = n) : Arv Z h a k ty z (List.replicate n (defaultValue ty)) (defaultValue ty) :=
  (Arv.new A q).pad (pad_rep [] (defaultValue ty) n)
section OwnArr
variable {p : Program} {l : Launch} {e : Env} {R : Room} {s : State} {m : MethodId} {args : Array Value} {below : List Frame} {meth : Method} {c : Code} {T : State} {locs : List Loc} {cells slots : Nat} {Z : State} {h h0 : Heap} {a : Addr} {k : ClassId} {n : Int32} {vs : List Value} {dv : Value} {n0 : Nat}
theorem own_stZ (X : Stand p l e R s m args below meth c T locs cells slots) (hx : p.tables.exec = Jvm.exec) (hZ : Z.Warmed39 s.vm) (eT : T.heap = h) (A : Arv Z h a k .boolean n vs dv) {j x : Int32} {i : Nat} (hj : ¬ j < 0 ∧ j < n) (hi : j.toNatClampNeg = i) (hlt : i < vs.length) (E0 : Ext h0 h) (hb : h0.size ≤ a) (N0 : Fr n0 locs) (hn0 : n0 ≤ a)
    {g : JFrame} (hg : g.method = m) {rest : List Value} (hs : g.stack = .int x :: .int j :: .ref a :: rest) (hd : decode c.code g.pc = .ok (.bastore, 1)) :
    ∃ T' h' L', Stand p l e R s m args below meth c T' L' cells slots ∧ T'.heap = h' ∧ Ext h0 h' ∧ Fr n0 L' ∧ Arv Z h' a k .boolean n (vs.set i (.int (nar .boolean x))) dv ∧ ∀ target, Steps p.tables e below (T'.setTop { g with pc := g.pc + 1, stack := rest }) target → Steps p.tables e below (T.setTop g) target := by
  obtain ⟨cl, Ar, q, S, N, H, G⟩ := A
  obtain ⟨T', h', X', e', W, st⟩ := stZ X hx hZ eT Ar (j := j) (x := x) (inb_of S hj) hg hs hd
  exact ⟨T', h', _, X', e', own_extWr E0 W hb, Fr.snoc X' N0 hn0, Arv.set Ar q S N H G (fits_nar_bool x) W i hi hlt, st⟩
theorem own_stB (X : Stand p l e R s m args below meth c T locs cells slots) (hx : p.tables.exec = Jvm.exec) (hZ : Z.Warmed39 s.vm) (eT : T.heap = h) (A : Arv Z h a k .byte n vs dv) {j x : Int32} {i : Nat} (hj : ¬ j < 0 ∧ j < n) (hi : j.toNatClampNeg = i) (hlt : i < vs.length) (E0 : Ext h0 h) (hb : h0.size ≤ a) (N0 : Fr n0 locs) (hn0 : n0 ≤ a)
    {g : JFrame} (hg : g.method = m) {rest : List Value} (hs : g.stack = .int x :: .int j :: .ref a :: rest) (hd : decode c.code g.pc = .ok (.bastore, 1)) :
    ∃ T' h' L', Stand p l e R s m args below meth c T' L' cells slots ∧ T'.heap = h' ∧ Ext h0 h' ∧ Fr n0 L' ∧ Arv Z h' a k .byte n (vs.set i (.int (nar .byte x))) dv ∧ ∀ target, Steps p.tables e below (T'.setTop { g with pc := g.pc + 1, stack := rest }) target → Steps p.tables e below (T.setTop g) target := by
  obtain ⟨cl, Ar, q, S, N, H, G⟩ := A
  obtain ⟨T', h', X', e', W, st⟩ := stB X hx hZ eT Ar (j := j) (x := x) (inb_of S hj) hg hs hd
  exact ⟨T', h', _, X', e', own_extWr E0 W hb, Fr.snoc X' N0 hn0, Arv.set Ar q S N H G (fits_nar_byte x) W i hi hlt, st⟩
theorem own_stR (X : Stand p l e R s m args below meth c T locs cells slots) (hx : p.tables.exec = Jvm.exec) (hZ : Z.Warmed39 s.vm) (eT : T.heap = h) {C : String} (A : Arv Z h a k (.object C) n vs dv) (O : Ovr Z k C) {j : Int32} {y : Addr} (Y : Exa Z h y C) {i : Nat} (hj : ¬ j < 0 ∧ j < n) (hi : j.toNatClampNeg = i) (hlt : i < vs.length) (E0 : Ext h0 h) (hb : h0.size ≤ a) (N0 : Fr n0 locs) (hn0 : n0 ≤ a)
    {g : JFrame} (hg : g.method = m) {rest : List Value} (hs : g.stack = .ref y :: .int j :: .ref a :: rest) (hd : decode c.code g.pc = .ok (.aastore, 1)) :
    ∃ T' h' L', Stand p l e R s m args below meth c T' L' cells slots ∧ T'.heap = h' ∧ Ext h0 h' ∧ Fr n0 L' ∧ Arv Z h' a k (.object C) n (vs.set i (.ref y)) dv ∧ ∀ target, Steps p.tables e below (T'.setTop { g with pc := g.pc + 1, stack := rest }) target → Steps p.tables e below (T.setTop g) target := by
  obtain ⟨cl, Ar, q, S, N, H, G⟩ := A
  obtain ⟨T', h', X', e', W, st⟩ := stR X hx hZ eT Ar (j := j) (v := .ref y) (inb_of S hj) rfl (Sto.ofV Ar q O (Ins.self Y)) hg hs hd
  exact ⟨T', h', _, X', e', own_extWr E0 W hb, Fr.snoc X' N0 hn0, Arv.set Ar q S N H G rfl W i hi hlt, st⟩
theorem own_ldZ (X : Stand p l e R s m args below meth c T locs cells slots) (hx : p.tables.exec = Jvm.exec) (hZ : Z.Warmed39 s.vm) (eT : T.heap = h) (A : Arv Z h a k .boolean n vs dv) {j : Int32} {v : Value} (hj : ¬ j < 0 ∧ j < n) (hv : vs.getD j.toNatClampNeg dv = v)
    {g : JFrame} (hg : g.method = m) {rest : List Value} (hs : g.stack = .int j :: .ref a :: rest) (hd : decode c.code g.pc = .ok (.baload, 1)) (target : State)
    (hr : Steps p.tables e below (T.setTop { g with pc := g.pc + 1, stack := v :: rest }) target) : Steps p.tables e below (T.setTop g) target := by
  obtain ⟨cl, Ar, q, S, N, H, G⟩ := A
  exact X.baloadBooleans hx (by rw [eT]; exact Ar.1) (State.isArrayOf_alike hZ.alike Ar.2.1) Ar.2.2 (inb_of S hj) (Has.at H (inb_of S hj) hv) hg hs hd target hr
theorem own_ldB (X : Stand p l e R s m args below meth c T locs cells slots) (hx : p.tables.exec = Jvm.exec) (hZ : Z.Warmed39 s.vm) (eT : T.heap = h) (A : Arv Z h a k .byte n vs dv) {j : Int32} {v : Value} (hj : ¬ j < 0 ∧ j < n) (hv : vs.getD j.toNatClampNeg dv = v)
    {g : JFrame} (hg : g.method = m) {rest : List Value} (hs : g.stack = .int j :: .ref a :: rest) (hd : decode c.code g.pc = .ok (.baload, 1)) (target : State)
    (hr : Steps p.tables e below (T.setTop { g with pc := g.pc + 1, stack := v :: rest }) target) : Steps p.tables e below (T.setTop g) target := by
  obtain ⟨cl, Ar, q, S, N, H, G⟩ := A
  exact X.baloadBytes hx (by rw [eT]; exact Ar.1) (State.isArrayOf_alike hZ.alike Ar.2.1) Ar.2.2 (inb_of S hj) (Has.at H (inb_of S hj) hv) hg hs hd target hr
theorem own_ldR (X : Stand p l e R s m args below meth c T locs cells slots) (hx : p.tables.exec = Jvm.exec) (hZ : Z.Warmed39 s.vm) (eT : T.heap = h) {C : String} (A : Arv Z h a k (.object C) n vs dv) {j : Int32} {v : Value} (hj : ¬ j < 0 ∧ j < n) (hv : vs.getD j.toNatClampNeg dv = v)
    {g : JFrame} (hg : g.method = m) {rest : List Value} (hs : g.stack = .int j :: .ref a :: rest) (hd : decode c.code g.pc = .ok (.aaload, 1)) (target : State)
    (hr : Steps p.tables e below (T.setTop { g with pc := g.pc + 1, stack := v :: rest }) target) : Steps p.tables e below (T.setTop g) target := by
  obtain ⟨cl, Ar, q, S, N, H, G⟩ := A
  exact X.aaload hx (by rw [eT]; exact Ar.1) (State.isArrayOf_alike hZ.alike Ar.2.1) rfl Ar.2.2 (inb_of S hj) (Has.at H (inb_of S hj) hv) hg hs hd target hr
end OwnArr
theorem d1_0 : decode prog_19_method_5_code 0 = .ok (.aload_n 0, 1) := by decide +kernel
theorem d1_1 : decode prog_19_method_5_code 1 = .ok (.getstatic 7, 3) := by decide +kernel
theorem d1_4 : decode prog_19_method_5_code 4 = .ok (.if_acmp .eq 10, 3) := by decide +kernel
theorem d1_7 : decode prog_19_method_5_code 7 = .ok (.aload_n 0, 1) := by decide +kernel
theorem d1_8 : decode prog_19_method_5_code 8 = .ok (.getstatic 16, 3) := by decide +kernel
theorem d1_11 : decode prog_19_method_5_code 11 = .ok (.if_acmp .ne 7, 3) := by decide +kernel
theorem d1_18 : decode prog_19_method_5_code 18 = .ok (.iconst 0, 1) := by decide +kernel
theorem d1_19 : decode prog_19_method_5_code 19 = .ok (.ireturn, 1) := by decide +kernel
theorem ef_1_R (m : MethodId) (x0 : Addr) : entryFrame m #[(.ref x0)] 1 = mkF m 0 #[.val (.ref x0)] [] := by first | (simp [entryFrame, mkF, argsToLocals, Value.category]; done) | rfl
theorem pn_com_example_strict_bill_strictbill_core_Invoice_Status : plainName "com/example/strict_bill/strictbill/core/Invoice$Status" = true := by first | (simp [plainName, overriddenIn]; done) | decide +kernel
theorem pd_0 : parseMethodDescriptor "()Z" = some ⟨[], some .boolean⟩ := by decide +kernel
theorem ef_0_I (m : MethodId) (x0 : Int32) : entryFrame m #[(.int x0)] maxLocals = mkF m 0 #[.val (.int x0), .unset, .unset, .unset, .unset, .unset] [] := by first | (simp [entryFrame, mkF, argsToLocals, Value.category, maxLocals]; done) | rfl
theorem pn_com_example_strict_bill_strictbill_core_StatusPaidPinLaw : plainName "com/example/strict_bill/strictbill/core/StatusPaidPinLaw" = true := by first | (simp [plainName, overriddenIn]; done) | decide +kernel
theorem d1_14 : decode prog_19_method_5_code 14 = .ok (.iconst 1, 1) := by decide +kernel
theorem d1_15 : decode prog_19_method_5_code 15 = .ok (.goto 4, 3) := by decide +kernel
theorem d2_0 : decode prog_19_method_4_code 0 = .ok (.aload_n 0, 1) := by decide +kernel
theorem d2_1 : decode prog_19_method_4_code 1 = .ok (.getstatic 3, 3) := by decide +kernel
theorem d2_4 : decode prog_19_method_4_code 4 = .ok (.if_acmp .eq 10, 3) := by decide +kernel
theorem d2_7 : decode prog_19_method_4_code 7 = .ok (.aload_n 0, 1) := by decide +kernel
theorem d2_8 : decode prog_19_method_4_code 8 = .ok (.getstatic 10, 3) := by decide +kernel
theorem d2_11 : decode prog_19_method_4_code 11 = .ok (.if_acmp .ne 7, 3) := by decide +kernel
theorem d2_18 : decode prog_19_method_4_code 18 = .ok (.iconst 0, 1) := by decide +kernel
theorem d2_19 : decode prog_19_method_4_code 19 = .ok (.ireturn, 1) := by decide +kernel
theorem ef_2_R (m : MethodId) (x0 : Addr) : entryFrame m #[(.ref x0)] 1 = mkF m 0 #[.val (.ref x0)] [] := by first | (simp [entryFrame, mkF, argsToLocals, Value.category]; done) | rfl
/-- what the case pins of the constants -/
def Pins (Z : State) (h : Heap) (w : Nat → Addr) : Prop := Exa Z h (w 0) "com/example/strict_bill/strictbill/core/Invoice$Status" ∧ Sta Z h "com/example/strict_bill/strictbill/core/Invoice$Status" "PENDING" "Lcom/example/strict_bill/strictbill/core/Invoice$Status;" (.ref (w 0)) ∧ Exa Z h (w 1) "com/example/strict_bill/strictbill/core/Invoice$Status" ∧ Sta Z h "com/example/strict_bill/strictbill/core/Invoice$Status" "PAID" "Lcom/example/strict_bill/strictbill/core/Invoice$Status;" (.ref (w 1)) ∧ Fld Z h (w 0) "java/lang/Enum" "ordinal" "I" (.int (0 : Int32)) ∧ Fld Z h (w 1) "java/lang/Enum" "ordinal" "I" (.int (1 : Int32)) ∧ Exa Z h (w 2) "com/example/strict_bill/strictbill/core/Invoice$Status" ∧ Sta Z h "com/example/strict_bill/strictbill/core/Invoice$Status" "REFUNDED" "Lcom/example/strict_bill/strictbill/core/Invoice$Status;" (.ref (w 2)) ∧ Fld Z h (w 2) "java/lang/Enum" "ordinal" "I" (.int (4 : Int32)) ∧ Exa Z h (w 3) "com/example/strict_bill/strictbill/core/Invoice$Status" ∧ Sta Z h "com/example/strict_bill/strictbill/core/Invoice$Status" "VOID" "Lcom/example/strict_bill/strictbill/core/Invoice$Status;" (.ref (w 3)) ∧ Fld Z h (w 3) "java/lang/Enum" "ordinal" "I" (.int (3 : Int32)) ∧ Exa Z h (w 4) "com/example/strict_bill/strictbill/core/Invoice$Status" ∧ Sta Z h "com/example/strict_bill/strictbill/core/Invoice$Status" "OVERDUE" "Lcom/example/strict_bill/strictbill/core/Invoice$Status;" (.ref (w 4)) ∧ Fld Z h (w 4) "java/lang/Enum" "ordinal" "I" (.int (2 : Int32))
theorem pin_E0 {Z : State} {h : Heap} {w : Nat → Addr} (P : Pins Z h w) : Exa Z h (w 0) "com/example/strict_bill/strictbill/core/Invoice$Status" := P.1
theorem pin_S0 {Z : State} {h : Heap} {w : Nat → Addr} (P : Pins Z h w) : Sta Z h "com/example/strict_bill/strictbill/core/Invoice$Status" "PENDING" "Lcom/example/strict_bill/strictbill/core/Invoice$Status;" (.ref (w 0)) := P.2.1
theorem pin_E1 {Z : State} {h : Heap} {w : Nat → Addr} (P : Pins Z h w) : Exa Z h (w 1) "com/example/strict_bill/strictbill/core/Invoice$Status" := P.2.2.1
theorem pin_S1 {Z : State} {h : Heap} {w : Nat → Addr} (P : Pins Z h w) : Sta Z h "com/example/strict_bill/strictbill/core/Invoice$Status" "PAID" "Lcom/example/strict_bill/strictbill/core/Invoice$Status;" (.ref (w 1)) := P.2.2.2.1
theorem pin_F0_ordinal {Z : State} {h : Heap} {w : Nat → Addr} (P : Pins Z h w) : Fld Z h (w 0) "java/lang/Enum" "ordinal" "I" (.int (0 : Int32)) := P.2.2.2.2.1
theorem pin_F1_ordinal {Z : State} {h : Heap} {w : Nat → Addr} (P : Pins Z h w) : Fld Z h (w 1) "java/lang/Enum" "ordinal" "I" (.int (1 : Int32)) := P.2.2.2.2.2.1
theorem pin_E2 {Z : State} {h : Heap} {w : Nat → Addr} (P : Pins Z h w) : Exa Z h (w 2) "com/example/strict_bill/strictbill/core/Invoice$Status" := P.2.2.2.2.2.2.1
theorem pin_S2 {Z : State} {h : Heap} {w : Nat → Addr} (P : Pins Z h w) : Sta Z h "com/example/strict_bill/strictbill/core/Invoice$Status" "REFUNDED" "Lcom/example/strict_bill/strictbill/core/Invoice$Status;" (.ref (w 2)) := P.2.2.2.2.2.2.2.1
theorem pin_F2_ordinal {Z : State} {h : Heap} {w : Nat → Addr} (P : Pins Z h w) : Fld Z h (w 2) "java/lang/Enum" "ordinal" "I" (.int (4 : Int32)) := P.2.2.2.2.2.2.2.2.1
theorem pin_E3 {Z : State} {h : Heap} {w : Nat → Addr} (P : Pins Z h w) : Exa Z h (w 3) "com/example/strict_bill/strictbill/core/Invoice$Status" := P.2.2.2.2.2.2.2.2.2.1
theorem pin_S3 {Z : State} {h : Heap} {w : Nat → Addr} (P : Pins Z h w) : Sta Z h "com/example/strict_bill/strictbill/core/Invoice$Status" "VOID" "Lcom/example/strict_bill/strictbill/core/Invoice$Status;" (.ref (w 3)) := P.2.2.2.2.2.2.2.2.2.2.1
theorem pin_F3_ordinal {Z : State} {h : Heap} {w : Nat → Addr} (P : Pins Z h w) : Fld Z h (w 3) "java/lang/Enum" "ordinal" "I" (.int (3 : Int32)) := P.2.2.2.2.2.2.2.2.2.2.2.1
theorem pin_E4 {Z : State} {h : Heap} {w : Nat → Addr} (P : Pins Z h w) : Exa Z h (w 4) "com/example/strict_bill/strictbill/core/Invoice$Status" := P.2.2.2.2.2.2.2.2.2.2.2.2.1
theorem pin_S4 {Z : State} {h : Heap} {w : Nat → Addr} (P : Pins Z h w) : Sta Z h "com/example/strict_bill/strictbill/core/Invoice$Status" "OVERDUE" "Lcom/example/strict_bill/strictbill/core/Invoice$Status;" (.ref (w 4)) := P.2.2.2.2.2.2.2.2.2.2.2.2.2.1
theorem pin_F4_ordinal {Z : State} {h : Heap} {w : Nat → Addr} (P : Pins Z h w) : Fld Z h (w 4) "java/lang/Enum" "ordinal" "I" (.int (2 : Int32)) := P.2.2.2.2.2.2.2.2.2.2.2.2.2.2
theorem Pins.ext {Z : State} {h h' : Heap} {w : Nat → Addr} (E : Ext h h') (P : Pins Z h w) : Pins Z h' w := ⟨Exa.ext E (pin_E0 P), Sta.ext E (pin_S0 P), Exa.ext E (pin_E1 P), Sta.ext E (pin_S1 P), Fld.ext E (pin_F0_ordinal P), Fld.ext E (pin_F1_ordinal P), Exa.ext E (pin_E2 P), Sta.ext E (pin_S2 P), Fld.ext E (pin_F2_ordinal P), Exa.ext E (pin_E3 P), Sta.ext E (pin_S3 P), Fld.ext E (pin_F3_ordinal P), Exa.ext E (pin_E4 P), Sta.ext E (pin_S4 P), Fld.ext E (pin_F4_ordinal P)⟩
set_option maxRecDepth 65536 in
theorem own_pins {s : State} {args : Array Value} (hw : ∀ d ∈ tables_1, d.before args s = true) (hn : narrow_1.value args s none s [] = some true) : ∃ w, Pins s s.heap w := by
  obtain ⟨c0, hn⟩ := and_e hn
  obtain ⟨c1, hn⟩ := and_e hn
  obtain ⟨c2, hn⟩ := and_e hn
  obtain ⟨c3, hn⟩ := and_e hn
  obtain ⟨c4, hn⟩ := and_e hn
  obtain ⟨c5, hn⟩ := and_e hn
  obtain ⟨c6, hn⟩ := and_e hn
  obtain ⟨c7, hn⟩ := and_e hn
  obtain ⟨c8, hn⟩ := and_e hn
  have c9 := hn
  obtain ⟨a0, ev0⟩ := exa_v c0
  obtain ⟨a1, ev1⟩ := exa_v c1
  obtain ⟨a2, ev2⟩ := exa_v c4
  obtain ⟨a3, ev3⟩ := exa_v c6
  obtain ⟨a4, ev4⟩ := exa_v c8
  have E0 := Exa.start ev0 c0
  have S0 := Sta.start ev0 (Or.inr ⟨(hw _ (List.mem_of_getElem? (i := 2) rfl)), (hw _ (List.mem_of_getElem? (i := 3) rfl))⟩)
  have E1 := Exa.start ev1 c1
  have S1 := Sta.start ev1 (Or.inr ⟨(hw _ (List.mem_of_getElem? (i := 2) rfl)), (hw _ (List.mem_of_getElem? (i := 11) rfl))⟩)
  have F0_ordinal := own_fldI ev0 c2
  have F1_ordinal := own_fldI ev1 c3
  have E2 := Exa.start ev2 c4
  have S2 := Sta.start ev2 (Or.inr ⟨(hw _ (List.mem_of_getElem? (i := 2) rfl)), (hw _ (List.mem_of_getElem? (i := 13) rfl))⟩)
  have F2_ordinal := own_fldI ev2 c5
  have E3 := Exa.start ev3 c6
  have S3 := Sta.start ev3 (Or.inr ⟨(hw _ (List.mem_of_getElem? (i := 2) rfl)), (hw _ (List.mem_of_getElem? (i := 15) rfl))⟩)
  have F3_ordinal := own_fldI ev3 c7
  have E4 := Exa.start ev4 c8
  have S4 := Sta.start ev4 (Or.inr ⟨(hw _ (List.mem_of_getElem? (i := 2) rfl)), (hw _ (List.mem_of_getElem? (i := 24) rfl))⟩)
  have F4_ordinal := own_fldI ev4 c9
  exact ⟨fun i => [a0, a1, a2, a3, a4].getD i 0, E0, S0, E1, S1, F0_ordinal, F1_ordinal, E2, S2, F2_ordinal, E3, S3, F3_ordinal, E4, S4, F4_ordinal⟩
set_option maxRecDepth 65536 in
set_option maxHeartbeats 40000000 in
theorem own_fill {p : Program} {l : Launch} {e : Env} {s : State} {m : MethodId} {args : Array Value} {below : List Frame} {meth : Method} {c : Code} {s₁ : State} {Z : State} {a0 : Array Value} {h0 : Heap} {n0 : Nat} {w : Nat → Addr} {Q : Outcome → State → Prop} (p1 i1 : Int32) (o2 : Addr)
    (X0 : Stand p l e room_1 s m args below meth c s₁ [] 0 0) (hx : p.tables.exec = Jvm.exec) (hZ : Z.Warmed39 s.vm) (hw : ∀ d ∈ tables_1, d.before a0 Z = true) (hby : c.code = code) (hml : c.maxLocals = 6) (hown : s.vm.findClass "com/example/strict_bill/strictbill/core/StatusPaidPinLaw" = some m.cls) (e0 : s₁.heap = h0) (N0 : Fr n0 []) (Z0 : n0 ≤ h0.size) (P : Pins Z h0 w)
    (kt : ∀ (T1 : State) (h1 : Heap) (L1 : List Loc) (k1 : ClassId) (b1 : Addr), Stand p l e room_1 s m args below meth c T1 L1 (0 + 1) (0 + 5) → T1.heap = h1 → Ext h0 h1 → Fr n0 L1 → Arv Z h1 b1 k1 .boolean (5 : Int32) [(.int (nar .boolean (0 : Int32))), (.int (nar .boolean (1 : Int32))), (.int (nar .boolean (0 : Int32))), (.int (nar .boolean (0 : Int32))), (.int (nar .boolean (1 : Int32)))] (.int (0 : Int32)) → own_Done p e below (T1.setTop (mkF m 79 #[.val (.int p1), .val (.int i1), .val (.ref o2), .unset, .unset, .unset] [(.ref b1)])) Q) :
    own_Done p e below (s₁.setTop (mkF m 56 #[.val (.int p1), .val (.int i1), .val (.ref o2), .unset, .unset, .unset] [])) Q := by
  refine own_step (W' := s₁.setTop (mkF m 57 #[.val (.int p1), .val (.int i1), .val (.ref o2), .unset, .unset, .unset] [(.int (5 : Int32))])) (fun _ k => XS.iconst X0.here hx rfl (hb hby at_56) k) ?_
  obtain ⟨T1, h1, k1, X1, e1, F1, A1, st1⟩ := newP X0 hx hZ (hw _ (List.mem_of_getElem? (i := 4) rfl)) e0 (g := (mkF m 57 #[.val (.int p1), .val (.int i1), .val (.ref o2), .unset, .unset, .unset] [(.int (5 : Int32))])) rfl (hb hby at_57) rfl (by decide) (cap := 5) (by decide) (by decide) (by decide) (by decide)
  obtain ⟨b1, g1⟩ : ∃ z, z = h0.size := ⟨_, rfl⟩
  rw [← g1] at A1 st1
  have V1 : Arv Z h1 b1 k1 .boolean (5 : Int32) [(.int (0 : Int32)), (.int (0 : Int32)), (.int (0 : Int32)), (.int (0 : Int32)), (.int (0 : Int32))] (.int (0 : Int32)) := own_new A1 (by decide) rfl
  have E1 : Ext h0 h1 := F1
  have sz_b1 : h0.size ≤ b1 := by rw [g1]; exact Nat.le_refl _
  have gn_b1 : n0 ≤ b1 := Nat.le_trans Z0 sz_b1
  have P1 : Pins Z h1 w := P.ext E1
  have Z1 : n0 ≤ h1.size := Nat.le_trans Z0 E1.1
  refine own_step (W' := T1.setTop (mkF m 59 #[.val (.int p1), .val (.int i1), .val (.ref o2), .unset, .unset, .unset] [(.ref b1)])) (fun _ k => st1 _ k) ?_
  refine own_step (W' := T1.setTop (mkF m 60 #[.val (.int p1), .val (.int i1), .val (.ref o2), .unset, .unset, .unset] [(.ref b1), (.ref b1)])) (fun _ k => XS.dup X1.here hx rfl (hb hby at_59) rfl rfl k) ?_
  refine own_step (W' := T1.setTop (mkF m 61 #[.val (.int p1), .val (.int i1), .val (.ref o2), .unset, .unset, .unset] [(.int (0 : Int32)), (.ref b1), (.ref b1)])) (fun _ k => XS.iconst X1.here hx rfl (hb hby at_60) k) ?_
  refine own_step (W' := T1.setTop (mkF m 62 #[.val (.int p1), .val (.int i1), .val (.ref o2), .unset, .unset, .unset] [(.int (0 : Int32)), (.int (0 : Int32)), (.ref b1), (.ref b1)])) (fun _ k => XS.iconst X1.here hx rfl (hb hby at_61) k) ?_
  obtain ⟨T2, h2, L2, X2, e2, E2, N2, W2, st2⟩ := own_stZ X1 hx hZ e1 V1 (j := (0 : Int32)) (i := 0) ⟨by decide, by decide⟩ rfl (by decide) E1 sz_b1 N0 gn_b1 (g := (mkF m 62 #[.val (.int p1), .val (.int i1), .val (.ref o2), .unset, .unset, .unset] [(.int (0 : Int32)), (.int (0 : Int32)), (.ref b1), (.ref b1)])) rfl rfl (hb hby at_62)
  have V2 : Arv Z h2 b1 k1 .boolean (5 : Int32) [(.int (nar .boolean (0 : Int32))), (.int (0 : Int32)), (.int (0 : Int32)), (.int (0 : Int32)), (.int (0 : Int32))] (.int (0 : Int32)) := W2
  have P2 : Pins Z h2 w := P.ext E2
  have Z2 : n0 ≤ h2.size := Nat.le_trans Z0 E2.1
  refine own_step (W' := T2.setTop (mkF m 63 #[.val (.int p1), .val (.int i1), .val (.ref o2), .unset, .unset, .unset] [(.ref b1)])) (fun _ k => st2 _ k) ?_
  refine own_step (W' := T2.setTop (mkF m 64 #[.val (.int p1), .val (.int i1), .val (.ref o2), .unset, .unset, .unset] [(.ref b1), (.ref b1)])) (fun _ k => XS.dup X2.here hx rfl (hb hby at_63) rfl rfl k) ?_
  refine own_step (W' := T2.setTop (mkF m 65 #[.val (.int p1), .val (.int i1), .val (.ref o2), .unset, .unset, .unset] [(.int (1 : Int32)), (.ref b1), (.ref b1)])) (fun _ k => XS.iconst X2.here hx rfl (hb hby at_64) k) ?_
  refine own_step (W' := T2.setTop (mkF m 66 #[.val (.int p1), .val (.int i1), .val (.ref o2), .unset, .unset, .unset] [(.int (1 : Int32)), (.int (1 : Int32)), (.ref b1), (.ref b1)])) (fun _ k => XS.iconst X2.here hx rfl (hb hby at_65) k) ?_
  obtain ⟨T3, h3, L3, X3, e3, E3, N3, W3, st3⟩ := own_stZ X2 hx hZ e2 V2 (j := (1 : Int32)) (i := 1) ⟨by decide, by decide⟩ rfl (by decide) E2 sz_b1 N2 gn_b1 (g := (mkF m 66 #[.val (.int p1), .val (.int i1), .val (.ref o2), .unset, .unset, .unset] [(.int (1 : Int32)), (.int (1 : Int32)), (.ref b1), (.ref b1)])) rfl rfl (hb hby at_66)
  have V3 : Arv Z h3 b1 k1 .boolean (5 : Int32) [(.int (nar .boolean (0 : Int32))), (.int (nar .boolean (1 : Int32))), (.int (0 : Int32)), (.int (0 : Int32)), (.int (0 : Int32))] (.int (0 : Int32)) := W3
  have P3 : Pins Z h3 w := P.ext E3
  have Z3 : n0 ≤ h3.size := Nat.le_trans Z0 E3.1
  refine own_step (W' := T3.setTop (mkF m 67 #[.val (.int p1), .val (.int i1), .val (.ref o2), .unset, .unset, .unset] [(.ref b1)])) (fun _ k => st3 _ k) ?_
  refine own_step (W' := T3.setTop (mkF m 68 #[.val (.int p1), .val (.int i1), .val (.ref o2), .unset, .unset, .unset] [(.ref b1), (.ref b1)])) (fun _ k => XS.dup X3.here hx rfl (hb hby at_67) rfl rfl k) ?_
  refine own_step (W' := T3.setTop (mkF m 69 #[.val (.int p1), .val (.int i1), .val (.ref o2), .unset, .unset, .unset] [(.int (2 : Int32)), (.ref b1), (.ref b1)])) (fun _ k => XS.iconst X3.here hx rfl (hb hby at_68) k) ?_
  refine own_step (W' := T3.setTop (mkF m 70 #[.val (.int p1), .val (.int i1), .val (.ref o2), .unset, .unset, .unset] [(.int (0 : Int32)), (.int (2 : Int32)), (.ref b1), (.ref b1)])) (fun _ k => XS.iconst X3.here hx rfl (hb hby at_69) k) ?_
  obtain ⟨T4, h4, L4, X4, e4, E4, N4, W4, st4⟩ := own_stZ X3 hx hZ e3 V3 (j := (2 : Int32)) (i := 2) ⟨by decide, by decide⟩ rfl (by decide) E3 sz_b1 N3 gn_b1 (g := (mkF m 70 #[.val (.int p1), .val (.int i1), .val (.ref o2), .unset, .unset, .unset] [(.int (0 : Int32)), (.int (2 : Int32)), (.ref b1), (.ref b1)])) rfl rfl (hb hby at_70)
  have V4 : Arv Z h4 b1 k1 .boolean (5 : Int32) [(.int (nar .boolean (0 : Int32))), (.int (nar .boolean (1 : Int32))), (.int (nar .boolean (0 : Int32))), (.int (0 : Int32)), (.int (0 : Int32))] (.int (0 : Int32)) := W4
  have P4 : Pins Z h4 w := P.ext E4
  have Z4 : n0 ≤ h4.size := Nat.le_trans Z0 E4.1
  refine own_step (W' := T4.setTop (mkF m 71 #[.val (.int p1), .val (.int i1), .val (.ref o2), .unset, .unset, .unset] [(.ref b1)])) (fun _ k => st4 _ k) ?_
  refine own_step (W' := T4.setTop (mkF m 72 #[.val (.int p1), .val (.int i1), .val (.ref o2), .unset, .unset, .unset] [(.ref b1), (.ref b1)])) (fun _ k => XS.dup X4.here hx rfl (hb hby at_71) rfl rfl k) ?_
  refine own_step (W' := T4.setTop (mkF m 73 #[.val (.int p1), .val (.int i1), .val (.ref o2), .unset, .unset, .unset] [(.int (3 : Int32)), (.ref b1), (.ref b1)])) (fun _ k => XS.iconst X4.here hx rfl (hb hby at_72) k) ?_
  refine own_step (W' := T4.setTop (mkF m 74 #[.val (.int p1), .val (.int i1), .val (.ref o2), .unset, .unset, .unset] [(.int (0 : Int32)), (.int (3 : Int32)), (.ref b1), (.ref b1)])) (fun _ k => XS.iconst X4.here hx rfl (hb hby at_73) k) ?_
  obtain ⟨T5, h5, L5, X5, e5, E5, N5, W5, st5⟩ := own_stZ X4 hx hZ e4 V4 (j := (3 : Int32)) (i := 3) ⟨by decide, by decide⟩ rfl (by decide) E4 sz_b1 N4 gn_b1 (g := (mkF m 74 #[.val (.int p1), .val (.int i1), .val (.ref o2), .unset, .unset, .unset] [(.int (0 : Int32)), (.int (3 : Int32)), (.ref b1), (.ref b1)])) rfl rfl (hb hby at_74)
  have V5 : Arv Z h5 b1 k1 .boolean (5 : Int32) [(.int (nar .boolean (0 : Int32))), (.int (nar .boolean (1 : Int32))), (.int (nar .boolean (0 : Int32))), (.int (nar .boolean (0 : Int32))), (.int (0 : Int32))] (.int (0 : Int32)) := W5
  have P5 : Pins Z h5 w := P.ext E5
  have Z5 : n0 ≤ h5.size := Nat.le_trans Z0 E5.1
  refine own_step (W' := T5.setTop (mkF m 75 #[.val (.int p1), .val (.int i1), .val (.ref o2), .unset, .unset, .unset] [(.ref b1)])) (fun _ k => st5 _ k) ?_
  refine own_step (W' := T5.setTop (mkF m 76 #[.val (.int p1), .val (.int i1), .val (.ref o2), .unset, .unset, .unset] [(.ref b1), (.ref b1)])) (fun _ k => XS.dup X5.here hx rfl (hb hby at_75) rfl rfl k) ?_
  refine own_step (W' := T5.setTop (mkF m 77 #[.val (.int p1), .val (.int i1), .val (.ref o2), .unset, .unset, .unset] [(.int (4 : Int32)), (.ref b1), (.ref b1)])) (fun _ k => XS.iconst X5.here hx rfl (hb hby at_76) k) ?_
  refine own_step (W' := T5.setTop (mkF m 78 #[.val (.int p1), .val (.int i1), .val (.ref o2), .unset, .unset, .unset] [(.int (1 : Int32)), (.int (4 : Int32)), (.ref b1), (.ref b1)])) (fun _ k => XS.iconst X5.here hx rfl (hb hby at_77) k) ?_
  obtain ⟨T6, h6, L6, X6, e6, E6, N6, W6, st6⟩ := own_stZ X5 hx hZ e5 V5 (j := (4 : Int32)) (i := 4) ⟨by decide, by decide⟩ rfl (by decide) E5 sz_b1 N5 gn_b1 (g := (mkF m 78 #[.val (.int p1), .val (.int i1), .val (.ref o2), .unset, .unset, .unset] [(.int (1 : Int32)), (.int (4 : Int32)), (.ref b1), (.ref b1)])) rfl rfl (hb hby at_78)
  have V6 : Arv Z h6 b1 k1 .boolean (5 : Int32) [(.int (nar .boolean (0 : Int32))), (.int (nar .boolean (1 : Int32))), (.int (nar .boolean (0 : Int32))), (.int (nar .boolean (0 : Int32))), (.int (nar .boolean (1 : Int32)))] (.int (0 : Int32)) := W6
  have P6 : Pins Z h6 w := P.ext E6
  have Z6 : n0 ≤ h6.size := Nat.le_trans Z0 E6.1
  refine own_step (W' := T6.setTop (mkF m 79 #[.val (.int p1), .val (.int i1), .val (.ref o2), .unset, .unset, .unset] [(.ref b1)])) (fun _ k => st6 _ k) ?_
  exact kt _ _ _ _ _ X6 e6 E6 N6 V6
set_option maxRecDepth 65536 in
set_option maxHeartbeats 40000000 in
theorem rm1_w0 (l : Launch) (Z : State) (a0 : Array Value) (hw : ∀ d ∈ tables_1, d.before a0 Z = true) (ws : List Jvm.Cond) (w : Nat → Addr) (h0 : Heap) (n0 : Nat) (Z0 : n0 ≤ h0.size) (P : Pins Z h0 w) :
    MetFree l (⟨"com/example/strict_bill/strictbill/core/Invoice$Status", "paid", "()Z"⟩ : MethodName) (head1 (Jvm.Cond.code (⟨"com/example/strict_bill/strictbill/core/Invoice$Status", "paid", "()Z"⟩ : MethodName) prog_19_method_5_code 1 (some .boolean) :: ws) ({ frames := 0, cells := 0, slots := 0, locals := 0 } : Room)) (fun a U => a = #[(.ref (w 0))] ∧ Z.Warmed39 U.vm ∧ U.heap = h0) (fun _ _ _ _ _ => True) (fun _ U o U' => ∃ v L, o = .returned v ∧ own_QK (some (.int (0 : Int32))) h0 n0 v U'.heap L ∧ FrameEnd U o U' L ({ frames := 0, cells := 0, slots := 0, locals := 0 } : Room).cells ({ frames := 0, cells := 0, slots := 0, locals := 0 } : Room).slots) := by
  refine MetFree.of_bodySF (plainFor_of_name pn_com_example_strict_bill_strictbill_core_Invoice_Status) hisR ?_
  intro p e s m args below meth c s₁ Bd hml0 hP hK
  obtain ⟨rfl, hZ, hh⟩ := hP
  have hx := Bd.exec
  have hby := Bd.bytes
  have hml : c.maxLocals = 1 := hml0
  have hown : s.vm.findClass "com/example/strict_bill/strictbill/core/Invoice$Status" = some m.cls := findClass_of_methodNamed Bd.named
  have hnm := (name_of_methodNamed Bd.named Bd.method).1
  have X0 : Stand p l e ({ frames := 0, cells := 0, slots := 0, locals := 0 } : Room) s m #[(.ref (w 0))] below meth c s₁ [] 0 0 := Stand.of_body Bd
  have e0 : s₁.heap = h0 := by rw [← hh, Bd.state]; rfl
  have N0 := Fr.nil n0
  refine own_enter (ef_1_R m (w 0)) ?_
  refine own_step (W' := s₁.setTop (mkF m 1 #[.val (.ref (w 0))] [(.ref (w 0))])) (fun _ k => XS.aloadN X0.here hx rfl (hb hby d1_0) rfl rfl k) ?_
  obtain ⟨T1, X1, e1, st1⟩ := getS2 X0 hx hZ hown (host := "") (Or.inl (hw _ (List.mem_of_getElem? (i := 10) rfl))) Via.refl e0 (pin_S1 P) (g := (mkF m 1 #[.val (.ref (w 0))] [(.ref (w 0))])) rfl (hb hby d1_1)
  refine own_step (W' := T1.setTop (mkF m 4 #[.val (.ref (w 0))] [(.ref (w 1)), (.ref (w 0))])) (fun _ k => st1 _ k) ?_
  refine own_step (W' := T1.setTop (mkF m 7 #[.val (.ref (w 0))] [])) (fun _ k => Jvm.RoadKit.acmp (g := (mkF m 4 #[.val (.ref (w 0))] [(.ref (w 1)), (.ref (w 0))])) X1 hx rfl rfl rfl (pc0 := 4) (pc' := 7) (same := false) rfl (hb hby d1_4) rfl (decide_eq_false fun q => (Fld.ne (pin_F0_ordinal P) (pin_F1_ordinal P) (by decide)) (Value.ref.inj q)) (by decide) (by decide) k) ?_
  refine own_step (W' := T1.setTop (mkF m 8 #[.val (.ref (w 0))] [(.ref (w 0))])) (fun _ k => XS.aloadN X1.here hx rfl (hb hby d1_7) rfl rfl k) ?_
  obtain ⟨T2, X2, e2, st2⟩ := getS2 X1 hx hZ hown (host := "") (Or.inl (hw _ (List.mem_of_getElem? (i := 12) rfl))) Via.refl e1 (pin_S2 P) (g := (mkF m 8 #[.val (.ref (w 0))] [(.ref (w 0))])) rfl (hb hby d1_8)
  refine own_step (W' := T2.setTop (mkF m 11 #[.val (.ref (w 0))] [(.ref (w 2)), (.ref (w 0))])) (fun _ k => st2 _ k) ?_
  refine own_step (W' := T2.setTop (mkF m 18 #[.val (.ref (w 0))] [])) (fun _ k => Jvm.RoadKit.acmp (g := (mkF m 11 #[.val (.ref (w 0))] [(.ref (w 2)), (.ref (w 0))])) X2 hx rfl rfl rfl (pc0 := 11) (pc' := 18) (same := false) rfl (hb hby d1_11) rfl (decide_eq_false fun q => (Fld.ne (pin_F0_ordinal P) (pin_F2_ordinal P) (by decide)) (Value.ref.inj q)) (by decide) (by decide) k) ?_
  refine own_step (W' := T2.setTop (mkF m 19 #[.val (.ref (w 0))] [(.int (0 : Int32))])) (fun _ k => XS.iconst X2.here hx rfl (hb hby d1_18) k) ?_
  exact own_ret X2 Bd.notSynchronized Bd.returns (v := (.int (0 : Int32))) (fun fs hr => retN X2 hx (t := .boolean) Bd.returns (by simp) (hb hby d1_19) hr) ⟨rfl, N0, e2⟩ (by decide) (by decide)
set_option maxRecDepth 65536 in
set_option maxHeartbeats 40000000 in
theorem rm0_0 (l : Launch) (Z : State) (a0 : Array Value) (hw : ∀ d ∈ tables_1, d.before a0 Z = true) (ws : List Jvm.Cond) (p1 : Int32) (hk : ((p1 &&& (2147483647 : Int32)) % (5 : Int32)) = (0 : Int32)) (w : Nat → Addr) (h0 : Heap) (n0 : Nat) (Z0 : n0 ≤ h0.size) (P : Pins Z h0 w) :
    MetFree l x (head1 (Jvm.Cond.code x code maxLocals ret :: ws) room_1) (fun a U => a = #[(.int p1)] ∧ Z.Warmed39 U.vm ∧ U.heap = h0) (fun _ _ _ _ _ => True) (fun _ U o U' => ∃ v L, o = .returned v ∧ own_Q0 n0 v U'.heap L ∧ FrameEnd U o U' L room_1.cells room_1.slots) := by
  refine MetFree.of_bodySF (plainFor_of_name pn_com_example_strict_bill_strictbill_core_StatusPaidPinLaw) hisR ?_
  intro p e s m args below meth c s₁ Bd hml0 hP hK
  obtain ⟨rfl, hZ, hh⟩ := hP
  have hx := Bd.exec
  have hby := Bd.bytes
  have hml : c.maxLocals = 6 := hml0
  have hown : s.vm.findClass "com/example/strict_bill/strictbill/core/StatusPaidPinLaw" = some m.cls := findClass_of_methodNamed Bd.named
  have hnm := (name_of_methodNamed Bd.named Bd.method).1
  have X0 : Stand p l e room_1 s m #[(.int p1)] below meth c s₁ [] 0 0 := Stand.of_body Bd
  have e0 : s₁.heap = h0 := by rw [← hh, Bd.state]; rfl
  have N0 := Fr.nil n0
  refine own_enter (ef_0_I m p1) ?_
  refine own_step (W' := s₁.setTop (mkF m 1 #[.val (.int p1), .unset, .unset, .unset, .unset, .unset] [(.int p1)])) (fun _ k => XS.iloadN X0.here hx rfl (hb hby at_0) rfl k) ?_
  refine own_step (W' := s₁.setTop (mkF m 3 #[.val (.int p1), .unset, .unset, .unset, .unset, .unset] [(.int (2147483647 : Int32)), (.int p1)])) (fun _ k => X0.ldcInt hx hown (mvT hZ (hw _ (List.mem_of_getElem? (i := 0) rfl))) (g := (mkF m 1 #[.val (.int p1), .unset, .unset, .unset, .unset, .unset] [(.int p1)])) rfl (hb hby at_1) _ k) ?_
  refine own_step (W' := s₁.setTop (mkF m 4 #[.val (.int p1), .unset, .unset, .unset, .unset, .unset] [(.int (p1 &&& (2147483647 : Int32)))])) (fun _ k => XS.iand X0.here hx rfl (hb hby at_3) rfl k) ?_
  refine own_step (W' := s₁.setTop (mkF m 5 #[.val (.int p1), .unset, .unset, .unset, .unset, .unset] [(.int (5 : Int32)), (.int (p1 &&& (2147483647 : Int32)))])) (fun _ k => XS.iconst X0.here hx rfl (hb hby at_4) k) ?_
  refine own_step (W' := s₁.setTop (mkF m 6 #[.val (.int p1), .unset, .unset, .unset, .unset, .unset] [(.int ((p1 &&& (2147483647 : Int32)) % (5 : Int32)))])) (fun _ k => iremM X0 hx rfl (hb hby at_5) rfl (by decide) k) ?_
  rw [hk]
  refine own_step (W' := s₁.setTop (mkF m 7 #[.val (.int p1), .val (.int (0 : Int32)), .unset, .unset, .unset, .unset] [])) (fun _ k => XS.istoreN X0.here hx rfl (hb hby at_6) rfl (l' := #[.val (.int p1), .val (.int (0 : Int32)), .unset, .unset, .unset, .unset]) rfl k) ?_
  obtain ⟨T1, X1, e1, st1⟩ := getS2 X0 hx hZ hown (host := "") (Or.inl (hw _ (List.mem_of_getElem? (i := 1) rfl))) Via.refl e0 (pin_S0 P) (g := (mkF m 7 #[.val (.int p1), .val (.int (0 : Int32)), .unset, .unset, .unset, .unset] [])) rfl (hb hby at_7)
  refine own_step (W' := T1.setTop (mkF m 10 #[.val (.int p1), .val (.int (0 : Int32)), .unset, .unset, .unset, .unset] [(.ref (w 0))])) (fun _ k => st1 _ k) ?_
  refine own_step (W' := T1.setTop (mkF m 11 #[.val (.int p1), .val (.int (0 : Int32)), .val (.ref (w 0)), .unset, .unset, .unset] [])) (fun _ k => XS.astoreN X1.here hx rfl (hb hby at_10) rfl rfl (l' := #[.val (.int p1), .val (.int (0 : Int32)), .val (.ref (w 0)), .unset, .unset, .unset]) rfl k) ?_
  refine own_step (W' := T1.setTop (mkF m 12 #[.val (.int p1), .val (.int (0 : Int32)), .val (.ref (w 0)), .unset, .unset, .unset] [(.int (0 : Int32))])) (fun _ k => XS.iloadN X1.here hx rfl (hb hby at_11) rfl k) ?_
  refine own_step (W' := T1.setTop (mkF m 13 #[.val (.int p1), .val (.int (0 : Int32)), .val (.ref (w 0)), .unset, .unset, .unset] [(.int (1 : Int32)), (.int (0 : Int32))])) (fun _ k => XS.iconst X1.here hx rfl (hb hby at_12) k) ?_
  refine own_step (W' := T1.setTop (mkF m 23 #[.val (.int p1), .val (.int (0 : Int32)), .val (.ref (w 0)), .unset, .unset, .unset] [])) (fun _ k => XS.icmpYes X1.here hx rfl (pc0 := 13) (pc' := 23) rfl (hb hby at_13) rfl (by decide) (by decide) (by decide) k) ?_
  refine own_step (W' := T1.setTop (mkF m 24 #[.val (.int p1), .val (.int (0 : Int32)), .val (.ref (w 0)), .unset, .unset, .unset] [(.int (0 : Int32))])) (fun _ k => XS.iloadN X1.here hx rfl (hb hby at_23) rfl k) ?_
  refine own_step (W' := T1.setTop (mkF m 25 #[.val (.int p1), .val (.int (0 : Int32)), .val (.ref (w 0)), .unset, .unset, .unset] [(.int (2 : Int32)), (.int (0 : Int32))])) (fun _ k => XS.iconst X1.here hx rfl (hb hby at_24) k) ?_
  refine own_step (W' := T1.setTop (mkF m 35 #[.val (.int p1), .val (.int (0 : Int32)), .val (.ref (w 0)), .unset, .unset, .unset] [])) (fun _ k => XS.icmpYes X1.here hx rfl (pc0 := 25) (pc' := 35) rfl (hb hby at_25) rfl (by decide) (by decide) (by decide) k) ?_
  refine own_step (W' := T1.setTop (mkF m 36 #[.val (.int p1), .val (.int (0 : Int32)), .val (.ref (w 0)), .unset, .unset, .unset] [(.int (0 : Int32))])) (fun _ k => XS.iloadN X1.here hx rfl (hb hby at_35) rfl k) ?_
  refine own_step (W' := T1.setTop (mkF m 37 #[.val (.int p1), .val (.int (0 : Int32)), .val (.ref (w 0)), .unset, .unset, .unset] [(.int (3 : Int32)), (.int (0 : Int32))])) (fun _ k => XS.iconst X1.here hx rfl (hb hby at_36) k) ?_
  refine own_step (W' := T1.setTop (mkF m 47 #[.val (.int p1), .val (.int (0 : Int32)), .val (.ref (w 0)), .unset, .unset, .unset] [])) (fun _ k => XS.icmpYes X1.here hx rfl (pc0 := 37) (pc' := 47) rfl (hb hby at_37) rfl (by decide) (by decide) (by decide) k) ?_
  refine own_step (W' := T1.setTop (mkF m 48 #[.val (.int p1), .val (.int (0 : Int32)), .val (.ref (w 0)), .unset, .unset, .unset] [(.int (0 : Int32))])) (fun _ k => XS.iloadN X1.here hx rfl (hb hby at_47) rfl k) ?_
  refine own_step (W' := T1.setTop (mkF m 49 #[.val (.int p1), .val (.int (0 : Int32)), .val (.ref (w 0)), .unset, .unset, .unset] [(.int (4 : Int32)), (.int (0 : Int32))])) (fun _ k => XS.iconst X1.here hx rfl (hb hby at_48) k) ?_
  refine own_step (W' := T1.setTop (mkF m 56 #[.val (.int p1), .val (.int (0 : Int32)), .val (.ref (w 0)), .unset, .unset, .unset] [])) (fun _ k => XS.icmpYes X1.here hx rfl (pc0 := 49) (pc' := 56) rfl (hb hby at_49) rfl (by decide) (by decide) (by decide) k) ?_
  refine own_fill p1 (0 : Int32) (w 0) X1 hx hZ hw hby hml hown e1 N0 Z0 P ?_
  intro T2 h2 L2 k2 b2 X2 e2 E2 N2 V2
  have P2 : Pins Z h2 w := P.ext E2
  have Z2 : n0 ≤ h2.size := Nat.le_trans Z0 E2.1
  refine own_step (W' := T2.setTop (mkF m 80 #[.val (.int p1), .val (.int (0 : Int32)), .val (.ref (w 0)), .val (.ref b2), .unset, .unset] [])) (fun _ k => XS.astoreN X2.here hx rfl (hb hby at_79) rfl rfl (l' := #[.val (.int p1), .val (.int (0 : Int32)), .val (.ref (w 0)), .val (.ref b2), .unset, .unset]) rfl k) ?_
  refine own_step (W' := T2.setTop (mkF m 81 #[.val (.int p1), .val (.int (0 : Int32)), .val (.ref (w 0)), .val (.ref b2), .unset, .unset] [(.ref b2)])) (fun _ k => XS.aloadN X2.here hx rfl (hb hby at_80) rfl rfl k) ?_
  refine own_step (W' := T2.setTop (mkF m 82 #[.val (.int p1), .val (.int (0 : Int32)), .val (.ref (w 0)), .val (.ref b2), .unset, .unset] [(.int (0 : Int32)), (.ref b2)])) (fun _ k => XS.iloadN X2.here hx rfl (hb hby at_81) rfl k) ?_
  refine own_step (W' := T2.setTop (mkF m 83 #[.val (.int p1), .val (.int (0 : Int32)), .val (.ref (w 0)), .val (.ref b2), .unset, .unset] [(.int (nar .boolean (0 : Int32)))])) (fun _ k => own_ldZ X2 hx hZ e2 V2 (j := (0 : Int32)) (v := (.int (nar .boolean (0 : Int32)))) ⟨by decide, by decide⟩ rfl (g := (mkF m 82 #[.val (.int p1), .val (.int (0 : Int32)), .val (.ref (w 0)), .val (.ref b2), .unset, .unset] [(.int (0 : Int32)), (.ref b2)])) rfl rfl (hb hby at_82) _ k) ?_
  refine own_step (W' := T2.setTop (mkF m 85 #[.val (.int p1), .val (.int (0 : Int32)), .val (.ref (w 0)), .val (.ref b2), .val (.int (nar .boolean (0 : Int32))), .unset] [])) (fun _ k => XS.istore X2.here hx rfl (hb hby at_83) rfl (l' := #[.val (.int p1), .val (.int (0 : Int32)), .val (.ref (w 0)), .val (.ref b2), .val (.int (nar .boolean (0 : Int32))), .unset]) rfl k) ?_
  refine own_step (W' := T2.setTop (mkF m 86 #[.val (.int p1), .val (.int (0 : Int32)), .val (.ref (w 0)), .val (.ref b2), .val (.int (nar .boolean (0 : Int32))), .unset] [(.ref (w 0))])) (fun _ k => XS.aloadN X2.here hx rfl (hb hby at_85) rfl rfl k) ?_
  obtain ⟨cq3, kq3, q3a, q3b, q3c⟩ := isOf hZ e2 (pin_E0 P2)
  obtain ⟨_, _, ⟨T3, L3, k3, n3⟩, -, X3, ⟨Lc3, hQ3, l3, y3, z3⟩, st3⟩ := X2.virtualBack hx (y := (⟨"com/example/strict_bill/strictbill/core/Invoice$Status", "paid", "()Z"⟩ : MethodName)) (z := (⟨"com/example/strict_bill/strictbill/core/Invoice$Status", "paid", "()Z"⟩ : MethodName)) hown (mvT hZ (hw _ (List.mem_of_getElem? (i := 5) rfl))) (mvT hZ (hw _ (List.mem_of_getElem? (i := 6) rfl))) (notFace_of_selects (args := #[]) (mvT hZ (hw _ (List.mem_of_getElem? (i := 8) rfl)))) (mvT hZ (hw _ (List.mem_of_getElem? (i := 8) rfl))) (mvT hZ (hw _ (List.mem_of_getElem? (i := 7) rfl))) (by decide) (backOf (W := 0) (rm1_w0 l Z a0 hw [] w h2 n0 Z2 P2) hZ (hw _ (List.mem_of_getElem? (i := 9) rfl)) (hw _ (List.mem_of_getElem? (i := 2) rfl)) (by decide) (by decide)) q3a q3c (g := (mkF m 86 #[.val (.int p1), .val (.int (0 : Int32)), .val (.ref (w 0)), .val (.ref b2), .val (.int (nar .boolean (0 : Int32))), .unset] [(.ref (w 0))])) rfl (by rw [hml]; rfl) (Steps.refl _) (argsL := []) (rest := []) (lenOf pd_0 rfl) rfl (by show 2 * 0 + _ ≤ _; exact Nat.le_of_eq rfl) (hb hby at_86) (fun _ _ => ⟨rfl, e2, (by decide : 1 + 0 ≤ _), (by decide : 5 + 0 ≤ _)⟩)
  dsimp only [Pt.U, Pt.locs, Pt.cells, Pt.slots] at X3 l3 y3 z3 st3 hQ3
  subst l3 y3 z3
  obtain ⟨rfl, N3q, e3⟩ := hQ3
  have N3 := Fr.app N2 N3q
  refine own_step (W' := T3.setTop (mkF m 89 #[.val (.int p1), .val (.int (0 : Int32)), .val (.ref (w 0)), .val (.ref b2), .val (.int (nar .boolean (0 : Int32))), .unset] [(.int (0 : Int32))])) (fun _ k => st3.trans k) ?_
  refine own_step (W' := T3.setTop (mkF m 91 #[.val (.int p1), .val (.int (0 : Int32)), .val (.ref (w 0)), .val (.ref b2), .val (.int (nar .boolean (0 : Int32))), .val (.int (0 : Int32))] [])) (fun _ k => XS.istore X3.here hx rfl (hb hby at_89) rfl (l' := #[.val (.int p1), .val (.int (0 : Int32)), .val (.ref (w 0)), .val (.ref b2), .val (.int (nar .boolean (0 : Int32))), .val (.int (0 : Int32))]) rfl k) ?_
  refine own_step (W' := T3.setTop (mkF m 93 #[.val (.int p1), .val (.int (0 : Int32)), .val (.ref (w 0)), .val (.ref b2), .val (.int (nar .boolean (0 : Int32))), .val (.int (0 : Int32))] [(.int (0 : Int32))])) (fun _ k => XS.iload X3.here hx rfl (hb hby at_91) rfl k) ?_
  refine own_step (W' := T3.setTop (mkF m 95 #[.val (.int p1), .val (.int (0 : Int32)), .val (.ref (w 0)), .val (.ref b2), .val (.int (nar .boolean (0 : Int32))), .val (.int (0 : Int32))] [(.int (nar .boolean (0 : Int32))), (.int (0 : Int32))])) (fun _ k => XS.iload X3.here hx rfl (hb hby at_93) rfl k) ?_
  refine own_step (W' := T3.setTop (mkF m 98 #[.val (.int p1), .val (.int (0 : Int32)), .val (.ref (w 0)), .val (.ref b2), .val (.int (nar .boolean (0 : Int32))), .val (.int (0 : Int32))] [])) (fun _ k => XS.icmpNo X3.here hx rfl (hb hby at_95) rfl (by decide) k) ?_
  refine own_step (W' := T3.setTop (mkF m 100 #[.val (.int p1), .val (.int (0 : Int32)), .val (.ref (w 0)), .val (.ref b2), .val (.int (nar .boolean (0 : Int32))), .val (.int (0 : Int32))] [(.int (0 : Int32))])) (fun _ k => XS.iload X3.here hx rfl (hb hby at_98) rfl k) ?_
  refine own_step (W' := T3.setTop (mkF m 110 #[.val (.int p1), .val (.int (0 : Int32)), .val (.ref (w 0)), .val (.ref b2), .val (.int (nar .boolean (0 : Int32))), .val (.int (0 : Int32))] [])) (fun _ k => XS.ifYes X3.here hx rfl (pc0 := 100) (pc' := 110) rfl (hb hby at_100) rfl (by decide) (by decide) (by decide) k) ?_
  refine own_step (W' := T3.setTop (mkF m 111 #[.val (.int p1), .val (.int (0 : Int32)), .val (.ref (w 0)), .val (.ref b2), .val (.int (nar .boolean (0 : Int32))), .val (.int (0 : Int32))] [(.int (1 : Int32))])) (fun _ k => XS.iconst X3.here hx rfl (hb hby at_110) k) ?_
  refine own_step (W' := T3.setTop (mkF m 115 #[.val (.int p1), .val (.int (0 : Int32)), .val (.ref (w 0)), .val (.ref b2), .val (.int (nar .boolean (0 : Int32))), .val (.int (0 : Int32))] [(.int (1 : Int32))])) (fun _ k => XS.goto X3.here hx rfl (pc0 := 111) (pc' := 115) rfl (hb hby at_111) (by decide) (by decide) k) ?_
  exact own_ret X3 Bd.notSynchronized Bd.returns (v := (.int (1 : Int32))) (fun fs hr => retN X3 hx (t := .boolean) Bd.returns (by simp) (hb hby at_115) hr) ⟨rfl, N3⟩ (by decide) (by decide)
set_option maxRecDepth 65536 in
set_option maxHeartbeats 40000000 in
theorem rm1_w1 (l : Launch) (Z : State) (a0 : Array Value) (hw : ∀ d ∈ tables_1, d.before a0 Z = true) (ws : List Jvm.Cond) (w : Nat → Addr) (h0 : Heap) (n0 : Nat) (Z0 : n0 ≤ h0.size) (P : Pins Z h0 w) :
    MetFree l (⟨"com/example/strict_bill/strictbill/core/Invoice$Status", "paid", "()Z"⟩ : MethodName) (head1 (Jvm.Cond.code (⟨"com/example/strict_bill/strictbill/core/Invoice$Status", "paid", "()Z"⟩ : MethodName) prog_19_method_5_code 1 (some .boolean) :: ws) ({ frames := 0, cells := 0, slots := 0, locals := 0 } : Room)) (fun a U => a = #[(.ref (w 1))] ∧ Z.Warmed39 U.vm ∧ U.heap = h0) (fun _ _ _ _ _ => True) (fun _ U o U' => ∃ v L, o = .returned v ∧ own_QK (some (.int (1 : Int32))) h0 n0 v U'.heap L ∧ FrameEnd U o U' L ({ frames := 0, cells := 0, slots := 0, locals := 0 } : Room).cells ({ frames := 0, cells := 0, slots := 0, locals := 0 } : Room).slots) := by
  refine MetFree.of_bodySF (plainFor_of_name pn_com_example_strict_bill_strictbill_core_Invoice_Status) hisR ?_
  intro p e s m args below meth c s₁ Bd hml0 hP hK
  obtain ⟨rfl, hZ, hh⟩ := hP
  have hx := Bd.exec
  have hby := Bd.bytes
  have hml : c.maxLocals = 1 := hml0
  have hown : s.vm.findClass "com/example/strict_bill/strictbill/core/Invoice$Status" = some m.cls := findClass_of_methodNamed Bd.named
  have hnm := (name_of_methodNamed Bd.named Bd.method).1
  have X0 : Stand p l e ({ frames := 0, cells := 0, slots := 0, locals := 0 } : Room) s m #[(.ref (w 1))] below meth c s₁ [] 0 0 := Stand.of_body Bd
  have e0 : s₁.heap = h0 := by rw [← hh, Bd.state]; rfl
  have N0 := Fr.nil n0
  refine own_enter (ef_1_R m (w 1)) ?_
  refine own_step (W' := s₁.setTop (mkF m 1 #[.val (.ref (w 1))] [(.ref (w 1))])) (fun _ k => XS.aloadN X0.here hx rfl (hb hby d1_0) rfl rfl k) ?_
  obtain ⟨T1, X1, e1, st1⟩ := getS2 X0 hx hZ hown (host := "") (Or.inl (hw _ (List.mem_of_getElem? (i := 10) rfl))) Via.refl e0 (pin_S1 P) (g := (mkF m 1 #[.val (.ref (w 1))] [(.ref (w 1))])) rfl (hb hby d1_1)
  refine own_step (W' := T1.setTop (mkF m 4 #[.val (.ref (w 1))] [(.ref (w 1)), (.ref (w 1))])) (fun _ k => st1 _ k) ?_
  refine own_step (W' := T1.setTop (mkF m 14 #[.val (.ref (w 1))] [])) (fun _ k => Jvm.RoadKit.acmp (g := (mkF m 4 #[.val (.ref (w 1))] [(.ref (w 1)), (.ref (w 1))])) X1 hx rfl rfl rfl (pc0 := 4) (pc' := 14) (same := true) rfl (hb hby d1_4) rfl (decide_eq_true rfl) (by decide) (by decide) k) ?_
  refine own_step (W' := T1.setTop (mkF m 15 #[.val (.ref (w 1))] [(.int (1 : Int32))])) (fun _ k => XS.iconst X1.here hx rfl (hb hby d1_14) k) ?_
  refine own_step (W' := T1.setTop (mkF m 19 #[.val (.ref (w 1))] [(.int (1 : Int32))])) (fun _ k => XS.goto X1.here hx rfl (pc0 := 15) (pc' := 19) rfl (hb hby d1_15) (by decide) (by decide) k) ?_
  exact own_ret X1 Bd.notSynchronized Bd.returns (v := (.int (1 : Int32))) (fun fs hr => retN X1 hx (t := .boolean) Bd.returns (by simp) (hb hby d1_19) hr) ⟨rfl, N0, e1⟩ (by decide) (by decide)
set_option maxRecDepth 65536 in
set_option maxHeartbeats 40000000 in
theorem rm2_w1 (l : Launch) (Z : State) (a0 : Array Value) (hw : ∀ d ∈ tables_1, d.before a0 Z = true) (ws : List Jvm.Cond) (w : Nat → Addr) (h0 : Heap) (n0 : Nat) (Z0 : n0 ≤ h0.size) (P : Pins Z h0 w) :
    MetFree l (⟨"com/example/strict_bill/strictbill/core/Invoice$Status", "payable", "()Z"⟩ : MethodName) (head1 (Jvm.Cond.code (⟨"com/example/strict_bill/strictbill/core/Invoice$Status", "payable", "()Z"⟩ : MethodName) prog_19_method_4_code 1 (some .boolean) :: ws) ({ frames := 0, cells := 0, slots := 0, locals := 0 } : Room)) (fun a U => a = #[(.ref (w 1))] ∧ Z.Warmed39 U.vm ∧ U.heap = h0) (fun _ _ _ _ _ => True) (fun _ U o U' => ∃ v L, o = .returned v ∧ own_QK (some (.int (0 : Int32))) h0 n0 v U'.heap L ∧ FrameEnd U o U' L ({ frames := 0, cells := 0, slots := 0, locals := 0 } : Room).cells ({ frames := 0, cells := 0, slots := 0, locals := 0 } : Room).slots) := by
  refine MetFree.of_bodySF (plainFor_of_name pn_com_example_strict_bill_strictbill_core_Invoice_Status) hisR ?_
  intro p e s m args below meth c s₁ Bd hml0 hP hK
  obtain ⟨rfl, hZ, hh⟩ := hP
  have hx := Bd.exec
  have hby := Bd.bytes
  have hml : c.maxLocals = 1 := hml0
  have hown : s.vm.findClass "com/example/strict_bill/strictbill/core/Invoice$Status" = some m.cls := findClass_of_methodNamed Bd.named
  have hnm := (name_of_methodNamed Bd.named Bd.method).1
  have X0 : Stand p l e ({ frames := 0, cells := 0, slots := 0, locals := 0 } : Room) s m #[(.ref (w 1))] below meth c s₁ [] 0 0 := Stand.of_body Bd
  have e0 : s₁.heap = h0 := by rw [← hh, Bd.state]; rfl
  have N0 := Fr.nil n0
  refine own_enter (ef_2_R m (w 1)) ?_
  refine own_step (W' := s₁.setTop (mkF m 1 #[.val (.ref (w 1))] [(.ref (w 1))])) (fun _ k => XS.aloadN X0.here hx rfl (hb hby d2_0) rfl rfl k) ?_
  obtain ⟨T1, X1, e1, st1⟩ := getS2 X0 hx hZ hown (host := "") (Or.inl (hw _ (List.mem_of_getElem? (i := 22) rfl))) Via.refl e0 (pin_S0 P) (g := (mkF m 1 #[.val (.ref (w 1))] [(.ref (w 1))])) rfl (hb hby d2_1)
  refine own_step (W' := T1.setTop (mkF m 4 #[.val (.ref (w 1))] [(.ref (w 0)), (.ref (w 1))])) (fun _ k => st1 _ k) ?_
  refine own_step (W' := T1.setTop (mkF m 7 #[.val (.ref (w 1))] [])) (fun _ k => Jvm.RoadKit.acmp (g := (mkF m 4 #[.val (.ref (w 1))] [(.ref (w 0)), (.ref (w 1))])) X1 hx rfl rfl rfl (pc0 := 4) (pc' := 7) (same := false) rfl (hb hby d2_4) rfl (decide_eq_false fun q => (Fld.ne (pin_F1_ordinal P) (pin_F0_ordinal P) (by decide)) (Value.ref.inj q)) (by decide) (by decide) k) ?_
  refine own_step (W' := T1.setTop (mkF m 8 #[.val (.ref (w 1))] [(.ref (w 1))])) (fun _ k => XS.aloadN X1.here hx rfl (hb hby d2_7) rfl rfl k) ?_
  obtain ⟨T2, X2, e2, st2⟩ := getS2 X1 hx hZ hown (host := "") (Or.inl (hw _ (List.mem_of_getElem? (i := 23) rfl))) Via.refl e1 (pin_S4 P) (g := (mkF m 8 #[.val (.ref (w 1))] [(.ref (w 1))])) rfl (hb hby d2_8)
  refine own_step (W' := T2.setTop (mkF m 11 #[.val (.ref (w 1))] [(.ref (w 4)), (.ref (w 1))])) (fun _ k => st2 _ k) ?_
  refine own_step (W' := T2.setTop (mkF m 18 #[.val (.ref (w 1))] [])) (fun _ k => Jvm.RoadKit.acmp (g := (mkF m 11 #[.val (.ref (w 1))] [(.ref (w 4)), (.ref (w 1))])) X2 hx rfl rfl rfl (pc0 := 11) (pc' := 18) (same := false) rfl (hb hby d2_11) rfl (decide_eq_false fun q => (Fld.ne (pin_F1_ordinal P) (pin_F4_ordinal P) (by decide)) (Value.ref.inj q)) (by decide) (by decide) k) ?_
  refine own_step (W' := T2.setTop (mkF m 19 #[.val (.ref (w 1))] [(.int (0 : Int32))])) (fun _ k => XS.iconst X2.here hx rfl (hb hby d2_18) k) ?_
  exact own_ret X2 Bd.notSynchronized Bd.returns (v := (.int (0 : Int32))) (fun fs hr => retN X2 hx (t := .boolean) Bd.returns (by simp) (hb hby d2_19) hr) ⟨rfl, N0, e2⟩ (by decide) (by decide)
set_option maxRecDepth 65536 in
set_option maxHeartbeats 40000000 in
theorem rm0_1 (l : Launch) (Z : State) (a0 : Array Value) (hw : ∀ d ∈ tables_1, d.before a0 Z = true) (ws : List Jvm.Cond) (p1 : Int32) (hk : ((p1 &&& (2147483647 : Int32)) % (5 : Int32)) = (1 : Int32)) (w : Nat → Addr) (h0 : Heap) (n0 : Nat) (Z0 : n0 ≤ h0.size) (P : Pins Z h0 w) :
    MetFree l x (head1 (Jvm.Cond.code x code maxLocals ret :: ws) room_1) (fun a U => a = #[(.int p1)] ∧ Z.Warmed39 U.vm ∧ U.heap = h0) (fun _ _ _ _ _ => True) (fun _ U o U' => ∃ v L, o = .returned v ∧ own_Q0 n0 v U'.heap L ∧ FrameEnd U o U' L room_1.cells room_1.slots) := by
  refine MetFree.of_bodySF (plainFor_of_name pn_com_example_strict_bill_strictbill_core_StatusPaidPinLaw) hisR ?_
  intro p e s m args below meth c s₁ Bd hml0 hP hK
  obtain ⟨rfl, hZ, hh⟩ := hP
  have hx := Bd.exec
  have hby := Bd.bytes
  have hml : c.maxLocals = 6 := hml0
  have hown : s.vm.findClass "com/example/strict_bill/strictbill/core/StatusPaidPinLaw" = some m.cls := findClass_of_methodNamed Bd.named
  have hnm := (name_of_methodNamed Bd.named Bd.method).1
  have X0 : Stand p l e room_1 s m #[(.int p1)] below meth c s₁ [] 0 0 := Stand.of_body Bd
  have e0 : s₁.heap = h0 := by rw [← hh, Bd.state]; rfl
  have N0 := Fr.nil n0
  refine own_enter (ef_0_I m p1) ?_
  refine own_step (W' := s₁.setTop (mkF m 1 #[.val (.int p1), .unset, .unset, .unset, .unset, .unset] [(.int p1)])) (fun _ k => XS.iloadN X0.here hx rfl (hb hby at_0) rfl k) ?_
  refine own_step (W' := s₁.setTop (mkF m 3 #[.val (.int p1), .unset, .unset, .unset, .unset, .unset] [(.int (2147483647 : Int32)), (.int p1)])) (fun _ k => X0.ldcInt hx hown (mvT hZ (hw _ (List.mem_of_getElem? (i := 0) rfl))) (g := (mkF m 1 #[.val (.int p1), .unset, .unset, .unset, .unset, .unset] [(.int p1)])) rfl (hb hby at_1) _ k) ?_
  refine own_step (W' := s₁.setTop (mkF m 4 #[.val (.int p1), .unset, .unset, .unset, .unset, .unset] [(.int (p1 &&& (2147483647 : Int32)))])) (fun _ k => XS.iand X0.here hx rfl (hb hby at_3) rfl k) ?_
  refine own_step (W' := s₁.setTop (mkF m 5 #[.val (.int p1), .unset, .unset, .unset, .unset, .unset] [(.int (5 : Int32)), (.int (p1 &&& (2147483647 : Int32)))])) (fun _ k => XS.iconst X0.here hx rfl (hb hby at_4) k) ?_
  refine own_step (W' := s₁.setTop (mkF m 6 #[.val (.int p1), .unset, .unset, .unset, .unset, .unset] [(.int ((p1 &&& (2147483647 : Int32)) % (5 : Int32)))])) (fun _ k => iremM X0 hx rfl (hb hby at_5) rfl (by decide) k) ?_
  rw [hk]
  refine own_step (W' := s₁.setTop (mkF m 7 #[.val (.int p1), .val (.int (1 : Int32)), .unset, .unset, .unset, .unset] [])) (fun _ k => XS.istoreN X0.here hx rfl (hb hby at_6) rfl (l' := #[.val (.int p1), .val (.int (1 : Int32)), .unset, .unset, .unset, .unset]) rfl k) ?_
  obtain ⟨T1, X1, e1, st1⟩ := getS2 X0 hx hZ hown (host := "") (Or.inl (hw _ (List.mem_of_getElem? (i := 1) rfl))) Via.refl e0 (pin_S0 P) (g := (mkF m 7 #[.val (.int p1), .val (.int (1 : Int32)), .unset, .unset, .unset, .unset] [])) rfl (hb hby at_7)
  refine own_step (W' := T1.setTop (mkF m 10 #[.val (.int p1), .val (.int (1 : Int32)), .unset, .unset, .unset, .unset] [(.ref (w 0))])) (fun _ k => st1 _ k) ?_
  refine own_step (W' := T1.setTop (mkF m 11 #[.val (.int p1), .val (.int (1 : Int32)), .val (.ref (w 0)), .unset, .unset, .unset] [])) (fun _ k => XS.astoreN X1.here hx rfl (hb hby at_10) rfl rfl (l' := #[.val (.int p1), .val (.int (1 : Int32)), .val (.ref (w 0)), .unset, .unset, .unset]) rfl k) ?_
  refine own_step (W' := T1.setTop (mkF m 12 #[.val (.int p1), .val (.int (1 : Int32)), .val (.ref (w 0)), .unset, .unset, .unset] [(.int (1 : Int32))])) (fun _ k => XS.iloadN X1.here hx rfl (hb hby at_11) rfl k) ?_
  refine own_step (W' := T1.setTop (mkF m 13 #[.val (.int p1), .val (.int (1 : Int32)), .val (.ref (w 0)), .unset, .unset, .unset] [(.int (1 : Int32)), (.int (1 : Int32))])) (fun _ k => XS.iconst X1.here hx rfl (hb hby at_12) k) ?_
  refine own_step (W' := T1.setTop (mkF m 16 #[.val (.int p1), .val (.int (1 : Int32)), .val (.ref (w 0)), .unset, .unset, .unset] [])) (fun _ k => XS.icmpNo X1.here hx rfl (hb hby at_13) rfl (by decide) k) ?_
  obtain ⟨T2, X2, e2, st2⟩ := getS2 X1 hx hZ hown (host := "") (Or.inl (hw _ (List.mem_of_getElem? (i := 16) rfl))) Via.refl e1 (pin_S1 P) (g := (mkF m 16 #[.val (.int p1), .val (.int (1 : Int32)), .val (.ref (w 0)), .unset, .unset, .unset] [])) rfl (hb hby at_16)
  refine own_step (W' := T2.setTop (mkF m 19 #[.val (.int p1), .val (.int (1 : Int32)), .val (.ref (w 0)), .unset, .unset, .unset] [(.ref (w 1))])) (fun _ k => st2 _ k) ?_
  refine own_step (W' := T2.setTop (mkF m 20 #[.val (.int p1), .val (.int (1 : Int32)), .val (.ref (w 1)), .unset, .unset, .unset] [])) (fun _ k => XS.astoreN X2.here hx rfl (hb hby at_19) rfl rfl (l' := #[.val (.int p1), .val (.int (1 : Int32)), .val (.ref (w 1)), .unset, .unset, .unset]) rfl k) ?_
  refine own_step (W' := T2.setTop (mkF m 56 #[.val (.int p1), .val (.int (1 : Int32)), .val (.ref (w 1)), .unset, .unset, .unset] [])) (fun _ k => XS.goto X2.here hx rfl (pc0 := 20) (pc' := 56) rfl (hb hby at_20) (by decide) (by decide) k) ?_
  refine own_fill p1 (1 : Int32) (w 1) X2 hx hZ hw hby hml hown e2 N0 Z0 P ?_
  intro T3 h3 L3 k3 b3 X3 e3 E3 N3 V3
  have P3 : Pins Z h3 w := P.ext E3
  have Z3 : n0 ≤ h3.size := Nat.le_trans Z0 E3.1
  refine own_step (W' := T3.setTop (mkF m 80 #[.val (.int p1), .val (.int (1 : Int32)), .val (.ref (w 1)), .val (.ref b3), .unset, .unset] [])) (fun _ k => XS.astoreN X3.here hx rfl (hb hby at_79) rfl rfl (l' := #[.val (.int p1), .val (.int (1 : Int32)), .val (.ref (w 1)), .val (.ref b3), .unset, .unset]) rfl k) ?_
  refine own_step (W' := T3.setTop (mkF m 81 #[.val (.int p1), .val (.int (1 : Int32)), .val (.ref (w 1)), .val (.ref b3), .unset, .unset] [(.ref b3)])) (fun _ k => XS.aloadN X3.here hx rfl (hb hby at_80) rfl rfl k) ?_
  refine own_step (W' := T3.setTop (mkF m 82 #[.val (.int p1), .val (.int (1 : Int32)), .val (.ref (w 1)), .val (.ref b3), .unset, .unset] [(.int (1 : Int32)), (.ref b3)])) (fun _ k => XS.iloadN X3.here hx rfl (hb hby at_81) rfl k) ?_
  refine own_step (W' := T3.setTop (mkF m 83 #[.val (.int p1), .val (.int (1 : Int32)), .val (.ref (w 1)), .val (.ref b3), .unset, .unset] [(.int (nar .boolean (1 : Int32)))])) (fun _ k => own_ldZ X3 hx hZ e3 V3 (j := (1 : Int32)) (v := (.int (nar .boolean (1 : Int32)))) ⟨by decide, by decide⟩ rfl (g := (mkF m 82 #[.val (.int p1), .val (.int (1 : Int32)), .val (.ref (w 1)), .val (.ref b3), .unset, .unset] [(.int (1 : Int32)), (.ref b3)])) rfl rfl (hb hby at_82) _ k) ?_
  refine own_step (W' := T3.setTop (mkF m 85 #[.val (.int p1), .val (.int (1 : Int32)), .val (.ref (w 1)), .val (.ref b3), .val (.int (nar .boolean (1 : Int32))), .unset] [])) (fun _ k => XS.istore X3.here hx rfl (hb hby at_83) rfl (l' := #[.val (.int p1), .val (.int (1 : Int32)), .val (.ref (w 1)), .val (.ref b3), .val (.int (nar .boolean (1 : Int32))), .unset]) rfl k) ?_
  refine own_step (W' := T3.setTop (mkF m 86 #[.val (.int p1), .val (.int (1 : Int32)), .val (.ref (w 1)), .val (.ref b3), .val (.int (nar .boolean (1 : Int32))), .unset] [(.ref (w 1))])) (fun _ k => XS.aloadN X3.here hx rfl (hb hby at_85) rfl rfl k) ?_
  obtain ⟨cq4, kq4, q4a, q4b, q4c⟩ := isOf hZ e3 (pin_E1 P3)
  obtain ⟨_, _, ⟨T4, L4, k4, n4⟩, -, X4, ⟨Lc4, hQ4, l4, y4, z4⟩, st4⟩ := X3.virtualBack hx (y := (⟨"com/example/strict_bill/strictbill/core/Invoice$Status", "paid", "()Z"⟩ : MethodName)) (z := (⟨"com/example/strict_bill/strictbill/core/Invoice$Status", "paid", "()Z"⟩ : MethodName)) hown (mvT hZ (hw _ (List.mem_of_getElem? (i := 5) rfl))) (mvT hZ (hw _ (List.mem_of_getElem? (i := 6) rfl))) (notFace_of_selects (args := #[]) (mvT hZ (hw _ (List.mem_of_getElem? (i := 8) rfl)))) (mvT hZ (hw _ (List.mem_of_getElem? (i := 8) rfl))) (mvT hZ (hw _ (List.mem_of_getElem? (i := 7) rfl))) (by decide) (backOf (W := 0) (rm1_w1 l Z a0 hw [] w h3 n0 Z3 P3) hZ (hw _ (List.mem_of_getElem? (i := 9) rfl)) (hw _ (List.mem_of_getElem? (i := 2) rfl)) (by decide) (by decide)) q4a q4c (g := (mkF m 86 #[.val (.int p1), .val (.int (1 : Int32)), .val (.ref (w 1)), .val (.ref b3), .val (.int (nar .boolean (1 : Int32))), .unset] [(.ref (w 1))])) rfl (by rw [hml]; rfl) (Steps.refl _) (argsL := []) (rest := []) (lenOf pd_0 rfl) rfl (by show 2 * 0 + _ ≤ _; exact Nat.le_of_eq rfl) (hb hby at_86) (fun _ _ => ⟨rfl, e3, (by decide : 1 + 0 ≤ _), (by decide : 5 + 0 ≤ _)⟩)
  dsimp only [Pt.U, Pt.locs, Pt.cells, Pt.slots] at X4 l4 y4 z4 st4 hQ4
  subst l4 y4 z4
  obtain ⟨rfl, N4q, e4⟩ := hQ4
  have N4 := Fr.app N3 N4q
  refine own_step (W' := T4.setTop (mkF m 89 #[.val (.int p1), .val (.int (1 : Int32)), .val (.ref (w 1)), .val (.ref b3), .val (.int (nar .boolean (1 : Int32))), .unset] [(.int (1 : Int32))])) (fun _ k => st4.trans k) ?_
  refine own_step (W' := T4.setTop (mkF m 91 #[.val (.int p1), .val (.int (1 : Int32)), .val (.ref (w 1)), .val (.ref b3), .val (.int (nar .boolean (1 : Int32))), .val (.int (1 : Int32))] [])) (fun _ k => XS.istore X4.here hx rfl (hb hby at_89) rfl (l' := #[.val (.int p1), .val (.int (1 : Int32)), .val (.ref (w 1)), .val (.ref b3), .val (.int (nar .boolean (1 : Int32))), .val (.int (1 : Int32))]) rfl k) ?_
  refine own_step (W' := T4.setTop (mkF m 93 #[.val (.int p1), .val (.int (1 : Int32)), .val (.ref (w 1)), .val (.ref b3), .val (.int (nar .boolean (1 : Int32))), .val (.int (1 : Int32))] [(.int (1 : Int32))])) (fun _ k => XS.iload X4.here hx rfl (hb hby at_91) rfl k) ?_
  refine own_step (W' := T4.setTop (mkF m 95 #[.val (.int p1), .val (.int (1 : Int32)), .val (.ref (w 1)), .val (.ref b3), .val (.int (nar .boolean (1 : Int32))), .val (.int (1 : Int32))] [(.int (nar .boolean (1 : Int32))), (.int (1 : Int32))])) (fun _ k => XS.iload X4.here hx rfl (hb hby at_93) rfl k) ?_
  refine own_step (W' := T4.setTop (mkF m 98 #[.val (.int p1), .val (.int (1 : Int32)), .val (.ref (w 1)), .val (.ref b3), .val (.int (nar .boolean (1 : Int32))), .val (.int (1 : Int32))] [])) (fun _ k => XS.icmpNo X4.here hx rfl (hb hby at_95) rfl (by decide) k) ?_
  refine own_step (W' := T4.setTop (mkF m 100 #[.val (.int p1), .val (.int (1 : Int32)), .val (.ref (w 1)), .val (.ref b3), .val (.int (nar .boolean (1 : Int32))), .val (.int (1 : Int32))] [(.int (1 : Int32))])) (fun _ k => XS.iload X4.here hx rfl (hb hby at_98) rfl k) ?_
  refine own_step (W' := T4.setTop (mkF m 103 #[.val (.int p1), .val (.int (1 : Int32)), .val (.ref (w 1)), .val (.ref b3), .val (.int (nar .boolean (1 : Int32))), .val (.int (1 : Int32))] [])) (fun _ k => XS.ifNo X4.here hx rfl (hb hby at_100) rfl (by decide) k) ?_
  refine own_step (W' := T4.setTop (mkF m 104 #[.val (.int p1), .val (.int (1 : Int32)), .val (.ref (w 1)), .val (.ref b3), .val (.int (nar .boolean (1 : Int32))), .val (.int (1 : Int32))] [(.ref (w 1))])) (fun _ k => XS.aloadN X4.here hx rfl (hb hby at_103) rfl rfl k) ?_
  obtain ⟨cq5, kq5, q5a, q5b, q5c⟩ := isOf hZ e4 (pin_E1 P3)
  obtain ⟨_, _, ⟨T5, L5, k5, n5⟩, -, X5, ⟨Lc5, hQ5, l5, y5, z5⟩, st5⟩ := X4.virtualBack hx (y := (⟨"com/example/strict_bill/strictbill/core/Invoice$Status", "payable", "()Z"⟩ : MethodName)) (z := (⟨"com/example/strict_bill/strictbill/core/Invoice$Status", "payable", "()Z"⟩ : MethodName)) hown (mvT hZ (hw _ (List.mem_of_getElem? (i := 17) rfl))) (mvT hZ (hw _ (List.mem_of_getElem? (i := 18) rfl))) (notFace_of_selects (args := #[]) (mvT hZ (hw _ (List.mem_of_getElem? (i := 20) rfl)))) (mvT hZ (hw _ (List.mem_of_getElem? (i := 20) rfl))) (mvT hZ (hw _ (List.mem_of_getElem? (i := 19) rfl))) (by decide) (backOf (W := 0) (rm2_w1 l Z a0 hw [] w h3 n0 Z3 P3) hZ (hw _ (List.mem_of_getElem? (i := 21) rfl)) (hw _ (List.mem_of_getElem? (i := 2) rfl)) (by decide) (by decide)) q5a q5c (g := (mkF m 104 #[.val (.int p1), .val (.int (1 : Int32)), .val (.ref (w 1)), .val (.ref b3), .val (.int (nar .boolean (1 : Int32))), .val (.int (1 : Int32))] [(.ref (w 1))])) rfl (by rw [hml]; rfl) (Steps.refl _) (argsL := []) (rest := []) (lenOf pd_0 rfl) rfl (by show 2 * 0 + _ ≤ _; exact Nat.le_of_eq rfl) (hb hby at_104) (fun _ _ => ⟨rfl, e4, (by decide : 1 + 0 ≤ _), (by decide : 5 + 0 ≤ _)⟩)
  dsimp only [Pt.U, Pt.locs, Pt.cells, Pt.slots] at X5 l5 y5 z5 st5 hQ5
  subst l5 y5 z5
  obtain ⟨rfl, N5q, e5⟩ := hQ5
  have N5 := Fr.app N4 N5q
  refine own_step (W' := T5.setTop (mkF m 107 #[.val (.int p1), .val (.int (1 : Int32)), .val (.ref (w 1)), .val (.ref b3), .val (.int (nar .boolean (1 : Int32))), .val (.int (1 : Int32))] [(.int (0 : Int32))])) (fun _ k => st5.trans k) ?_
  refine own_step (W' := T5.setTop (mkF m 110 #[.val (.int p1), .val (.int (1 : Int32)), .val (.ref (w 1)), .val (.ref b3), .val (.int (nar .boolean (1 : Int32))), .val (.int (1 : Int32))] [])) (fun _ k => XS.ifNo X5.here hx rfl (hb hby at_107) rfl (by decide) k) ?_
  refine own_step (W' := T5.setTop (mkF m 111 #[.val (.int p1), .val (.int (1 : Int32)), .val (.ref (w 1)), .val (.ref b3), .val (.int (nar .boolean (1 : Int32))), .val (.int (1 : Int32))] [(.int (1 : Int32))])) (fun _ k => XS.iconst X5.here hx rfl (hb hby at_110) k) ?_
  refine own_step (W' := T5.setTop (mkF m 115 #[.val (.int p1), .val (.int (1 : Int32)), .val (.ref (w 1)), .val (.ref b3), .val (.int (nar .boolean (1 : Int32))), .val (.int (1 : Int32))] [(.int (1 : Int32))])) (fun _ k => XS.goto X5.here hx rfl (pc0 := 111) (pc' := 115) rfl (hb hby at_111) (by decide) (by decide) k) ?_
  exact own_ret X5 Bd.notSynchronized Bd.returns (v := (.int (1 : Int32))) (fun fs hr => retN X5 hx (t := .boolean) Bd.returns (by simp) (hb hby at_115) hr) ⟨rfl, N5⟩ (by decide) (by decide)
set_option maxRecDepth 65536 in
set_option maxHeartbeats 40000000 in
theorem rm1_w4 (l : Launch) (Z : State) (a0 : Array Value) (hw : ∀ d ∈ tables_1, d.before a0 Z = true) (ws : List Jvm.Cond) (w : Nat → Addr) (h0 : Heap) (n0 : Nat) (Z0 : n0 ≤ h0.size) (P : Pins Z h0 w) :
    MetFree l (⟨"com/example/strict_bill/strictbill/core/Invoice$Status", "paid", "()Z"⟩ : MethodName) (head1 (Jvm.Cond.code (⟨"com/example/strict_bill/strictbill/core/Invoice$Status", "paid", "()Z"⟩ : MethodName) prog_19_method_5_code 1 (some .boolean) :: ws) ({ frames := 0, cells := 0, slots := 0, locals := 0 } : Room)) (fun a U => a = #[(.ref (w 4))] ∧ Z.Warmed39 U.vm ∧ U.heap = h0) (fun _ _ _ _ _ => True) (fun _ U o U' => ∃ v L, o = .returned v ∧ own_QK (some (.int (0 : Int32))) h0 n0 v U'.heap L ∧ FrameEnd U o U' L ({ frames := 0, cells := 0, slots := 0, locals := 0 } : Room).cells ({ frames := 0, cells := 0, slots := 0, locals := 0 } : Room).slots) := by
  refine MetFree.of_bodySF (plainFor_of_name pn_com_example_strict_bill_strictbill_core_Invoice_Status) hisR ?_
  intro p e s m args below meth c s₁ Bd hml0 hP hK
  obtain ⟨rfl, hZ, hh⟩ := hP
  have hx := Bd.exec
  have hby := Bd.bytes
  have hml : c.maxLocals = 1 := hml0
  have hown : s.vm.findClass "com/example/strict_bill/strictbill/core/Invoice$Status" = some m.cls := findClass_of_methodNamed Bd.named
  have hnm := (name_of_methodNamed Bd.named Bd.method).1
  have X0 : Stand p l e ({ frames := 0, cells := 0, slots := 0, locals := 0 } : Room) s m #[(.ref (w 4))] below meth c s₁ [] 0 0 := Stand.of_body Bd
  have e0 : s₁.heap = h0 := by rw [← hh, Bd.state]; rfl
  have N0 := Fr.nil n0
  refine own_enter (ef_1_R m (w 4)) ?_
  refine own_step (W' := s₁.setTop (mkF m 1 #[.val (.ref (w 4))] [(.ref (w 4))])) (fun _ k => XS.aloadN X0.here hx rfl (hb hby d1_0) rfl rfl k) ?_
  obtain ⟨T1, X1, e1, st1⟩ := getS2 X0 hx hZ hown (host := "") (Or.inl (hw _ (List.mem_of_getElem? (i := 10) rfl))) Via.refl e0 (pin_S1 P) (g := (mkF m 1 #[.val (.ref (w 4))] [(.ref (w 4))])) rfl (hb hby d1_1)
  refine own_step (W' := T1.setTop (mkF m 4 #[.val (.ref (w 4))] [(.ref (w 1)), (.ref (w 4))])) (fun _ k => st1 _ k) ?_
  refine own_step (W' := T1.setTop (mkF m 7 #[.val (.ref (w 4))] [])) (fun _ k => Jvm.RoadKit.acmp (g := (mkF m 4 #[.val (.ref (w 4))] [(.ref (w 1)), (.ref (w 4))])) X1 hx rfl rfl rfl (pc0 := 4) (pc' := 7) (same := false) rfl (hb hby d1_4) rfl (decide_eq_false fun q => (Fld.ne (pin_F4_ordinal P) (pin_F1_ordinal P) (by decide)) (Value.ref.inj q)) (by decide) (by decide) k) ?_
  refine own_step (W' := T1.setTop (mkF m 8 #[.val (.ref (w 4))] [(.ref (w 4))])) (fun _ k => XS.aloadN X1.here hx rfl (hb hby d1_7) rfl rfl k) ?_
  obtain ⟨T2, X2, e2, st2⟩ := getS2 X1 hx hZ hown (host := "") (Or.inl (hw _ (List.mem_of_getElem? (i := 12) rfl))) Via.refl e1 (pin_S2 P) (g := (mkF m 8 #[.val (.ref (w 4))] [(.ref (w 4))])) rfl (hb hby d1_8)
  refine own_step (W' := T2.setTop (mkF m 11 #[.val (.ref (w 4))] [(.ref (w 2)), (.ref (w 4))])) (fun _ k => st2 _ k) ?_
  refine own_step (W' := T2.setTop (mkF m 18 #[.val (.ref (w 4))] [])) (fun _ k => Jvm.RoadKit.acmp (g := (mkF m 11 #[.val (.ref (w 4))] [(.ref (w 2)), (.ref (w 4))])) X2 hx rfl rfl rfl (pc0 := 11) (pc' := 18) (same := false) rfl (hb hby d1_11) rfl (decide_eq_false fun q => (Fld.ne (pin_F4_ordinal P) (pin_F2_ordinal P) (by decide)) (Value.ref.inj q)) (by decide) (by decide) k) ?_
  refine own_step (W' := T2.setTop (mkF m 19 #[.val (.ref (w 4))] [(.int (0 : Int32))])) (fun _ k => XS.iconst X2.here hx rfl (hb hby d1_18) k) ?_
  exact own_ret X2 Bd.notSynchronized Bd.returns (v := (.int (0 : Int32))) (fun fs hr => retN X2 hx (t := .boolean) Bd.returns (by simp) (hb hby d1_19) hr) ⟨rfl, N0, e2⟩ (by decide) (by decide)
set_option maxRecDepth 65536 in
set_option maxHeartbeats 40000000 in
theorem rm0_2 (l : Launch) (Z : State) (a0 : Array Value) (hw : ∀ d ∈ tables_1, d.before a0 Z = true) (ws : List Jvm.Cond) (p1 : Int32) (hk : ((p1 &&& (2147483647 : Int32)) % (5 : Int32)) = (2 : Int32)) (w : Nat → Addr) (h0 : Heap) (n0 : Nat) (Z0 : n0 ≤ h0.size) (P : Pins Z h0 w) :
    MetFree l x (head1 (Jvm.Cond.code x code maxLocals ret :: ws) room_1) (fun a U => a = #[(.int p1)] ∧ Z.Warmed39 U.vm ∧ U.heap = h0) (fun _ _ _ _ _ => True) (fun _ U o U' => ∃ v L, o = .returned v ∧ own_Q0 n0 v U'.heap L ∧ FrameEnd U o U' L room_1.cells room_1.slots) := by
  refine MetFree.of_bodySF (plainFor_of_name pn_com_example_strict_bill_strictbill_core_StatusPaidPinLaw) hisR ?_
  intro p e s m args below meth c s₁ Bd hml0 hP hK
  obtain ⟨rfl, hZ, hh⟩ := hP
  have hx := Bd.exec
  have hby := Bd.bytes
  have hml : c.maxLocals = 6 := hml0
  have hown : s.vm.findClass "com/example/strict_bill/strictbill/core/StatusPaidPinLaw" = some m.cls := findClass_of_methodNamed Bd.named
  have hnm := (name_of_methodNamed Bd.named Bd.method).1
  have X0 : Stand p l e room_1 s m #[(.int p1)] below meth c s₁ [] 0 0 := Stand.of_body Bd
  have e0 : s₁.heap = h0 := by rw [← hh, Bd.state]; rfl
  have N0 := Fr.nil n0
  refine own_enter (ef_0_I m p1) ?_
  refine own_step (W' := s₁.setTop (mkF m 1 #[.val (.int p1), .unset, .unset, .unset, .unset, .unset] [(.int p1)])) (fun _ k => XS.iloadN X0.here hx rfl (hb hby at_0) rfl k) ?_
  refine own_step (W' := s₁.setTop (mkF m 3 #[.val (.int p1), .unset, .unset, .unset, .unset, .unset] [(.int (2147483647 : Int32)), (.int p1)])) (fun _ k => X0.ldcInt hx hown (mvT hZ (hw _ (List.mem_of_getElem? (i := 0) rfl))) (g := (mkF m 1 #[.val (.int p1), .unset, .unset, .unset, .unset, .unset] [(.int p1)])) rfl (hb hby at_1) _ k) ?_
  refine own_step (W' := s₁.setTop (mkF m 4 #[.val (.int p1), .unset, .unset, .unset, .unset, .unset] [(.int (p1 &&& (2147483647 : Int32)))])) (fun _ k => XS.iand X0.here hx rfl (hb hby at_3) rfl k) ?_
  refine own_step (W' := s₁.setTop (mkF m 5 #[.val (.int p1), .unset, .unset, .unset, .unset, .unset] [(.int (5 : Int32)), (.int (p1 &&& (2147483647 : Int32)))])) (fun _ k => XS.iconst X0.here hx rfl (hb hby at_4) k) ?_
  refine own_step (W' := s₁.setTop (mkF m 6 #[.val (.int p1), .unset, .unset, .unset, .unset, .unset] [(.int ((p1 &&& (2147483647 : Int32)) % (5 : Int32)))])) (fun _ k => iremM X0 hx rfl (hb hby at_5) rfl (by decide) k) ?_
  rw [hk]
  refine own_step (W' := s₁.setTop (mkF m 7 #[.val (.int p1), .val (.int (2 : Int32)), .unset, .unset, .unset, .unset] [])) (fun _ k => XS.istoreN X0.here hx rfl (hb hby at_6) rfl (l' := #[.val (.int p1), .val (.int (2 : Int32)), .unset, .unset, .unset, .unset]) rfl k) ?_
  obtain ⟨T1, X1, e1, st1⟩ := getS2 X0 hx hZ hown (host := "") (Or.inl (hw _ (List.mem_of_getElem? (i := 1) rfl))) Via.refl e0 (pin_S0 P) (g := (mkF m 7 #[.val (.int p1), .val (.int (2 : Int32)), .unset, .unset, .unset, .unset] [])) rfl (hb hby at_7)
  refine own_step (W' := T1.setTop (mkF m 10 #[.val (.int p1), .val (.int (2 : Int32)), .unset, .unset, .unset, .unset] [(.ref (w 0))])) (fun _ k => st1 _ k) ?_
  refine own_step (W' := T1.setTop (mkF m 11 #[.val (.int p1), .val (.int (2 : Int32)), .val (.ref (w 0)), .unset, .unset, .unset] [])) (fun _ k => XS.astoreN X1.here hx rfl (hb hby at_10) rfl rfl (l' := #[.val (.int p1), .val (.int (2 : Int32)), .val (.ref (w 0)), .unset, .unset, .unset]) rfl k) ?_
  refine own_step (W' := T1.setTop (mkF m 12 #[.val (.int p1), .val (.int (2 : Int32)), .val (.ref (w 0)), .unset, .unset, .unset] [(.int (2 : Int32))])) (fun _ k => XS.iloadN X1.here hx rfl (hb hby at_11) rfl k) ?_
  refine own_step (W' := T1.setTop (mkF m 13 #[.val (.int p1), .val (.int (2 : Int32)), .val (.ref (w 0)), .unset, .unset, .unset] [(.int (1 : Int32)), (.int (2 : Int32))])) (fun _ k => XS.iconst X1.here hx rfl (hb hby at_12) k) ?_
  refine own_step (W' := T1.setTop (mkF m 23 #[.val (.int p1), .val (.int (2 : Int32)), .val (.ref (w 0)), .unset, .unset, .unset] [])) (fun _ k => XS.icmpYes X1.here hx rfl (pc0 := 13) (pc' := 23) rfl (hb hby at_13) rfl (by decide) (by decide) (by decide) k) ?_
  refine own_step (W' := T1.setTop (mkF m 24 #[.val (.int p1), .val (.int (2 : Int32)), .val (.ref (w 0)), .unset, .unset, .unset] [(.int (2 : Int32))])) (fun _ k => XS.iloadN X1.here hx rfl (hb hby at_23) rfl k) ?_
  refine own_step (W' := T1.setTop (mkF m 25 #[.val (.int p1), .val (.int (2 : Int32)), .val (.ref (w 0)), .unset, .unset, .unset] [(.int (2 : Int32)), (.int (2 : Int32))])) (fun _ k => XS.iconst X1.here hx rfl (hb hby at_24) k) ?_
  refine own_step (W' := T1.setTop (mkF m 28 #[.val (.int p1), .val (.int (2 : Int32)), .val (.ref (w 0)), .unset, .unset, .unset] [])) (fun _ k => XS.icmpNo X1.here hx rfl (hb hby at_25) rfl (by decide) k) ?_
  obtain ⟨T2, X2, e2, st2⟩ := getS2 X1 hx hZ hown (host := "") (Or.inl (hw _ (List.mem_of_getElem? (i := 26) rfl))) Via.refl e1 (pin_S4 P) (g := (mkF m 28 #[.val (.int p1), .val (.int (2 : Int32)), .val (.ref (w 0)), .unset, .unset, .unset] [])) rfl (hb hby at_28)
  refine own_step (W' := T2.setTop (mkF m 31 #[.val (.int p1), .val (.int (2 : Int32)), .val (.ref (w 0)), .unset, .unset, .unset] [(.ref (w 4))])) (fun _ k => st2 _ k) ?_
  refine own_step (W' := T2.setTop (mkF m 32 #[.val (.int p1), .val (.int (2 : Int32)), .val (.ref (w 4)), .unset, .unset, .unset] [])) (fun _ k => XS.astoreN X2.here hx rfl (hb hby at_31) rfl rfl (l' := #[.val (.int p1), .val (.int (2 : Int32)), .val (.ref (w 4)), .unset, .unset, .unset]) rfl k) ?_
  refine own_step (W' := T2.setTop (mkF m 56 #[.val (.int p1), .val (.int (2 : Int32)), .val (.ref (w 4)), .unset, .unset, .unset] [])) (fun _ k => XS.goto X2.here hx rfl (pc0 := 32) (pc' := 56) rfl (hb hby at_32) (by decide) (by decide) k) ?_
  refine own_fill p1 (2 : Int32) (w 4) X2 hx hZ hw hby hml hown e2 N0 Z0 P ?_
  intro T3 h3 L3 k3 b3 X3 e3 E3 N3 V3
  have P3 : Pins Z h3 w := P.ext E3
  have Z3 : n0 ≤ h3.size := Nat.le_trans Z0 E3.1
  refine own_step (W' := T3.setTop (mkF m 80 #[.val (.int p1), .val (.int (2 : Int32)), .val (.ref (w 4)), .val (.ref b3), .unset, .unset] [])) (fun _ k => XS.astoreN X3.here hx rfl (hb hby at_79) rfl rfl (l' := #[.val (.int p1), .val (.int (2 : Int32)), .val (.ref (w 4)), .val (.ref b3), .unset, .unset]) rfl k) ?_
  refine own_step (W' := T3.setTop (mkF m 81 #[.val (.int p1), .val (.int (2 : Int32)), .val (.ref (w 4)), .val (.ref b3), .unset, .unset] [(.ref b3)])) (fun _ k => XS.aloadN X3.here hx rfl (hb hby at_80) rfl rfl k) ?_
  refine own_step (W' := T3.setTop (mkF m 82 #[.val (.int p1), .val (.int (2 : Int32)), .val (.ref (w 4)), .val (.ref b3), .unset, .unset] [(.int (2 : Int32)), (.ref b3)])) (fun _ k => XS.iloadN X3.here hx rfl (hb hby at_81) rfl k) ?_
  refine own_step (W' := T3.setTop (mkF m 83 #[.val (.int p1), .val (.int (2 : Int32)), .val (.ref (w 4)), .val (.ref b3), .unset, .unset] [(.int (nar .boolean (0 : Int32)))])) (fun _ k => own_ldZ X3 hx hZ e3 V3 (j := (2 : Int32)) (v := (.int (nar .boolean (0 : Int32)))) ⟨by decide, by decide⟩ rfl (g := (mkF m 82 #[.val (.int p1), .val (.int (2 : Int32)), .val (.ref (w 4)), .val (.ref b3), .unset, .unset] [(.int (2 : Int32)), (.ref b3)])) rfl rfl (hb hby at_82) _ k) ?_
  refine own_step (W' := T3.setTop (mkF m 85 #[.val (.int p1), .val (.int (2 : Int32)), .val (.ref (w 4)), .val (.ref b3), .val (.int (nar .boolean (0 : Int32))), .unset] [])) (fun _ k => XS.istore X3.here hx rfl (hb hby at_83) rfl (l' := #[.val (.int p1), .val (.int (2 : Int32)), .val (.ref (w 4)), .val (.ref b3), .val (.int (nar .boolean (0 : Int32))), .unset]) rfl k) ?_
  refine own_step (W' := T3.setTop (mkF m 86 #[.val (.int p1), .val (.int (2 : Int32)), .val (.ref (w 4)), .val (.ref b3), .val (.int (nar .boolean (0 : Int32))), .unset] [(.ref (w 4))])) (fun _ k => XS.aloadN X3.here hx rfl (hb hby at_85) rfl rfl k) ?_
  obtain ⟨cq4, kq4, q4a, q4b, q4c⟩ := isOf hZ e3 (pin_E4 P3)
  obtain ⟨_, _, ⟨T4, L4, k4, n4⟩, -, X4, ⟨Lc4, hQ4, l4, y4, z4⟩, st4⟩ := X3.virtualBack hx (y := (⟨"com/example/strict_bill/strictbill/core/Invoice$Status", "paid", "()Z"⟩ : MethodName)) (z := (⟨"com/example/strict_bill/strictbill/core/Invoice$Status", "paid", "()Z"⟩ : MethodName)) hown (mvT hZ (hw _ (List.mem_of_getElem? (i := 5) rfl))) (mvT hZ (hw _ (List.mem_of_getElem? (i := 6) rfl))) (notFace_of_selects (args := #[]) (mvT hZ (hw _ (List.mem_of_getElem? (i := 8) rfl)))) (mvT hZ (hw _ (List.mem_of_getElem? (i := 8) rfl))) (mvT hZ (hw _ (List.mem_of_getElem? (i := 7) rfl))) (by decide) (backOf (W := 0) (rm1_w4 l Z a0 hw [] w h3 n0 Z3 P3) hZ (hw _ (List.mem_of_getElem? (i := 9) rfl)) (hw _ (List.mem_of_getElem? (i := 2) rfl)) (by decide) (by decide)) q4a q4c (g := (mkF m 86 #[.val (.int p1), .val (.int (2 : Int32)), .val (.ref (w 4)), .val (.ref b3), .val (.int (nar .boolean (0 : Int32))), .unset] [(.ref (w 4))])) rfl (by rw [hml]; rfl) (Steps.refl _) (argsL := []) (rest := []) (lenOf pd_0 rfl) rfl (by show 2 * 0 + _ ≤ _; exact Nat.le_of_eq rfl) (hb hby at_86) (fun _ _ => ⟨rfl, e3, (by decide : 1 + 0 ≤ _), (by decide : 5 + 0 ≤ _)⟩)
  dsimp only [Pt.U, Pt.locs, Pt.cells, Pt.slots] at X4 l4 y4 z4 st4 hQ4
  subst l4 y4 z4
  obtain ⟨rfl, N4q, e4⟩ := hQ4
  have N4 := Fr.app N3 N4q
  refine own_step (W' := T4.setTop (mkF m 89 #[.val (.int p1), .val (.int (2 : Int32)), .val (.ref (w 4)), .val (.ref b3), .val (.int (nar .boolean (0 : Int32))), .unset] [(.int (0 : Int32))])) (fun _ k => st4.trans k) ?_
  refine own_step (W' := T4.setTop (mkF m 91 #[.val (.int p1), .val (.int (2 : Int32)), .val (.ref (w 4)), .val (.ref b3), .val (.int (nar .boolean (0 : Int32))), .val (.int (0 : Int32))] [])) (fun _ k => XS.istore X4.here hx rfl (hb hby at_89) rfl (l' := #[.val (.int p1), .val (.int (2 : Int32)), .val (.ref (w 4)), .val (.ref b3), .val (.int (nar .boolean (0 : Int32))), .val (.int (0 : Int32))]) rfl k) ?_
  refine own_step (W' := T4.setTop (mkF m 93 #[.val (.int p1), .val (.int (2 : Int32)), .val (.ref (w 4)), .val (.ref b3), .val (.int (nar .boolean (0 : Int32))), .val (.int (0 : Int32))] [(.int (0 : Int32))])) (fun _ k => XS.iload X4.here hx rfl (hb hby at_91) rfl k) ?_
  refine own_step (W' := T4.setTop (mkF m 95 #[.val (.int p1), .val (.int (2 : Int32)), .val (.ref (w 4)), .val (.ref b3), .val (.int (nar .boolean (0 : Int32))), .val (.int (0 : Int32))] [(.int (nar .boolean (0 : Int32))), (.int (0 : Int32))])) (fun _ k => XS.iload X4.here hx rfl (hb hby at_93) rfl k) ?_
  refine own_step (W' := T4.setTop (mkF m 98 #[.val (.int p1), .val (.int (2 : Int32)), .val (.ref (w 4)), .val (.ref b3), .val (.int (nar .boolean (0 : Int32))), .val (.int (0 : Int32))] [])) (fun _ k => XS.icmpNo X4.here hx rfl (hb hby at_95) rfl (by decide) k) ?_
  refine own_step (W' := T4.setTop (mkF m 100 #[.val (.int p1), .val (.int (2 : Int32)), .val (.ref (w 4)), .val (.ref b3), .val (.int (nar .boolean (0 : Int32))), .val (.int (0 : Int32))] [(.int (0 : Int32))])) (fun _ k => XS.iload X4.here hx rfl (hb hby at_98) rfl k) ?_
  refine own_step (W' := T4.setTop (mkF m 110 #[.val (.int p1), .val (.int (2 : Int32)), .val (.ref (w 4)), .val (.ref b3), .val (.int (nar .boolean (0 : Int32))), .val (.int (0 : Int32))] [])) (fun _ k => XS.ifYes X4.here hx rfl (pc0 := 100) (pc' := 110) rfl (hb hby at_100) rfl (by decide) (by decide) (by decide) k) ?_
  refine own_step (W' := T4.setTop (mkF m 111 #[.val (.int p1), .val (.int (2 : Int32)), .val (.ref (w 4)), .val (.ref b3), .val (.int (nar .boolean (0 : Int32))), .val (.int (0 : Int32))] [(.int (1 : Int32))])) (fun _ k => XS.iconst X4.here hx rfl (hb hby at_110) k) ?_
  refine own_step (W' := T4.setTop (mkF m 115 #[.val (.int p1), .val (.int (2 : Int32)), .val (.ref (w 4)), .val (.ref b3), .val (.int (nar .boolean (0 : Int32))), .val (.int (0 : Int32))] [(.int (1 : Int32))])) (fun _ k => XS.goto X4.here hx rfl (pc0 := 111) (pc' := 115) rfl (hb hby at_111) (by decide) (by decide) k) ?_
  exact own_ret X4 Bd.notSynchronized Bd.returns (v := (.int (1 : Int32))) (fun fs hr => retN X4 hx (t := .boolean) Bd.returns (by simp) (hb hby at_115) hr) ⟨rfl, N4⟩ (by decide) (by decide)
set_option maxRecDepth 65536 in
set_option maxHeartbeats 40000000 in
theorem rm1_w3 (l : Launch) (Z : State) (a0 : Array Value) (hw : ∀ d ∈ tables_1, d.before a0 Z = true) (ws : List Jvm.Cond) (w : Nat → Addr) (h0 : Heap) (n0 : Nat) (Z0 : n0 ≤ h0.size) (P : Pins Z h0 w) :
    MetFree l (⟨"com/example/strict_bill/strictbill/core/Invoice$Status", "paid", "()Z"⟩ : MethodName) (head1 (Jvm.Cond.code (⟨"com/example/strict_bill/strictbill/core/Invoice$Status", "paid", "()Z"⟩ : MethodName) prog_19_method_5_code 1 (some .boolean) :: ws) ({ frames := 0, cells := 0, slots := 0, locals := 0 } : Room)) (fun a U => a = #[(.ref (w 3))] ∧ Z.Warmed39 U.vm ∧ U.heap = h0) (fun _ _ _ _ _ => True) (fun _ U o U' => ∃ v L, o = .returned v ∧ own_QK (some (.int (0 : Int32))) h0 n0 v U'.heap L ∧ FrameEnd U o U' L ({ frames := 0, cells := 0, slots := 0, locals := 0 } : Room).cells ({ frames := 0, cells := 0, slots := 0, locals := 0 } : Room).slots) := by
  refine MetFree.of_bodySF (plainFor_of_name pn_com_example_strict_bill_strictbill_core_Invoice_Status) hisR ?_
  intro p e s m args below meth c s₁ Bd hml0 hP hK
  obtain ⟨rfl, hZ, hh⟩ := hP
  have hx := Bd.exec
  have hby := Bd.bytes
  have hml : c.maxLocals = 1 := hml0
  have hown : s.vm.findClass "com/example/strict_bill/strictbill/core/Invoice$Status" = some m.cls := findClass_of_methodNamed Bd.named
  have hnm := (name_of_methodNamed Bd.named Bd.method).1
  have X0 : Stand p l e ({ frames := 0, cells := 0, slots := 0, locals := 0 } : Room) s m #[(.ref (w 3))] below meth c s₁ [] 0 0 := Stand.of_body Bd
  have e0 : s₁.heap = h0 := by rw [← hh, Bd.state]; rfl
  have N0 := Fr.nil n0
  refine own_enter (ef_1_R m (w 3)) ?_
  refine own_step (W' := s₁.setTop (mkF m 1 #[.val (.ref (w 3))] [(.ref (w 3))])) (fun _ k => XS.aloadN X0.here hx rfl (hb hby d1_0) rfl rfl k) ?_
  obtain ⟨T1, X1, e1, st1⟩ := getS2 X0 hx hZ hown (host := "") (Or.inl (hw _ (List.mem_of_getElem? (i := 10) rfl))) Via.refl e0 (pin_S1 P) (g := (mkF m 1 #[.val (.ref (w 3))] [(.ref (w 3))])) rfl (hb hby d1_1)
  refine own_step (W' := T1.setTop (mkF m 4 #[.val (.ref (w 3))] [(.ref (w 1)), (.ref (w 3))])) (fun _ k => st1 _ k) ?_
  refine own_step (W' := T1.setTop (mkF m 7 #[.val (.ref (w 3))] [])) (fun _ k => Jvm.RoadKit.acmp (g := (mkF m 4 #[.val (.ref (w 3))] [(.ref (w 1)), (.ref (w 3))])) X1 hx rfl rfl rfl (pc0 := 4) (pc' := 7) (same := false) rfl (hb hby d1_4) rfl (decide_eq_false fun q => (Fld.ne (pin_F3_ordinal P) (pin_F1_ordinal P) (by decide)) (Value.ref.inj q)) (by decide) (by decide) k) ?_
  refine own_step (W' := T1.setTop (mkF m 8 #[.val (.ref (w 3))] [(.ref (w 3))])) (fun _ k => XS.aloadN X1.here hx rfl (hb hby d1_7) rfl rfl k) ?_
  obtain ⟨T2, X2, e2, st2⟩ := getS2 X1 hx hZ hown (host := "") (Or.inl (hw _ (List.mem_of_getElem? (i := 12) rfl))) Via.refl e1 (pin_S2 P) (g := (mkF m 8 #[.val (.ref (w 3))] [(.ref (w 3))])) rfl (hb hby d1_8)
  refine own_step (W' := T2.setTop (mkF m 11 #[.val (.ref (w 3))] [(.ref (w 2)), (.ref (w 3))])) (fun _ k => st2 _ k) ?_
  refine own_step (W' := T2.setTop (mkF m 18 #[.val (.ref (w 3))] [])) (fun _ k => Jvm.RoadKit.acmp (g := (mkF m 11 #[.val (.ref (w 3))] [(.ref (w 2)), (.ref (w 3))])) X2 hx rfl rfl rfl (pc0 := 11) (pc' := 18) (same := false) rfl (hb hby d1_11) rfl (decide_eq_false fun q => (Fld.ne (pin_F3_ordinal P) (pin_F2_ordinal P) (by decide)) (Value.ref.inj q)) (by decide) (by decide) k) ?_
  refine own_step (W' := T2.setTop (mkF m 19 #[.val (.ref (w 3))] [(.int (0 : Int32))])) (fun _ k => XS.iconst X2.here hx rfl (hb hby d1_18) k) ?_
  exact own_ret X2 Bd.notSynchronized Bd.returns (v := (.int (0 : Int32))) (fun fs hr => retN X2 hx (t := .boolean) Bd.returns (by simp) (hb hby d1_19) hr) ⟨rfl, N0, e2⟩ (by decide) (by decide)
set_option maxRecDepth 65536 in
set_option maxHeartbeats 40000000 in
theorem rm0_3 (l : Launch) (Z : State) (a0 : Array Value) (hw : ∀ d ∈ tables_1, d.before a0 Z = true) (ws : List Jvm.Cond) (p1 : Int32) (hk : ((p1 &&& (2147483647 : Int32)) % (5 : Int32)) = (3 : Int32)) (w : Nat → Addr) (h0 : Heap) (n0 : Nat) (Z0 : n0 ≤ h0.size) (P : Pins Z h0 w) :
    MetFree l x (head1 (Jvm.Cond.code x code maxLocals ret :: ws) room_1) (fun a U => a = #[(.int p1)] ∧ Z.Warmed39 U.vm ∧ U.heap = h0) (fun _ _ _ _ _ => True) (fun _ U o U' => ∃ v L, o = .returned v ∧ own_Q0 n0 v U'.heap L ∧ FrameEnd U o U' L room_1.cells room_1.slots) := by
  refine MetFree.of_bodySF (plainFor_of_name pn_com_example_strict_bill_strictbill_core_StatusPaidPinLaw) hisR ?_
  intro p e s m args below meth c s₁ Bd hml0 hP hK
  obtain ⟨rfl, hZ, hh⟩ := hP
  have hx := Bd.exec
  have hby := Bd.bytes
  have hml : c.maxLocals = 6 := hml0
  have hown : s.vm.findClass "com/example/strict_bill/strictbill/core/StatusPaidPinLaw" = some m.cls := findClass_of_methodNamed Bd.named
  have hnm := (name_of_methodNamed Bd.named Bd.method).1
  have X0 : Stand p l e room_1 s m #[(.int p1)] below meth c s₁ [] 0 0 := Stand.of_body Bd
  have e0 : s₁.heap = h0 := by rw [← hh, Bd.state]; rfl
  have N0 := Fr.nil n0
  refine own_enter (ef_0_I m p1) ?_
  refine own_step (W' := s₁.setTop (mkF m 1 #[.val (.int p1), .unset, .unset, .unset, .unset, .unset] [(.int p1)])) (fun _ k => XS.iloadN X0.here hx rfl (hb hby at_0) rfl k) ?_
  refine own_step (W' := s₁.setTop (mkF m 3 #[.val (.int p1), .unset, .unset, .unset, .unset, .unset] [(.int (2147483647 : Int32)), (.int p1)])) (fun _ k => X0.ldcInt hx hown (mvT hZ (hw _ (List.mem_of_getElem? (i := 0) rfl))) (g := (mkF m 1 #[.val (.int p1), .unset, .unset, .unset, .unset, .unset] [(.int p1)])) rfl (hb hby at_1) _ k) ?_
  refine own_step (W' := s₁.setTop (mkF m 4 #[.val (.int p1), .unset, .unset, .unset, .unset, .unset] [(.int (p1 &&& (2147483647 : Int32)))])) (fun _ k => XS.iand X0.here hx rfl (hb hby at_3) rfl k) ?_
  refine own_step (W' := s₁.setTop (mkF m 5 #[.val (.int p1), .unset, .unset, .unset, .unset, .unset] [(.int (5 : Int32)), (.int (p1 &&& (2147483647 : Int32)))])) (fun _ k => XS.iconst X0.here hx rfl (hb hby at_4) k) ?_
  refine own_step (W' := s₁.setTop (mkF m 6 #[.val (.int p1), .unset, .unset, .unset, .unset, .unset] [(.int ((p1 &&& (2147483647 : Int32)) % (5 : Int32)))])) (fun _ k => iremM X0 hx rfl (hb hby at_5) rfl (by decide) k) ?_
  rw [hk]
  refine own_step (W' := s₁.setTop (mkF m 7 #[.val (.int p1), .val (.int (3 : Int32)), .unset, .unset, .unset, .unset] [])) (fun _ k => XS.istoreN X0.here hx rfl (hb hby at_6) rfl (l' := #[.val (.int p1), .val (.int (3 : Int32)), .unset, .unset, .unset, .unset]) rfl k) ?_
  obtain ⟨T1, X1, e1, st1⟩ := getS2 X0 hx hZ hown (host := "") (Or.inl (hw _ (List.mem_of_getElem? (i := 1) rfl))) Via.refl e0 (pin_S0 P) (g := (mkF m 7 #[.val (.int p1), .val (.int (3 : Int32)), .unset, .unset, .unset, .unset] [])) rfl (hb hby at_7)
  refine own_step (W' := T1.setTop (mkF m 10 #[.val (.int p1), .val (.int (3 : Int32)), .unset, .unset, .unset, .unset] [(.ref (w 0))])) (fun _ k => st1 _ k) ?_
  refine own_step (W' := T1.setTop (mkF m 11 #[.val (.int p1), .val (.int (3 : Int32)), .val (.ref (w 0)), .unset, .unset, .unset] [])) (fun _ k => XS.astoreN X1.here hx rfl (hb hby at_10) rfl rfl (l' := #[.val (.int p1), .val (.int (3 : Int32)), .val (.ref (w 0)), .unset, .unset, .unset]) rfl k) ?_
  refine own_step (W' := T1.setTop (mkF m 12 #[.val (.int p1), .val (.int (3 : Int32)), .val (.ref (w 0)), .unset, .unset, .unset] [(.int (3 : Int32))])) (fun _ k => XS.iloadN X1.here hx rfl (hb hby at_11) rfl k) ?_
  refine own_step (W' := T1.setTop (mkF m 13 #[.val (.int p1), .val (.int (3 : Int32)), .val (.ref (w 0)), .unset, .unset, .unset] [(.int (1 : Int32)), (.int (3 : Int32))])) (fun _ k => XS.iconst X1.here hx rfl (hb hby at_12) k) ?_
  refine own_step (W' := T1.setTop (mkF m 23 #[.val (.int p1), .val (.int (3 : Int32)), .val (.ref (w 0)), .unset, .unset, .unset] [])) (fun _ k => XS.icmpYes X1.here hx rfl (pc0 := 13) (pc' := 23) rfl (hb hby at_13) rfl (by decide) (by decide) (by decide) k) ?_
  refine own_step (W' := T1.setTop (mkF m 24 #[.val (.int p1), .val (.int (3 : Int32)), .val (.ref (w 0)), .unset, .unset, .unset] [(.int (3 : Int32))])) (fun _ k => XS.iloadN X1.here hx rfl (hb hby at_23) rfl k) ?_
  refine own_step (W' := T1.setTop (mkF m 25 #[.val (.int p1), .val (.int (3 : Int32)), .val (.ref (w 0)), .unset, .unset, .unset] [(.int (2 : Int32)), (.int (3 : Int32))])) (fun _ k => XS.iconst X1.here hx rfl (hb hby at_24) k) ?_
  refine own_step (W' := T1.setTop (mkF m 35 #[.val (.int p1), .val (.int (3 : Int32)), .val (.ref (w 0)), .unset, .unset, .unset] [])) (fun _ k => XS.icmpYes X1.here hx rfl (pc0 := 25) (pc' := 35) rfl (hb hby at_25) rfl (by decide) (by decide) (by decide) k) ?_
  refine own_step (W' := T1.setTop (mkF m 36 #[.val (.int p1), .val (.int (3 : Int32)), .val (.ref (w 0)), .unset, .unset, .unset] [(.int (3 : Int32))])) (fun _ k => XS.iloadN X1.here hx rfl (hb hby at_35) rfl k) ?_
  refine own_step (W' := T1.setTop (mkF m 37 #[.val (.int p1), .val (.int (3 : Int32)), .val (.ref (w 0)), .unset, .unset, .unset] [(.int (3 : Int32)), (.int (3 : Int32))])) (fun _ k => XS.iconst X1.here hx rfl (hb hby at_36) k) ?_
  refine own_step (W' := T1.setTop (mkF m 40 #[.val (.int p1), .val (.int (3 : Int32)), .val (.ref (w 0)), .unset, .unset, .unset] [])) (fun _ k => XS.icmpNo X1.here hx rfl (hb hby at_37) rfl (by decide) k) ?_
  obtain ⟨T2, X2, e2, st2⟩ := getS2 X1 hx hZ hown (host := "") (Or.inl (hw _ (List.mem_of_getElem? (i := 14) rfl))) Via.refl e1 (pin_S3 P) (g := (mkF m 40 #[.val (.int p1), .val (.int (3 : Int32)), .val (.ref (w 0)), .unset, .unset, .unset] [])) rfl (hb hby at_40)
  refine own_step (W' := T2.setTop (mkF m 43 #[.val (.int p1), .val (.int (3 : Int32)), .val (.ref (w 0)), .unset, .unset, .unset] [(.ref (w 3))])) (fun _ k => st2 _ k) ?_
  refine own_step (W' := T2.setTop (mkF m 44 #[.val (.int p1), .val (.int (3 : Int32)), .val (.ref (w 3)), .unset, .unset, .unset] [])) (fun _ k => XS.astoreN X2.here hx rfl (hb hby at_43) rfl rfl (l' := #[.val (.int p1), .val (.int (3 : Int32)), .val (.ref (w 3)), .unset, .unset, .unset]) rfl k) ?_
  refine own_step (W' := T2.setTop (mkF m 56 #[.val (.int p1), .val (.int (3 : Int32)), .val (.ref (w 3)), .unset, .unset, .unset] [])) (fun _ k => XS.goto X2.here hx rfl (pc0 := 44) (pc' := 56) rfl (hb hby at_44) (by decide) (by decide) k) ?_
  refine own_fill p1 (3 : Int32) (w 3) X2 hx hZ hw hby hml hown e2 N0 Z0 P ?_
  intro T3 h3 L3 k3 b3 X3 e3 E3 N3 V3
  have P3 : Pins Z h3 w := P.ext E3
  have Z3 : n0 ≤ h3.size := Nat.le_trans Z0 E3.1
  refine own_step (W' := T3.setTop (mkF m 80 #[.val (.int p1), .val (.int (3 : Int32)), .val (.ref (w 3)), .val (.ref b3), .unset, .unset] [])) (fun _ k => XS.astoreN X3.here hx rfl (hb hby at_79) rfl rfl (l' := #[.val (.int p1), .val (.int (3 : Int32)), .val (.ref (w 3)), .val (.ref b3), .unset, .unset]) rfl k) ?_
  refine own_step (W' := T3.setTop (mkF m 81 #[.val (.int p1), .val (.int (3 : Int32)), .val (.ref (w 3)), .val (.ref b3), .unset, .unset] [(.ref b3)])) (fun _ k => XS.aloadN X3.here hx rfl (hb hby at_80) rfl rfl k) ?_
  refine own_step (W' := T3.setTop (mkF m 82 #[.val (.int p1), .val (.int (3 : Int32)), .val (.ref (w 3)), .val (.ref b3), .unset, .unset] [(.int (3 : Int32)), (.ref b3)])) (fun _ k => XS.iloadN X3.here hx rfl (hb hby at_81) rfl k) ?_
  refine own_step (W' := T3.setTop (mkF m 83 #[.val (.int p1), .val (.int (3 : Int32)), .val (.ref (w 3)), .val (.ref b3), .unset, .unset] [(.int (nar .boolean (0 : Int32)))])) (fun _ k => own_ldZ X3 hx hZ e3 V3 (j := (3 : Int32)) (v := (.int (nar .boolean (0 : Int32)))) ⟨by decide, by decide⟩ rfl (g := (mkF m 82 #[.val (.int p1), .val (.int (3 : Int32)), .val (.ref (w 3)), .val (.ref b3), .unset, .unset] [(.int (3 : Int32)), (.ref b3)])) rfl rfl (hb hby at_82) _ k) ?_
  refine own_step (W' := T3.setTop (mkF m 85 #[.val (.int p1), .val (.int (3 : Int32)), .val (.ref (w 3)), .val (.ref b3), .val (.int (nar .boolean (0 : Int32))), .unset] [])) (fun _ k => XS.istore X3.here hx rfl (hb hby at_83) rfl (l' := #[.val (.int p1), .val (.int (3 : Int32)), .val (.ref (w 3)), .val (.ref b3), .val (.int (nar .boolean (0 : Int32))), .unset]) rfl k) ?_
  refine own_step (W' := T3.setTop (mkF m 86 #[.val (.int p1), .val (.int (3 : Int32)), .val (.ref (w 3)), .val (.ref b3), .val (.int (nar .boolean (0 : Int32))), .unset] [(.ref (w 3))])) (fun _ k => XS.aloadN X3.here hx rfl (hb hby at_85) rfl rfl k) ?_
  obtain ⟨cq4, kq4, q4a, q4b, q4c⟩ := isOf hZ e3 (pin_E3 P3)
  obtain ⟨_, _, ⟨T4, L4, k4, n4⟩, -, X4, ⟨Lc4, hQ4, l4, y4, z4⟩, st4⟩ := X3.virtualBack hx (y := (⟨"com/example/strict_bill/strictbill/core/Invoice$Status", "paid", "()Z"⟩ : MethodName)) (z := (⟨"com/example/strict_bill/strictbill/core/Invoice$Status", "paid", "()Z"⟩ : MethodName)) hown (mvT hZ (hw _ (List.mem_of_getElem? (i := 5) rfl))) (mvT hZ (hw _ (List.mem_of_getElem? (i := 6) rfl))) (notFace_of_selects (args := #[]) (mvT hZ (hw _ (List.mem_of_getElem? (i := 8) rfl)))) (mvT hZ (hw _ (List.mem_of_getElem? (i := 8) rfl))) (mvT hZ (hw _ (List.mem_of_getElem? (i := 7) rfl))) (by decide) (backOf (W := 0) (rm1_w3 l Z a0 hw [] w h3 n0 Z3 P3) hZ (hw _ (List.mem_of_getElem? (i := 9) rfl)) (hw _ (List.mem_of_getElem? (i := 2) rfl)) (by decide) (by decide)) q4a q4c (g := (mkF m 86 #[.val (.int p1), .val (.int (3 : Int32)), .val (.ref (w 3)), .val (.ref b3), .val (.int (nar .boolean (0 : Int32))), .unset] [(.ref (w 3))])) rfl (by rw [hml]; rfl) (Steps.refl _) (argsL := []) (rest := []) (lenOf pd_0 rfl) rfl (by show 2 * 0 + _ ≤ _; exact Nat.le_of_eq rfl) (hb hby at_86) (fun _ _ => ⟨rfl, e3, (by decide : 1 + 0 ≤ _), (by decide : 5 + 0 ≤ _)⟩)
  dsimp only [Pt.U, Pt.locs, Pt.cells, Pt.slots] at X4 l4 y4 z4 st4 hQ4
  subst l4 y4 z4
  obtain ⟨rfl, N4q, e4⟩ := hQ4
  have N4 := Fr.app N3 N4q
  refine own_step (W' := T4.setTop (mkF m 89 #[.val (.int p1), .val (.int (3 : Int32)), .val (.ref (w 3)), .val (.ref b3), .val (.int (nar .boolean (0 : Int32))), .unset] [(.int (0 : Int32))])) (fun _ k => st4.trans k) ?_
  refine own_step (W' := T4.setTop (mkF m 91 #[.val (.int p1), .val (.int (3 : Int32)), .val (.ref (w 3)), .val (.ref b3), .val (.int (nar .boolean (0 : Int32))), .val (.int (0 : Int32))] [])) (fun _ k => XS.istore X4.here hx rfl (hb hby at_89) rfl (l' := #[.val (.int p1), .val (.int (3 : Int32)), .val (.ref (w 3)), .val (.ref b3), .val (.int (nar .boolean (0 : Int32))), .val (.int (0 : Int32))]) rfl k) ?_
  refine own_step (W' := T4.setTop (mkF m 93 #[.val (.int p1), .val (.int (3 : Int32)), .val (.ref (w 3)), .val (.ref b3), .val (.int (nar .boolean (0 : Int32))), .val (.int (0 : Int32))] [(.int (0 : Int32))])) (fun _ k => XS.iload X4.here hx rfl (hb hby at_91) rfl k) ?_
  refine own_step (W' := T4.setTop (mkF m 95 #[.val (.int p1), .val (.int (3 : Int32)), .val (.ref (w 3)), .val (.ref b3), .val (.int (nar .boolean (0 : Int32))), .val (.int (0 : Int32))] [(.int (nar .boolean (0 : Int32))), (.int (0 : Int32))])) (fun _ k => XS.iload X4.here hx rfl (hb hby at_93) rfl k) ?_
  refine own_step (W' := T4.setTop (mkF m 98 #[.val (.int p1), .val (.int (3 : Int32)), .val (.ref (w 3)), .val (.ref b3), .val (.int (nar .boolean (0 : Int32))), .val (.int (0 : Int32))] [])) (fun _ k => XS.icmpNo X4.here hx rfl (hb hby at_95) rfl (by decide) k) ?_
  refine own_step (W' := T4.setTop (mkF m 100 #[.val (.int p1), .val (.int (3 : Int32)), .val (.ref (w 3)), .val (.ref b3), .val (.int (nar .boolean (0 : Int32))), .val (.int (0 : Int32))] [(.int (0 : Int32))])) (fun _ k => XS.iload X4.here hx rfl (hb hby at_98) rfl k) ?_
  refine own_step (W' := T4.setTop (mkF m 110 #[.val (.int p1), .val (.int (3 : Int32)), .val (.ref (w 3)), .val (.ref b3), .val (.int (nar .boolean (0 : Int32))), .val (.int (0 : Int32))] [])) (fun _ k => XS.ifYes X4.here hx rfl (pc0 := 100) (pc' := 110) rfl (hb hby at_100) rfl (by decide) (by decide) (by decide) k) ?_
  refine own_step (W' := T4.setTop (mkF m 111 #[.val (.int p1), .val (.int (3 : Int32)), .val (.ref (w 3)), .val (.ref b3), .val (.int (nar .boolean (0 : Int32))), .val (.int (0 : Int32))] [(.int (1 : Int32))])) (fun _ k => XS.iconst X4.here hx rfl (hb hby at_110) k) ?_
  refine own_step (W' := T4.setTop (mkF m 115 #[.val (.int p1), .val (.int (3 : Int32)), .val (.ref (w 3)), .val (.ref b3), .val (.int (nar .boolean (0 : Int32))), .val (.int (0 : Int32))] [(.int (1 : Int32))])) (fun _ k => XS.goto X4.here hx rfl (pc0 := 111) (pc' := 115) rfl (hb hby at_111) (by decide) (by decide) k) ?_
  exact own_ret X4 Bd.notSynchronized Bd.returns (v := (.int (1 : Int32))) (fun fs hr => retN X4 hx (t := .boolean) Bd.returns (by simp) (hb hby at_115) hr) ⟨rfl, N4⟩ (by decide) (by decide)
set_option maxRecDepth 65536 in
set_option maxHeartbeats 40000000 in
theorem rm1_w2 (l : Launch) (Z : State) (a0 : Array Value) (hw : ∀ d ∈ tables_1, d.before a0 Z = true) (ws : List Jvm.Cond) (w : Nat → Addr) (h0 : Heap) (n0 : Nat) (Z0 : n0 ≤ h0.size) (P : Pins Z h0 w) :
    MetFree l (⟨"com/example/strict_bill/strictbill/core/Invoice$Status", "paid", "()Z"⟩ : MethodName) (head1 (Jvm.Cond.code (⟨"com/example/strict_bill/strictbill/core/Invoice$Status", "paid", "()Z"⟩ : MethodName) prog_19_method_5_code 1 (some .boolean) :: ws) ({ frames := 0, cells := 0, slots := 0, locals := 0 } : Room)) (fun a U => a = #[(.ref (w 2))] ∧ Z.Warmed39 U.vm ∧ U.heap = h0) (fun _ _ _ _ _ => True) (fun _ U o U' => ∃ v L, o = .returned v ∧ own_QK (some (.int (1 : Int32))) h0 n0 v U'.heap L ∧ FrameEnd U o U' L ({ frames := 0, cells := 0, slots := 0, locals := 0 } : Room).cells ({ frames := 0, cells := 0, slots := 0, locals := 0 } : Room).slots) := by
  refine MetFree.of_bodySF (plainFor_of_name pn_com_example_strict_bill_strictbill_core_Invoice_Status) hisR ?_
  intro p e s m args below meth c s₁ Bd hml0 hP hK
  obtain ⟨rfl, hZ, hh⟩ := hP
  have hx := Bd.exec
  have hby := Bd.bytes
  have hml : c.maxLocals = 1 := hml0
  have hown : s.vm.findClass "com/example/strict_bill/strictbill/core/Invoice$Status" = some m.cls := findClass_of_methodNamed Bd.named
  have hnm := (name_of_methodNamed Bd.named Bd.method).1
  have X0 : Stand p l e ({ frames := 0, cells := 0, slots := 0, locals := 0 } : Room) s m #[(.ref (w 2))] below meth c s₁ [] 0 0 := Stand.of_body Bd
  have e0 : s₁.heap = h0 := by rw [← hh, Bd.state]; rfl
  have N0 := Fr.nil n0
  refine own_enter (ef_1_R m (w 2)) ?_
  refine own_step (W' := s₁.setTop (mkF m 1 #[.val (.ref (w 2))] [(.ref (w 2))])) (fun _ k => XS.aloadN X0.here hx rfl (hb hby d1_0) rfl rfl k) ?_
  obtain ⟨T1, X1, e1, st1⟩ := getS2 X0 hx hZ hown (host := "") (Or.inl (hw _ (List.mem_of_getElem? (i := 10) rfl))) Via.refl e0 (pin_S1 P) (g := (mkF m 1 #[.val (.ref (w 2))] [(.ref (w 2))])) rfl (hb hby d1_1)
  refine own_step (W' := T1.setTop (mkF m 4 #[.val (.ref (w 2))] [(.ref (w 1)), (.ref (w 2))])) (fun _ k => st1 _ k) ?_
  refine own_step (W' := T1.setTop (mkF m 7 #[.val (.ref (w 2))] [])) (fun _ k => Jvm.RoadKit.acmp (g := (mkF m 4 #[.val (.ref (w 2))] [(.ref (w 1)), (.ref (w 2))])) X1 hx rfl rfl rfl (pc0 := 4) (pc' := 7) (same := false) rfl (hb hby d1_4) rfl (decide_eq_false fun q => (Fld.ne (pin_F2_ordinal P) (pin_F1_ordinal P) (by decide)) (Value.ref.inj q)) (by decide) (by decide) k) ?_
  refine own_step (W' := T1.setTop (mkF m 8 #[.val (.ref (w 2))] [(.ref (w 2))])) (fun _ k => XS.aloadN X1.here hx rfl (hb hby d1_7) rfl rfl k) ?_
  obtain ⟨T2, X2, e2, st2⟩ := getS2 X1 hx hZ hown (host := "") (Or.inl (hw _ (List.mem_of_getElem? (i := 12) rfl))) Via.refl e1 (pin_S2 P) (g := (mkF m 8 #[.val (.ref (w 2))] [(.ref (w 2))])) rfl (hb hby d1_8)
  refine own_step (W' := T2.setTop (mkF m 11 #[.val (.ref (w 2))] [(.ref (w 2)), (.ref (w 2))])) (fun _ k => st2 _ k) ?_
  refine own_step (W' := T2.setTop (mkF m 14 #[.val (.ref (w 2))] [])) (fun _ k => Jvm.RoadKit.acmp (g := (mkF m 11 #[.val (.ref (w 2))] [(.ref (w 2)), (.ref (w 2))])) X2 hx rfl rfl rfl (pc0 := 11) (pc' := 14) (same := true) rfl (hb hby d1_11) rfl (decide_eq_true rfl) (by decide) (by decide) k) ?_
  refine own_step (W' := T2.setTop (mkF m 15 #[.val (.ref (w 2))] [(.int (1 : Int32))])) (fun _ k => XS.iconst X2.here hx rfl (hb hby d1_14) k) ?_
  refine own_step (W' := T2.setTop (mkF m 19 #[.val (.ref (w 2))] [(.int (1 : Int32))])) (fun _ k => XS.goto X2.here hx rfl (pc0 := 15) (pc' := 19) rfl (hb hby d1_15) (by decide) (by decide) k) ?_
  exact own_ret X2 Bd.notSynchronized Bd.returns (v := (.int (1 : Int32))) (fun fs hr => retN X2 hx (t := .boolean) Bd.returns (by simp) (hb hby d1_19) hr) ⟨rfl, N0, e2⟩ (by decide) (by decide)
set_option maxRecDepth 65536 in
set_option maxHeartbeats 40000000 in
theorem rm2_w2 (l : Launch) (Z : State) (a0 : Array Value) (hw : ∀ d ∈ tables_1, d.before a0 Z = true) (ws : List Jvm.Cond) (w : Nat → Addr) (h0 : Heap) (n0 : Nat) (Z0 : n0 ≤ h0.size) (P : Pins Z h0 w) :
    MetFree l (⟨"com/example/strict_bill/strictbill/core/Invoice$Status", "payable", "()Z"⟩ : MethodName) (head1 (Jvm.Cond.code (⟨"com/example/strict_bill/strictbill/core/Invoice$Status", "payable", "()Z"⟩ : MethodName) prog_19_method_4_code 1 (some .boolean) :: ws) ({ frames := 0, cells := 0, slots := 0, locals := 0 } : Room)) (fun a U => a = #[(.ref (w 2))] ∧ Z.Warmed39 U.vm ∧ U.heap = h0) (fun _ _ _ _ _ => True) (fun _ U o U' => ∃ v L, o = .returned v ∧ own_QK (some (.int (0 : Int32))) h0 n0 v U'.heap L ∧ FrameEnd U o U' L ({ frames := 0, cells := 0, slots := 0, locals := 0 } : Room).cells ({ frames := 0, cells := 0, slots := 0, locals := 0 } : Room).slots) := by
  refine MetFree.of_bodySF (plainFor_of_name pn_com_example_strict_bill_strictbill_core_Invoice_Status) hisR ?_
  intro p e s m args below meth c s₁ Bd hml0 hP hK
  obtain ⟨rfl, hZ, hh⟩ := hP
  have hx := Bd.exec
  have hby := Bd.bytes
  have hml : c.maxLocals = 1 := hml0
  have hown : s.vm.findClass "com/example/strict_bill/strictbill/core/Invoice$Status" = some m.cls := findClass_of_methodNamed Bd.named
  have hnm := (name_of_methodNamed Bd.named Bd.method).1
  have X0 : Stand p l e ({ frames := 0, cells := 0, slots := 0, locals := 0 } : Room) s m #[(.ref (w 2))] below meth c s₁ [] 0 0 := Stand.of_body Bd
  have e0 : s₁.heap = h0 := by rw [← hh, Bd.state]; rfl
  have N0 := Fr.nil n0
  refine own_enter (ef_2_R m (w 2)) ?_
  refine own_step (W' := s₁.setTop (mkF m 1 #[.val (.ref (w 2))] [(.ref (w 2))])) (fun _ k => XS.aloadN X0.here hx rfl (hb hby d2_0) rfl rfl k) ?_
  obtain ⟨T1, X1, e1, st1⟩ := getS2 X0 hx hZ hown (host := "") (Or.inl (hw _ (List.mem_of_getElem? (i := 22) rfl))) Via.refl e0 (pin_S0 P) (g := (mkF m 1 #[.val (.ref (w 2))] [(.ref (w 2))])) rfl (hb hby d2_1)
  refine own_step (W' := T1.setTop (mkF m 4 #[.val (.ref (w 2))] [(.ref (w 0)), (.ref (w 2))])) (fun _ k => st1 _ k) ?_
  refine own_step (W' := T1.setTop (mkF m 7 #[.val (.ref (w 2))] [])) (fun _ k => Jvm.RoadKit.acmp (g := (mkF m 4 #[.val (.ref (w 2))] [(.ref (w 0)), (.ref (w 2))])) X1 hx rfl rfl rfl (pc0 := 4) (pc' := 7) (same := false) rfl (hb hby d2_4) rfl (decide_eq_false fun q => (Fld.ne (pin_F2_ordinal P) (pin_F0_ordinal P) (by decide)) (Value.ref.inj q)) (by decide) (by decide) k) ?_
  refine own_step (W' := T1.setTop (mkF m 8 #[.val (.ref (w 2))] [(.ref (w 2))])) (fun _ k => XS.aloadN X1.here hx rfl (hb hby d2_7) rfl rfl k) ?_
  obtain ⟨T2, X2, e2, st2⟩ := getS2 X1 hx hZ hown (host := "") (Or.inl (hw _ (List.mem_of_getElem? (i := 23) rfl))) Via.refl e1 (pin_S4 P) (g := (mkF m 8 #[.val (.ref (w 2))] [(.ref (w 2))])) rfl (hb hby d2_8)
  refine own_step (W' := T2.setTop (mkF m 11 #[.val (.ref (w 2))] [(.ref (w 4)), (.ref (w 2))])) (fun _ k => st2 _ k) ?_
  refine own_step (W' := T2.setTop (mkF m 18 #[.val (.ref (w 2))] [])) (fun _ k => Jvm.RoadKit.acmp (g := (mkF m 11 #[.val (.ref (w 2))] [(.ref (w 4)), (.ref (w 2))])) X2 hx rfl rfl rfl (pc0 := 11) (pc' := 18) (same := false) rfl (hb hby d2_11) rfl (decide_eq_false fun q => (Fld.ne (pin_F2_ordinal P) (pin_F4_ordinal P) (by decide)) (Value.ref.inj q)) (by decide) (by decide) k) ?_
  refine own_step (W' := T2.setTop (mkF m 19 #[.val (.ref (w 2))] [(.int (0 : Int32))])) (fun _ k => XS.iconst X2.here hx rfl (hb hby d2_18) k) ?_
  exact own_ret X2 Bd.notSynchronized Bd.returns (v := (.int (0 : Int32))) (fun fs hr => retN X2 hx (t := .boolean) Bd.returns (by simp) (hb hby d2_19) hr) ⟨rfl, N0, e2⟩ (by decide) (by decide)
set_option maxRecDepth 65536 in
set_option maxHeartbeats 40000000 in
theorem rm0_4 (l : Launch) (Z : State) (a0 : Array Value) (hw : ∀ d ∈ tables_1, d.before a0 Z = true) (ws : List Jvm.Cond) (p1 : Int32) (hk : ((p1 &&& (2147483647 : Int32)) % (5 : Int32)) = (4 : Int32)) (w : Nat → Addr) (h0 : Heap) (n0 : Nat) (Z0 : n0 ≤ h0.size) (P : Pins Z h0 w) :
    MetFree l x (head1 (Jvm.Cond.code x code maxLocals ret :: ws) room_1) (fun a U => a = #[(.int p1)] ∧ Z.Warmed39 U.vm ∧ U.heap = h0) (fun _ _ _ _ _ => True) (fun _ U o U' => ∃ v L, o = .returned v ∧ own_Q0 n0 v U'.heap L ∧ FrameEnd U o U' L room_1.cells room_1.slots) := by
  refine MetFree.of_bodySF (plainFor_of_name pn_com_example_strict_bill_strictbill_core_StatusPaidPinLaw) hisR ?_
  intro p e s m args below meth c s₁ Bd hml0 hP hK
  obtain ⟨rfl, hZ, hh⟩ := hP
  have hx := Bd.exec
  have hby := Bd.bytes
  have hml : c.maxLocals = 6 := hml0
  have hown : s.vm.findClass "com/example/strict_bill/strictbill/core/StatusPaidPinLaw" = some m.cls := findClass_of_methodNamed Bd.named
  have hnm := (name_of_methodNamed Bd.named Bd.method).1
  have X0 : Stand p l e room_1 s m #[(.int p1)] below meth c s₁ [] 0 0 := Stand.of_body Bd
  have e0 : s₁.heap = h0 := by rw [← hh, Bd.state]; rfl
  have N0 := Fr.nil n0
  refine own_enter (ef_0_I m p1) ?_
  refine own_step (W' := s₁.setTop (mkF m 1 #[.val (.int p1), .unset, .unset, .unset, .unset, .unset] [(.int p1)])) (fun _ k => XS.iloadN X0.here hx rfl (hb hby at_0) rfl k) ?_
  refine own_step (W' := s₁.setTop (mkF m 3 #[.val (.int p1), .unset, .unset, .unset, .unset, .unset] [(.int (2147483647 : Int32)), (.int p1)])) (fun _ k => X0.ldcInt hx hown (mvT hZ (hw _ (List.mem_of_getElem? (i := 0) rfl))) (g := (mkF m 1 #[.val (.int p1), .unset, .unset, .unset, .unset, .unset] [(.int p1)])) rfl (hb hby at_1) _ k) ?_
  refine own_step (W' := s₁.setTop (mkF m 4 #[.val (.int p1), .unset, .unset, .unset, .unset, .unset] [(.int (p1 &&& (2147483647 : Int32)))])) (fun _ k => XS.iand X0.here hx rfl (hb hby at_3) rfl k) ?_
  refine own_step (W' := s₁.setTop (mkF m 5 #[.val (.int p1), .unset, .unset, .unset, .unset, .unset] [(.int (5 : Int32)), (.int (p1 &&& (2147483647 : Int32)))])) (fun _ k => XS.iconst X0.here hx rfl (hb hby at_4) k) ?_
  refine own_step (W' := s₁.setTop (mkF m 6 #[.val (.int p1), .unset, .unset, .unset, .unset, .unset] [(.int ((p1 &&& (2147483647 : Int32)) % (5 : Int32)))])) (fun _ k => iremM X0 hx rfl (hb hby at_5) rfl (by decide) k) ?_
  rw [hk]
  refine own_step (W' := s₁.setTop (mkF m 7 #[.val (.int p1), .val (.int (4 : Int32)), .unset, .unset, .unset, .unset] [])) (fun _ k => XS.istoreN X0.here hx rfl (hb hby at_6) rfl (l' := #[.val (.int p1), .val (.int (4 : Int32)), .unset, .unset, .unset, .unset]) rfl k) ?_
  obtain ⟨T1, X1, e1, st1⟩ := getS2 X0 hx hZ hown (host := "") (Or.inl (hw _ (List.mem_of_getElem? (i := 1) rfl))) Via.refl e0 (pin_S0 P) (g := (mkF m 7 #[.val (.int p1), .val (.int (4 : Int32)), .unset, .unset, .unset, .unset] [])) rfl (hb hby at_7)
  refine own_step (W' := T1.setTop (mkF m 10 #[.val (.int p1), .val (.int (4 : Int32)), .unset, .unset, .unset, .unset] [(.ref (w 0))])) (fun _ k => st1 _ k) ?_
  refine own_step (W' := T1.setTop (mkF m 11 #[.val (.int p1), .val (.int (4 : Int32)), .val (.ref (w 0)), .unset, .unset, .unset] [])) (fun _ k => XS.astoreN X1.here hx rfl (hb hby at_10) rfl rfl (l' := #[.val (.int p1), .val (.int (4 : Int32)), .val (.ref (w 0)), .unset, .unset, .unset]) rfl k) ?_
  refine own_step (W' := T1.setTop (mkF m 12 #[.val (.int p1), .val (.int (4 : Int32)), .val (.ref (w 0)), .unset, .unset, .unset] [(.int (4 : Int32))])) (fun _ k => XS.iloadN X1.here hx rfl (hb hby at_11) rfl k) ?_
  refine own_step (W' := T1.setTop (mkF m 13 #[.val (.int p1), .val (.int (4 : Int32)), .val (.ref (w 0)), .unset, .unset, .unset] [(.int (1 : Int32)), (.int (4 : Int32))])) (fun _ k => XS.iconst X1.here hx rfl (hb hby at_12) k) ?_
  refine own_step (W' := T1.setTop (mkF m 23 #[.val (.int p1), .val (.int (4 : Int32)), .val (.ref (w 0)), .unset, .unset, .unset] [])) (fun _ k => XS.icmpYes X1.here hx rfl (pc0 := 13) (pc' := 23) rfl (hb hby at_13) rfl (by decide) (by decide) (by decide) k) ?_
  refine own_step (W' := T1.setTop (mkF m 24 #[.val (.int p1), .val (.int (4 : Int32)), .val (.ref (w 0)), .unset, .unset, .unset] [(.int (4 : Int32))])) (fun _ k => XS.iloadN X1.here hx rfl (hb hby at_23) rfl k) ?_
  refine own_step (W' := T1.setTop (mkF m 25 #[.val (.int p1), .val (.int (4 : Int32)), .val (.ref (w 0)), .unset, .unset, .unset] [(.int (2 : Int32)), (.int (4 : Int32))])) (fun _ k => XS.iconst X1.here hx rfl (hb hby at_24) k) ?_
  refine own_step (W' := T1.setTop (mkF m 35 #[.val (.int p1), .val (.int (4 : Int32)), .val (.ref (w 0)), .unset, .unset, .unset] [])) (fun _ k => XS.icmpYes X1.here hx rfl (pc0 := 25) (pc' := 35) rfl (hb hby at_25) rfl (by decide) (by decide) (by decide) k) ?_
  refine own_step (W' := T1.setTop (mkF m 36 #[.val (.int p1), .val (.int (4 : Int32)), .val (.ref (w 0)), .unset, .unset, .unset] [(.int (4 : Int32))])) (fun _ k => XS.iloadN X1.here hx rfl (hb hby at_35) rfl k) ?_
  refine own_step (W' := T1.setTop (mkF m 37 #[.val (.int p1), .val (.int (4 : Int32)), .val (.ref (w 0)), .unset, .unset, .unset] [(.int (3 : Int32)), (.int (4 : Int32))])) (fun _ k => XS.iconst X1.here hx rfl (hb hby at_36) k) ?_
  refine own_step (W' := T1.setTop (mkF m 47 #[.val (.int p1), .val (.int (4 : Int32)), .val (.ref (w 0)), .unset, .unset, .unset] [])) (fun _ k => XS.icmpYes X1.here hx rfl (pc0 := 37) (pc' := 47) rfl (hb hby at_37) rfl (by decide) (by decide) (by decide) k) ?_
  refine own_step (W' := T1.setTop (mkF m 48 #[.val (.int p1), .val (.int (4 : Int32)), .val (.ref (w 0)), .unset, .unset, .unset] [(.int (4 : Int32))])) (fun _ k => XS.iloadN X1.here hx rfl (hb hby at_47) rfl k) ?_
  refine own_step (W' := T1.setTop (mkF m 49 #[.val (.int p1), .val (.int (4 : Int32)), .val (.ref (w 0)), .unset, .unset, .unset] [(.int (4 : Int32)), (.int (4 : Int32))])) (fun _ k => XS.iconst X1.here hx rfl (hb hby at_48) k) ?_
  refine own_step (W' := T1.setTop (mkF m 52 #[.val (.int p1), .val (.int (4 : Int32)), .val (.ref (w 0)), .unset, .unset, .unset] [])) (fun _ k => XS.icmpNo X1.here hx rfl (hb hby at_49) rfl (by decide) k) ?_
  obtain ⟨T2, X2, e2, st2⟩ := getS2 X1 hx hZ hown (host := "") (Or.inl (hw _ (List.mem_of_getElem? (i := 25) rfl))) Via.refl e1 (pin_S2 P) (g := (mkF m 52 #[.val (.int p1), .val (.int (4 : Int32)), .val (.ref (w 0)), .unset, .unset, .unset] [])) rfl (hb hby at_52)
  refine own_step (W' := T2.setTop (mkF m 55 #[.val (.int p1), .val (.int (4 : Int32)), .val (.ref (w 0)), .unset, .unset, .unset] [(.ref (w 2))])) (fun _ k => st2 _ k) ?_
  refine own_step (W' := T2.setTop (mkF m 56 #[.val (.int p1), .val (.int (4 : Int32)), .val (.ref (w 2)), .unset, .unset, .unset] [])) (fun _ k => XS.astoreN X2.here hx rfl (hb hby at_55) rfl rfl (l' := #[.val (.int p1), .val (.int (4 : Int32)), .val (.ref (w 2)), .unset, .unset, .unset]) rfl k) ?_
  refine own_fill p1 (4 : Int32) (w 2) X2 hx hZ hw hby hml hown e2 N0 Z0 P ?_
  intro T3 h3 L3 k3 b3 X3 e3 E3 N3 V3
  have P3 : Pins Z h3 w := P.ext E3
  have Z3 : n0 ≤ h3.size := Nat.le_trans Z0 E3.1
  refine own_step (W' := T3.setTop (mkF m 80 #[.val (.int p1), .val (.int (4 : Int32)), .val (.ref (w 2)), .val (.ref b3), .unset, .unset] [])) (fun _ k => XS.astoreN X3.here hx rfl (hb hby at_79) rfl rfl (l' := #[.val (.int p1), .val (.int (4 : Int32)), .val (.ref (w 2)), .val (.ref b3), .unset, .unset]) rfl k) ?_
  refine own_step (W' := T3.setTop (mkF m 81 #[.val (.int p1), .val (.int (4 : Int32)), .val (.ref (w 2)), .val (.ref b3), .unset, .unset] [(.ref b3)])) (fun _ k => XS.aloadN X3.here hx rfl (hb hby at_80) rfl rfl k) ?_
  refine own_step (W' := T3.setTop (mkF m 82 #[.val (.int p1), .val (.int (4 : Int32)), .val (.ref (w 2)), .val (.ref b3), .unset, .unset] [(.int (4 : Int32)), (.ref b3)])) (fun _ k => XS.iloadN X3.here hx rfl (hb hby at_81) rfl k) ?_
  refine own_step (W' := T3.setTop (mkF m 83 #[.val (.int p1), .val (.int (4 : Int32)), .val (.ref (w 2)), .val (.ref b3), .unset, .unset] [(.int (nar .boolean (1 : Int32)))])) (fun _ k => own_ldZ X3 hx hZ e3 V3 (j := (4 : Int32)) (v := (.int (nar .boolean (1 : Int32)))) ⟨by decide, by decide⟩ rfl (g := (mkF m 82 #[.val (.int p1), .val (.int (4 : Int32)), .val (.ref (w 2)), .val (.ref b3), .unset, .unset] [(.int (4 : Int32)), (.ref b3)])) rfl rfl (hb hby at_82) _ k) ?_
  refine own_step (W' := T3.setTop (mkF m 85 #[.val (.int p1), .val (.int (4 : Int32)), .val (.ref (w 2)), .val (.ref b3), .val (.int (nar .boolean (1 : Int32))), .unset] [])) (fun _ k => XS.istore X3.here hx rfl (hb hby at_83) rfl (l' := #[.val (.int p1), .val (.int (4 : Int32)), .val (.ref (w 2)), .val (.ref b3), .val (.int (nar .boolean (1 : Int32))), .unset]) rfl k) ?_
  refine own_step (W' := T3.setTop (mkF m 86 #[.val (.int p1), .val (.int (4 : Int32)), .val (.ref (w 2)), .val (.ref b3), .val (.int (nar .boolean (1 : Int32))), .unset] [(.ref (w 2))])) (fun _ k => XS.aloadN X3.here hx rfl (hb hby at_85) rfl rfl k) ?_
  obtain ⟨cq4, kq4, q4a, q4b, q4c⟩ := isOf hZ e3 (pin_E2 P3)
  obtain ⟨_, _, ⟨T4, L4, k4, n4⟩, -, X4, ⟨Lc4, hQ4, l4, y4, z4⟩, st4⟩ := X3.virtualBack hx (y := (⟨"com/example/strict_bill/strictbill/core/Invoice$Status", "paid", "()Z"⟩ : MethodName)) (z := (⟨"com/example/strict_bill/strictbill/core/Invoice$Status", "paid", "()Z"⟩ : MethodName)) hown (mvT hZ (hw _ (List.mem_of_getElem? (i := 5) rfl))) (mvT hZ (hw _ (List.mem_of_getElem? (i := 6) rfl))) (notFace_of_selects (args := #[]) (mvT hZ (hw _ (List.mem_of_getElem? (i := 8) rfl)))) (mvT hZ (hw _ (List.mem_of_getElem? (i := 8) rfl))) (mvT hZ (hw _ (List.mem_of_getElem? (i := 7) rfl))) (by decide) (backOf (W := 0) (rm1_w2 l Z a0 hw [] w h3 n0 Z3 P3) hZ (hw _ (List.mem_of_getElem? (i := 9) rfl)) (hw _ (List.mem_of_getElem? (i := 2) rfl)) (by decide) (by decide)) q4a q4c (g := (mkF m 86 #[.val (.int p1), .val (.int (4 : Int32)), .val (.ref (w 2)), .val (.ref b3), .val (.int (nar .boolean (1 : Int32))), .unset] [(.ref (w 2))])) rfl (by rw [hml]; rfl) (Steps.refl _) (argsL := []) (rest := []) (lenOf pd_0 rfl) rfl (by show 2 * 0 + _ ≤ _; exact Nat.le_of_eq rfl) (hb hby at_86) (fun _ _ => ⟨rfl, e3, (by decide : 1 + 0 ≤ _), (by decide : 5 + 0 ≤ _)⟩)
  dsimp only [Pt.U, Pt.locs, Pt.cells, Pt.slots] at X4 l4 y4 z4 st4 hQ4
  subst l4 y4 z4
  obtain ⟨rfl, N4q, e4⟩ := hQ4
  have N4 := Fr.app N3 N4q
  refine own_step (W' := T4.setTop (mkF m 89 #[.val (.int p1), .val (.int (4 : Int32)), .val (.ref (w 2)), .val (.ref b3), .val (.int (nar .boolean (1 : Int32))), .unset] [(.int (1 : Int32))])) (fun _ k => st4.trans k) ?_
  refine own_step (W' := T4.setTop (mkF m 91 #[.val (.int p1), .val (.int (4 : Int32)), .val (.ref (w 2)), .val (.ref b3), .val (.int (nar .boolean (1 : Int32))), .val (.int (1 : Int32))] [])) (fun _ k => XS.istore X4.here hx rfl (hb hby at_89) rfl (l' := #[.val (.int p1), .val (.int (4 : Int32)), .val (.ref (w 2)), .val (.ref b3), .val (.int (nar .boolean (1 : Int32))), .val (.int (1 : Int32))]) rfl k) ?_
  refine own_step (W' := T4.setTop (mkF m 93 #[.val (.int p1), .val (.int (4 : Int32)), .val (.ref (w 2)), .val (.ref b3), .val (.int (nar .boolean (1 : Int32))), .val (.int (1 : Int32))] [(.int (1 : Int32))])) (fun _ k => XS.iload X4.here hx rfl (hb hby at_91) rfl k) ?_
  refine own_step (W' := T4.setTop (mkF m 95 #[.val (.int p1), .val (.int (4 : Int32)), .val (.ref (w 2)), .val (.ref b3), .val (.int (nar .boolean (1 : Int32))), .val (.int (1 : Int32))] [(.int (nar .boolean (1 : Int32))), (.int (1 : Int32))])) (fun _ k => XS.iload X4.here hx rfl (hb hby at_93) rfl k) ?_
  refine own_step (W' := T4.setTop (mkF m 98 #[.val (.int p1), .val (.int (4 : Int32)), .val (.ref (w 2)), .val (.ref b3), .val (.int (nar .boolean (1 : Int32))), .val (.int (1 : Int32))] [])) (fun _ k => XS.icmpNo X4.here hx rfl (hb hby at_95) rfl (by decide) k) ?_
  refine own_step (W' := T4.setTop (mkF m 100 #[.val (.int p1), .val (.int (4 : Int32)), .val (.ref (w 2)), .val (.ref b3), .val (.int (nar .boolean (1 : Int32))), .val (.int (1 : Int32))] [(.int (1 : Int32))])) (fun _ k => XS.iload X4.here hx rfl (hb hby at_98) rfl k) ?_
  refine own_step (W' := T4.setTop (mkF m 103 #[.val (.int p1), .val (.int (4 : Int32)), .val (.ref (w 2)), .val (.ref b3), .val (.int (nar .boolean (1 : Int32))), .val (.int (1 : Int32))] [])) (fun _ k => XS.ifNo X4.here hx rfl (hb hby at_100) rfl (by decide) k) ?_
  refine own_step (W' := T4.setTop (mkF m 104 #[.val (.int p1), .val (.int (4 : Int32)), .val (.ref (w 2)), .val (.ref b3), .val (.int (nar .boolean (1 : Int32))), .val (.int (1 : Int32))] [(.ref (w 2))])) (fun _ k => XS.aloadN X4.here hx rfl (hb hby at_103) rfl rfl k) ?_
  obtain ⟨cq5, kq5, q5a, q5b, q5c⟩ := isOf hZ e4 (pin_E2 P3)
  obtain ⟨_, _, ⟨T5, L5, k5, n5⟩, -, X5, ⟨Lc5, hQ5, l5, y5, z5⟩, st5⟩ := X4.virtualBack hx (y := (⟨"com/example/strict_bill/strictbill/core/Invoice$Status", "payable", "()Z"⟩ : MethodName)) (z := (⟨"com/example/strict_bill/strictbill/core/Invoice$Status", "payable", "()Z"⟩ : MethodName)) hown (mvT hZ (hw _ (List.mem_of_getElem? (i := 17) rfl))) (mvT hZ (hw _ (List.mem_of_getElem? (i := 18) rfl))) (notFace_of_selects (args := #[]) (mvT hZ (hw _ (List.mem_of_getElem? (i := 20) rfl)))) (mvT hZ (hw _ (List.mem_of_getElem? (i := 20) rfl))) (mvT hZ (hw _ (List.mem_of_getElem? (i := 19) rfl))) (by decide) (backOf (W := 0) (rm2_w2 l Z a0 hw [] w h3 n0 Z3 P3) hZ (hw _ (List.mem_of_getElem? (i := 21) rfl)) (hw _ (List.mem_of_getElem? (i := 2) rfl)) (by decide) (by decide)) q5a q5c (g := (mkF m 104 #[.val (.int p1), .val (.int (4 : Int32)), .val (.ref (w 2)), .val (.ref b3), .val (.int (nar .boolean (1 : Int32))), .val (.int (1 : Int32))] [(.ref (w 2))])) rfl (by rw [hml]; rfl) (Steps.refl _) (argsL := []) (rest := []) (lenOf pd_0 rfl) rfl (by show 2 * 0 + _ ≤ _; exact Nat.le_of_eq rfl) (hb hby at_104) (fun _ _ => ⟨rfl, e4, (by decide : 1 + 0 ≤ _), (by decide : 5 + 0 ≤ _)⟩)
  dsimp only [Pt.U, Pt.locs, Pt.cells, Pt.slots] at X5 l5 y5 z5 st5 hQ5
  subst l5 y5 z5
  obtain ⟨rfl, N5q, e5⟩ := hQ5
  have N5 := Fr.app N4 N5q
  refine own_step (W' := T5.setTop (mkF m 107 #[.val (.int p1), .val (.int (4 : Int32)), .val (.ref (w 2)), .val (.ref b3), .val (.int (nar .boolean (1 : Int32))), .val (.int (1 : Int32))] [(.int (0 : Int32))])) (fun _ k => st5.trans k) ?_
  refine own_step (W' := T5.setTop (mkF m 110 #[.val (.int p1), .val (.int (4 : Int32)), .val (.ref (w 2)), .val (.ref b3), .val (.int (nar .boolean (1 : Int32))), .val (.int (1 : Int32))] [])) (fun _ k => XS.ifNo X5.here hx rfl (hb hby at_107) rfl (by decide) k) ?_
  refine own_step (W' := T5.setTop (mkF m 111 #[.val (.int p1), .val (.int (4 : Int32)), .val (.ref (w 2)), .val (.ref b3), .val (.int (nar .boolean (1 : Int32))), .val (.int (1 : Int32))] [(.int (1 : Int32))])) (fun _ k => XS.iconst X5.here hx rfl (hb hby at_110) k) ?_
  refine own_step (W' := T5.setTop (mkF m 115 #[.val (.int p1), .val (.int (4 : Int32)), .val (.ref (w 2)), .val (.ref b3), .val (.int (nar .boolean (1 : Int32))), .val (.int (1 : Int32))] [(.int (1 : Int32))])) (fun _ k => XS.goto X5.here hx rfl (pc0 := 111) (pc' := 115) rfl (hb hby at_111) (by decide) (by decide) k) ?_
  exact own_ret X5 Bd.notSynchronized Bd.returns (v := (.int (1 : Int32))) (fun fs hr => retN X5 hx (t := .boolean) Bd.returns (by simp) (hb hby at_115) hr) ⟨rfl, N5⟩ (by decide) (by decide)
theorem rm0 (l : Launch) (Z : State) (a0 : Array Value) (hw : ∀ d ∈ tables_1, d.before a0 Z = true) (ws : List Jvm.Cond) (p1 : Int32) (w : Nat → Addr) (h0 : Heap) (n0 : Nat) (Z0 : n0 ≤ h0.size) (P : Pins Z h0 w) :
    MetFree l x (head1 (Jvm.Cond.code x code maxLocals ret :: ws) room_1) (fun a U => a = #[(.int p1)] ∧ Z.Warmed39 U.vm ∧ U.heap = h0) (fun _ _ _ _ _ => True) (fun _ U o U' => ∃ v L, o = .returned v ∧ own_Q0 n0 v U'.heap L ∧ FrameEnd U o U' L room_1.cells room_1.slots) := by
  rcases own_m5 p1 with hk | hk | hk | hk | hk
  · exact rm0_0 l Z a0 hw ws p1 hk w h0 n0 Z0 P
  · exact rm0_1 l Z a0 hw ws p1 hk w h0 n0 Z0 P
  · exact rm0_2 l Z a0 hw ws p1 hk w h0 n0 Z0 P
  · exact rm0_3 l Z a0 hw ws p1 hk w h0 n0 Z0 P
  · exact rm0_4 l Z a0 hw ws p1 hk w h0 n0 Z0 P
set_option maxRecDepth 65536 in
set_option maxHeartbeats 40000000 in
theorem comes_1 {Post : Tables → Env → Array Value → State → Outcome → State → Prop} (hpost : ∀ tb e args s v u, (limb_1_1.after args s (.returned v) u = true ∧ limb_1_2.after args s (.returned v) u = true ∧ True) → FrameEnd s (.returned v) u (Jvm.fieldLocs frame_1_writes args s ++ Jvm.arrayLocs frame_1_arrays args s ++ Jvm.staticLocs frame_1_statics s) 16 128 → Post tb e args s (.returned v) u) :
    ArmFor flags0 classFile x code maxLocals ret World_1 tables_1 room_1 Calls_1 rest_1 Pre_1 Post := by
  intro l hfl _ _ p e ha hc hk s m args below hf hA hF happ hP
  obtain ⟨hcalls, hrest, hpre⟩ := hP
  obtain ⟨-, -, -, hnamed, -, -, -, hat⟩ := (Spec.applies_iff hf).mp happ
  obtain ⟨hg, hn⟩ := and_e (Cond.before_iff.mp (show (Jvm.Cond.and given_1 narrow_1).before args s = true from hpre))
  obtain ⟨gc, hg⟩ := and_e hg
  obtain ⟨w0, rfl⟩ : ∃ w0 : Value, args = #[w0] := by
    have hs : args.size = 1 := by simpa [Cond.value, given_1] using gc
    obtain ⟨L⟩ := args
    match L, hs with
    | [w0], _ => exact ⟨w0, rfl⟩
  have hw := fun d (hd : d ∈ tables_1) => atoms_spec (ws := Jvm.Cond.code x code maxLocals ret :: tables_1) hat d (List.mem_cons_of_mem _ hd)
  obtain ⟨i0, ei0⟩ := is_v hg
  obtain rfl : w0 = (.int i0) := Option.some.inj ei0
  obtain ⟨w, P⟩ := own_pins hw hn
  obtain ⟨n, o, h1, h2, h3, _, L, rfl, ⟨rfl, N⟩, hq⟩ := rm0 l s _ hw tables_1 i0 w s.heap s.heap.size (Nat.le_refl _) P p e ha hc hk s m _ below hf ((Spec.applies_iff_loose hf).mp happ).1 ⟨rfl, State.Warmed39.refl s, rfl⟩ trivial
  refine ⟨n, _, h1, h2, h3, hpost _ _ _ _ _ _ ⟨Cond.after_iff.mpr rfl, Cond.after_iff.mpr (eq_i res_at (Term.int_eval (1)) rfl), trivial⟩ ⟨hq.1, hq.2.1, (hq.2.2.sift fun y hy => Or.inr (N y hy)).mono (by decide) (by decide)⟩⟩
theorem main_1_1 : Claimed_1_1 := comes_1 fun _ _ _ _ _ _ h hF => ⟨h.1, hF⟩
theorem main_1_2 : Claimed_1_2 := comes_1 fun _ _ _ _ _ _ h hF => ⟨h.2.1, hF⟩
end Jvm.Pilot.@@N@@
namespace Jvm.Pilot.@@N@@
open Jvm Jvm.ClassFile Sem Op Lib Jvm.Free Jvm.Stand Jvm.Pilot.@@N@@.Jvm.D
/-! MADE BY PROGRAM (witnessworld.py) out of the Statement's table words and the real class files: 14 classes; the members and pool entries that the words name. The judged class is class 1, her method 1. -/
namespace start1
open Jvm.ClassFile
def u (s : String) : CpInfo := .utf8 (stringToUtf16 s)
/-- a pool by its gaps: so many unusable entries, then the entry; so many at the end -/
def gap : Nat → List CpInfo → List CpInfo
  | 0, r => r
  | n + 1, r => .unusable :: gap n r
def poolList (es : List (Nat × CpInfo)) (last : Nat) : List CpInfo := es.foldr (fun e r => gap e.1 (e.2 :: r)) (gap last [])
def pool (es : List (Nat × CpInfo)) (last : Nat) : Array CpInfo := ⟨poolList es last⟩
def fileOf (pool : Array CpInfo) (this : Nat) (attrs : Array Attribute := #[]) (ms : Array MethodInfo := #[]) (fl : Nat := 33) (sup : Nat := 0) (ifs : Array Nat := #[]) (fds : Array FieldInfo := #[]) : ClassFile where
  minorVersion := 0
  majorVersion := 65
  constantPool := pool
  accessFlags := fl
  thisClass := this
  superClass := sup
  interfaces := ifs
  fields := fds
  methods := ms
  attributes := attrs
def plain (name : String) (sup : Option ClassId) : Class where
  name := name
  kind := .ordinary
  loader := none
  accessFlags := 33
  super := sup
  interfaces := #[]
  cf := none
  fields := #[]
  methods := #[]
  instanceTypes := #[]
  staticTypes := #[]
  resolved := #[]
  callSites := []
  init := .initialized
  statics := none
  mirror := none

def pool0 : Array CpInfo := pool [(5, u "<init>"), (0, u "()V"), (1, .class_ 10), (1, u "java/lang/Object")] 113

def k0m0 : Method := { name := "<init>", desc := "()V", sig := { parameters := [], returnType := none }, accessFlags := 1, code := none }
/-- java/lang/Object -/
def k0 : Class := { plain "java/lang/Object" none with
  accessFlags := 33
  interfaces := #[]
  cf := some (fileOf pool0 8 #[] #[{ accessFlags := 1, nameIndex := 5, descriptorIndex := 6, attributes := #[] }] 33 0 #[] #[])
  fields := #[]
  methods := #[k0m0]
  instanceTypes := #[]
  staticTypes := #[]
  resolved := Array.replicate 124 none
  statics := none }

def pool1 : Array CpInfo := pool [(2, .class_ 4), (1, u "java/lang/Object"), (0, u "<init>"), (0, u "()V"), (0, .integer 2147483647), (0, .fieldref 9 10), (0, .class_ 11), (0, .nameAndType 12 13), (0, u "com/example/strict_bill/strictbill/core/Invoice$Status"), (0, u "PENDING"), (0, u "Lcom/example/strict_bill/strictbill/core/Invoice$Status;"), (0, .fieldref 9 15), (0, .nameAndType 16 13), (0, u "PAID"), (0, .fieldref 9 18), (0, .nameAndType 19 13), (0, u "OVERDUE"), (0, .fieldref 9 21), (0, .nameAndType 22 13), (0, u "VOID"), (0, .fieldref 9 24), (0, .nameAndType 25 13), (0, u "REFUNDED"), (0, .methodref 9 27), (0, .nameAndType 28 29), (0, u "paid"), (0, u "()Z"), (0, .methodref 9 31), (0, .nameAndType 32 29), (0, u "payable"), (0, .class_ 34), (0, u "com/example/strict_bill/strictbill/core/StatusPaidPinLaw"), (2, u "law"), (0, u "(I)Z")] 9

def k1m0 : Method := { name := "<init>", desc := "()V", sig := { parameters := [], returnType := none }, accessFlags := 1, code := none }
def k1c1 : Code := { maxStack := 4, maxLocals := 6, code := code, exceptionTable := #[], attributes := #[] }
def k1m1 : Method := { name := "law", desc := "(I)Z", sig := { parameters := [.int], returnType := some .boolean }, accessFlags := 9, code := some k1c1 }
/-- com/example/strict_bill/strictbill/core/StatusPaidPinLaw -/
def k1 : Class := { plain "com/example/strict_bill/strictbill/core/StatusPaidPinLaw" (some 0) with
  accessFlags := 49
  interfaces := #[]
  cf := some (fileOf pool1 33 #[] #[{ accessFlags := 1, nameIndex := 5, descriptorIndex := 6, attributes := #[] }, { accessFlags := 9, nameIndex := 37, descriptorIndex := 38, attributes := #[] }] 49 2 #[] #[])
  fields := #[]
  methods := #[k1m0, k1m1]
  instanceTypes := #[]
  staticTypes := #[]
  resolved := Array.replicate 48 none
  statics := none }

def pool2 : Array CpInfo := pool [(1, .class_ 2), (0, u "java/lang/constant/Constable"), (0, .class_ 4), (0, u "java/lang/Object")] 6

/-- java/lang/constant/Constable -/
def k2 : Class := { plain "java/lang/constant/Constable" (some 0) with
  accessFlags := 1537
  interfaces := #[]
  cf := some (fileOf pool2 1 #[] #[] 1537 3 #[] #[])
  fields := #[]
  methods := #[]
  instanceTypes := #[]
  staticTypes := #[]
  resolved := Array.replicate 11 none
  statics := none }

def pool3 : Array CpInfo := pool [(1, .class_ 2), (0, u "java/lang/Comparable"), (0, .class_ 4), (0, u "java/lang/Object")] 7

/-- java/lang/Comparable -/
def k3 : Class := { plain "java/lang/Comparable" (some 0) with
  accessFlags := 1537
  interfaces := #[]
  cf := some (fileOf pool3 1 #[] #[] 1537 3 #[] #[])
  fields := #[]
  methods := #[]
  instanceTypes := #[]
  staticTypes := #[]
  resolved := Array.replicate 12 none
  statics := none }

def pool4 : Array CpInfo := pool [(1, .class_ 2), (0, u "java/io/Serializable"), (0, .class_ 4), (0, u "java/lang/Object")] 2

/-- java/io/Serializable -/
def k4 : Class := { plain "java/io/Serializable" (some 0) with
  accessFlags := 1537
  interfaces := #[]
  cf := some (fileOf pool4 1 #[] #[] 1537 3 #[] #[])
  fields := #[]
  methods := #[]
  instanceTypes := #[]
  staticTypes := #[]
  resolved := Array.replicate 7 none
  statics := none }

def pool5 : Array CpInfo := pool [(2, .class_ 4), (1, u "java/lang/Enum"), (0, u "name"), (0, u "Ljava/lang/String;"), (2, u "ordinal"), (0, u "I"), (1, .class_ 14), (1, u "java/lang/Object"), (4, u "hash"), (86, .class_ 108), (1, u "java/lang/Enum$EnumDesc"), (2, .class_ 112), (0, u "java/lang/constant/Constable"), (0, .class_ 114), (0, u "java/lang/Comparable"), (0, .class_ 116), (0, u "java/io/Serializable")] 87

/-- java/lang/Enum -/
def k5 : Class := { plain "java/lang/Enum" (some 0) with
  accessFlags := 1057
  interfaces := #[2, 3, 4]
  cf := some (fileOf pool5 2 #[.nestMembers #[106]] #[] 1057 12 #[111, 113, 115] #[{ accessFlags := 18, nameIndex := 5, descriptorIndex := 6, attributes := #[] }, { accessFlags := 18, nameIndex := 9, descriptorIndex := 10, attributes := #[] }, { accessFlags := 2, nameIndex := 19, descriptorIndex := 10, attributes := #[] }])
  fields := #[{ name := "name", type := (.object "java/lang/String"), accessFlags := 18, slot := 0, constantValue := 0 }, { name := "ordinal", type := .int, accessFlags := 18, slot := 1, constantValue := 0 }, { name := "hash", type := .int, accessFlags := 2, slot := 2, constantValue := 0 }]
  methods := #[]
  instanceTypes := #[(.object "java/lang/String"), .int, .int]
  staticTypes := #[]
  resolved := Array.replicate 204 none
  statics := none }

def pool6 : Array CpInfo := pool [(1, .class_ 2), (0, u "com/example/strict_bill/strictbill/core/Invoice$Status"), (0, .fieldref 1 4), (0, .nameAndType 5 6), (0, u "PENDING"), (0, u "Lcom/example/strict_bill/strictbill/core/Invoice$Status;"), (0, .fieldref 1 8), (0, .nameAndType 9 6), (0, u "PAID"), (0, .fieldref 1 11), (0, .nameAndType 12 6), (0, u "OVERDUE"), (2, u "VOID"), (0, .fieldref 1 17), (0, .nameAndType 18 6), (0, u "REFUNDED"), (2, u "$VALUES"), (0, u "[Lcom/example/strict_bill/strictbill/core/Invoice$Status;"), (6, .class_ 31), (1, u "java/lang/Enum"), (23, u "payable"), (0, u "()Z"), (1, u "paid"), (5, .class_ 65), (0, u "com/example/strict_bill/strictbill/core/Invoice")] 2

def k6c0 : Code := { maxStack := 2, maxLocals := 1, code := prog_19_method_4_code, exceptionTable := #[], attributes := #[] }
def k6m0 : Method := { name := "payable", desc := "()Z", sig := { parameters := [], returnType := some .boolean }, accessFlags := 1, code := some k6c0 }
def k6c1 : Code := { maxStack := 2, maxLocals := 1, code := prog_19_method_5_code, exceptionTable := #[], attributes := #[] }
def k6m1 : Method := { name := "paid", desc := "()Z", sig := { parameters := [], returnType := some .boolean }, accessFlags := 1, code := some k6c1 }
/-- com/example/strict_bill/strictbill/core/Invoice$Status -/
def k6 : Class := { plain "com/example/strict_bill/strictbill/core/Invoice$Status" (some 5) with
  accessFlags := 16433
  interfaces := #[]
  cf := some (fileOf pool6 1 #[.nestHost 64] #[{ accessFlags := 1, nameIndex := 55, descriptorIndex := 56, attributes := #[] }, { accessFlags := 1, nameIndex := 58, descriptorIndex := 56, attributes := #[] }] 16433 29 #[] #[{ accessFlags := 16409, nameIndex := 5, descriptorIndex := 6, attributes := #[] }, { accessFlags := 16409, nameIndex := 9, descriptorIndex := 6, attributes := #[] }, { accessFlags := 16409, nameIndex := 12, descriptorIndex := 6, attributes := #[] }, { accessFlags := 16409, nameIndex := 15, descriptorIndex := 6, attributes := #[] }, { accessFlags := 16409, nameIndex := 18, descriptorIndex := 6, attributes := #[] }, { accessFlags := 4122, nameIndex := 21, descriptorIndex := 22, attributes := #[] }])
  fields := #[{ name := "PENDING", type := (.object "com/example/strict_bill/strictbill/core/Invoice$Status"), accessFlags := 16409, slot := 0, constantValue := 0 }, { name := "PAID", type := (.object "com/example/strict_bill/strictbill/core/Invoice$Status"), accessFlags := 16409, slot := 1, constantValue := 0 }, { name := "OVERDUE", type := (.object "com/example/strict_bill/strictbill/core/Invoice$Status"), accessFlags := 16409, slot := 2, constantValue := 0 }, { name := "VOID", type := (.object "com/example/strict_bill/strictbill/core/Invoice$Status"), accessFlags := 16409, slot := 3, constantValue := 0 }, { name := "REFUNDED", type := (.object "com/example/strict_bill/strictbill/core/Invoice$Status"), accessFlags := 16409, slot := 4, constantValue := 0 }, { name := "$VALUES", type := (.array (.object "com/example/strict_bill/strictbill/core/Invoice$Status")), accessFlags := 4122, slot := 5, constantValue := 0 }]
  methods := #[k6m0, k6m1]
  instanceTypes := #[(.object "java/lang/String"), .int, .int]
  staticTypes := #[(.object "com/example/strict_bill/strictbill/core/Invoice$Status"), (.object "com/example/strict_bill/strictbill/core/Invoice$Status"), (.object "com/example/strict_bill/strictbill/core/Invoice$Status"), (.object "com/example/strict_bill/strictbill/core/Invoice$Status"), (.object "com/example/strict_bill/strictbill/core/Invoice$Status"), (.array (.object "com/example/strict_bill/strictbill/core/Invoice$Status"))]
  resolved := Array.replicate 68 none
  statics := some 0 }

def pool7 : Array CpInfo := pool [(1, u "java/lang/Cloneable"), (0, .class_ 1), (0, u "java/lang/Object"), (0, .class_ 3)] 3

/-- java/lang/Cloneable -/
def k7 : Class := { plain "java/lang/Cloneable" (some 0) with
  accessFlags := 1537
  interfaces := #[]
  cf := some (fileOf pool7 2 #[] #[] 1537 4 #[] #[])
  fields := #[]
  methods := #[]
  instanceTypes := #[]
  staticTypes := #[]
  resolved := Array.replicate 8 none
  statics := none }

/-- the primitive boolean -/
def k8 : Class := { plain "boolean" none with kind := .primitive 'Z', accessFlags := 0x411 }
/-- [Z -/
def k9 : Class := { plain "[Z" (some 0) with kind := .array 8 .boolean, interfaces := #[7, 4], accessFlags := 1041 }

/-- the primitive byte -/
def k10 : Class := { plain "byte" none with kind := .primitive 'B', accessFlags := 0x411 }
/-- [B -/
def k11 : Class := { plain "[B" (some 0) with kind := .array 10 .byte, interfaces := #[7, 4], accessFlags := 1041 }

/-- the primitive int -/
def k12 : Class := { plain "int" none with kind := .primitive 'I', accessFlags := 0x411 }
/-- [I -/
def k13 : Class := { plain "[I" (some 0) with kind := .array 12 .int, interfaces := #[7, 4], accessFlags := 1041 }

def heap : Heap := #[{ cls := 6, slots := #[.ref 1, .ref 2, .ref 5, .ref 4, .ref 3, .null], vm := .statics 6 },
  { cls := 6, slots := #[.null, .int 0, .int 0], vm := .none },
  { cls := 6, slots := #[.null, .int 1, .int 0], vm := .none },
  { cls := 6, slots := #[.null, .int 4, .int 0], vm := .none },
  { cls := 6, slots := #[.null, .int 3, .int 0], vm := .none },
  { cls := 6, slots := #[.null, .int 2, .int 0], vm := .none }]
def classes : Array Class := #[k0, k1, k2, k3, k4, k5, k6, k7, k8, k9, k10, k11, k12, k13]
def interned : List (Array UInt16 × Addr) := []
def slotsUsed : Nat := 21
def theMethod : MethodId := ⟨1, 1⟩
def args0 : Array Value := #[.int 5]
def aboutOver (below : List Frame) : State where
  vm := { classes := classes, interned := interned.toArray }
  heap := heap
  slotsUsed := slotsUsed
  threads := #[{ frames := .invoking theMethod args0 :: below }]
def below0 : List Frame := [.native { method := ⟨0, 0⟩, args := #[] }]
def about1 : State := aboutOver below0
def p0 : Program := .bare "" "" ""
def e0 : Env := launch0.env 0 0 0
theorem w_frames : about1.frames = Frame.invoking theMethod args0 :: below0 := rfl
set_option maxRecDepth 65536 in
theorem w_args : argsFit about1.vm theMethod args0 = true := by decide +kernel
set_option maxRecDepth 65536 in
theorem w_heap : heapFits about1 = true := by decide +kernel
set_option maxRecDepth 65536 in
theorem w_runnable : about1.curStatus? = some .runnable := by decide +kernel
set_option maxRecDepth 65536 in
theorem w_alone : about1.alone = true := by decide +kernel
set_option maxRecDepth 65536 in
theorem w_named : about1.methodNamed? x = some theMethod := by decide +kernel
set_option maxRecDepth 65536 in
theorem w_hears : about1.hears theMethod below0 = true := by decide +kernel
set_option maxRecDepth 65536 in
theorem w_ripe : about1.ripe theMethod args0 below0 = true := by decide +kernel
theorem w_running : about1.status = .running := rfl
set_option maxRecDepth 65536 in
theorem w_room : about1.hasRoom e0.platform room_1 = true :=
  launch0.hasRoom_least _ room_1 (by decide +kernel) (by decide +kernel) (by decide +kernel) (by decide +kernel) (by decide +kernel) (by decide +kernel)
theorem allAtoms_all (ts : List Jvm.Cond) (a : Array Jvm.Value) (st : Jvm.State) : (allAtoms ts).before a st = ts.all (fun c => c.before a st) := by
  induction ts with
  | nil => rfl
  | cons c t ih =>
    show (Jvm.Cond.and c (allAtoms t)).before a st = _
    rw [Jvm.Cond.before_and, ih, List.all_cons]
def words1 : List Jvm.Cond := Jvm.Cond.code x code maxLocals ret :: tables_1
/-- a 'code' word, met by the world's own term for the bytes: nothing is compared byte by byte -/
theorem code_word {y : MethodName} {bytes : ByteArray} {mx : Nat} {rt : Option FieldType} {a : Array Value} {s : State} {m : MethodId} {meth : Method} {c : Code} (h1 : s.methodNamed? y = some m) (h2 : s.vm.method? m = some meth) (h3 : meth.code = some c) (h4 : c.code = bytes)
    (h5 : (c.maxLocals == mx && c.exceptionTable.isEmpty && decide (c.maxStack ≤ mostOperands) && decide (meth.sig.returnType = rt) && !meth.locks && decide (parseMethodDescriptor y.desc = some meth.sig)) = true) : (Jvm.Cond.code y bytes mx rt).before a s = true := by
  simp only [Bool.and_eq_true, beq_iff_eq, Bool.not_eq_true', decide_eq_true_eq] at h5
  obtain ⟨⟨⟨⟨⟨g1, g2⟩, g3⟩, g4⟩, g5⟩, g6⟩ := h5
  simp [Cond.before, Cond.holds, Cond.value, h1, h2, h3, h4, g1, g2, g3, g4, g5, g6]
def isCode : Jvm.Cond → Bool
  | .code _ _ _ _ => true
  | _ => false
theorem all_split {L : List Jvm.Cond} {P : Jvm.Cond → Bool} (h1 : L.all (fun c => isCode c || P c) = true) (h2 : ∀ c ∈ L.filter isCode, P c = true) : L.all P = true := by
  refine List.all_eq_true.mpr fun c hc => ?_
  have h := List.all_eq_true.mp h1 c hc
  rcases Bool.eq_false_or_eq_true (isCode c) with hi | hi
  · exact h2 c (List.mem_filter.mpr ⟨hc, hi⟩)
  · simpa [hi] using h
set_option maxRecDepth 65536 in
theorem w_c0 : (Jvm.Cond.code x code maxLocals ret).before args0 about1 = true := code_word (m := ⟨1, 1⟩) (meth := k1m1) (c := k1c1) (by decide +kernel) rfl rfl rfl (by decide +kernel)
set_option maxRecDepth 65536 in
theorem w_c1 : (Jvm.Cond.code ({ cls := "com/example/strict_bill/strictbill/core/Invoice$Status", name := "paid", desc := "()Z" } : Jvm.MethodName) prog_19_method_5_code (1 : Nat) (Option.some Jvm.ClassFile.FieldType.boolean)).before args0 about1 = true := code_word (m := ⟨6, 1⟩) (meth := k6m1) (c := k6c1) (by decide +kernel) rfl rfl rfl (by decide +kernel)
set_option maxRecDepth 65536 in
theorem w_c2 : (Jvm.Cond.code ({ cls := "com/example/strict_bill/strictbill/core/Invoice$Status", name := "payable", desc := "()Z" } : Jvm.MethodName) prog_19_method_4_code (1 : Nat) (Option.some Jvm.ClassFile.FieldType.boolean)).before args0 about1 = true := code_word (m := ⟨6, 0⟩) (meth := k6m0) (c := k6c0) (by decide +kernel) rfl rfl rfl (by decide +kernel)
def codes1 : List Jvm.Cond := [Jvm.Cond.code x code maxLocals ret, Jvm.Cond.code ({ cls := "com/example/strict_bill/strictbill/core/Invoice$Status", name := "paid", desc := "()Z" } : Jvm.MethodName) prog_19_method_5_code (1 : Nat) (Option.some Jvm.ClassFile.FieldType.boolean), Jvm.Cond.code ({ cls := "com/example/strict_bill/strictbill/core/Invoice$Status", name := "payable", desc := "()Z" } : Jvm.MethodName) prog_19_method_4_code (1 : Nat) (Option.some Jvm.ClassFile.FieldType.boolean)]
set_option maxRecDepth 65536 in
theorem codes_eq : words1.filter isCode = codes1 := rfl
theorem w_codes : ∀ c ∈ words1.filter isCode, c.before args0 about1 = true := by
  rw [codes_eq]
  intro c hc
  simp only [codes1, List.mem_cons, List.not_mem_nil, or_false] at hc
  rcases hc with rfl | rfl | rfl
  · exact w_c0
  · exact w_c1
  · exact w_c2
set_option maxRecDepth 65536 in
theorem w_t1 : (words1.take 24).all (fun c => isCode c || c.before args0 about1) = true := by decide +kernel
set_option maxRecDepth 65536 in
theorem w_t2 : (words1.drop 24).all (fun c => isCode c || c.before args0 about1) = true := by decide +kernel
theorem w_tables : (allAtoms (Jvm.Cond.code x code maxLocals ret :: tables_1)).before args0 about1 = true := by
  rw [allAtoms_all]
  show words1.all (fun c => c.before args0 about1) = true
  refine all_split ?_ w_codes
  rw [← List.take_append_drop 24 words1, List.all_append, w_t1, w_t2]
  rfl
set_option maxRecDepth 65536 in
theorem w_case : (Jvm.Cond.and given_1 narrow_1).before args0 about1 = true := by decide +kernel
theorem w_applies : (headSpec (Jvm.Cond.code x code maxLocals ret :: tables_1) room_1).applies x e0.platform about1 = true :=
  (Spec.applies_iff w_frames).mpr ⟨w_running, w_runnable, w_alone, w_named, w_hears, w_ripe, w_room, w_tables⟩
theorem atStart : AtStart classFile x code maxLocals ret World_1 tables_1 room_1 Calls_1 rest_1 Pre_1 launch0 p0 e0 about1 theMethod args0 below0 :=
  ⟨lists_1, trivial, launch0.admits_env _ _ _, launch0.least_env, fairChoices_fair.cas, fairChoices_fair.clock, w_frames, w_args, w_heap, w_applies, trivial, trivial, w_case⟩
end start1
theorem witness_1 : WitnessClaimed_1 := ⟨start1.p0, start1.e0, start1.about1, start1.theMethod, start1.args0, start1.below0, start1.atStart⟩
end Jvm.Pilot.@@N@@
