import JvmDerived
import JvmDerived.Pilot.@@N@@Statement
import JvmDerived.Pilot.@@N@@Code
set_option linter.unusedVariables false
set_option linter.unusedSimpArgs false
@@BLOCK:NumsL.lean.txt@@
namespace Jvm.Pilot.@@N@@
open Jvm Jvm.ClassFile Sem Op Lib Jvm.Free Jvm.Stand Jvm.LawKit Jvm.RoadKit Bundle Jvm.Pilot.@@N@@.Jvm.D

/-! the walk's goal, read backwards: from here the run comes to its end -/
def own_Done (p : Program) (e : Env) (below : List Frame) (W : State) (Q : Outcome → State → Prop) : Prop := ∃ s₂ o, Steps p.tables e below W s₂ ∧ s₂.status = .running ∧ Ended s₂ below o ∧ Q o s₂
theorem own_step {p : Program} {e : Env} {below : List Frame} {W W' : State} {Q : Outcome → State → Prop} (st : ∀ t, Steps p.tables e below W' t → Steps p.tables e below W t) (h : own_Done p e below W' Q) : own_Done p e below W Q := by
  obtain ⟨s2, o, h1, r⟩ := h
  exact ⟨s2, o, st _ h1, r⟩
theorem own_enter {p : Program} {e : Env} {below : List Frame} {T : State} {g g' : JFrame} {Q : Outcome → State → Prop} (q : g = g') (h : own_Done p e below (T.setTop g') Q) : ∃ s₂ o, Steps p.tables e below (T.setTop g) s₂ ∧ s₂.status = .running ∧ Ended s₂ below o ∧ Q o s₂ := by
  subst q; exact h
theorem own_ret {p : Program} {l : Launch} {e : Env} {R : Room} {s : State} {m : MethodId} {args : Array Value} {below : List Frame} {meth : Method} {c : Code} {T W : State} {locs : List Loc} {cells slots k n : Nat} {r : Option Value → Heap → List Loc → Prop} {v : Value} {t : FieldType}
    (X : Stand p l e R s m args below meth c T locs cells slots) (hlocks : meth.locks = false) (hret : meth.sig.returnType = some t)
    (hs : ∀ fs : List Frame, (∀ (f : JFrame) (acts : List Action), f.method = m → f.locked = none → f.entered = [] → (doReturn e (T.setTop f) acts (some v)).1 = T.setFrames fs) → Steps p.tables e below W (T.setFrames fs))
    (hq : r (some v) T.heap locs) (hk : cells ≤ k) (hn : slots ≤ n) : own_Done p e below W (fun o U' => ∃ v L, o = .returned v ∧ r v U'.heap L ∧ FrameEnd s o U' L k n) := by
  obtain ⟨fs, hr, hrun, hended, hW, hsame⟩ := X.leave (v := some v) (fun h => by rw [hret] at h; cases h) hlocks
  exact ⟨_, _, hs fs hr, hrun, hended, _, _, rfl, hq, ⟨_, rfl⟩, hW, hsame.mono hk hn⟩
theorem own_ret0 {p : Program} {l : Launch} {e : Env} {R : Room} {s : State} {m : MethodId} {args : Array Value} {below : List Frame} {meth : Method} {c : Code} {T W : State} {locs : List Loc} {cells slots k n : Nat} {r : Option Value → Heap → List Loc → Prop}
    (X : Stand p l e R s m args below meth c T locs cells slots) (hlocks : meth.locks = false) (hret : meth.sig.returnType = none)
    (hs : ∀ fs : List Frame, (∀ (f : JFrame) (acts : List Action), f.method = m → f.locked = none → f.entered = [] → (doReturn e (T.setTop f) acts none).1 = T.setFrames fs) → Steps p.tables e below W (T.setFrames fs))
    (hq : r none T.heap locs) (hk : cells ≤ k) (hn : slots ≤ n) : own_Done p e below W (fun o U' => ∃ v L, o = .returned v ∧ r v U'.heap L ∧ FrameEnd s o U' L k n) := by
  obtain ⟨fs, hr, hrun, hended, hW, hsame⟩ := X.leave (v := none) (fun _ => rfl) hlocks
  exact ⟨_, _, hs fs hr, hrun, hended, _, _, rfl, hq, ⟨_, rfl⟩, hW, hsame.mono hk hn⟩
/-- a body that writes nothing and returns r -/
def own_QK (r : Option Value) (h0 : Heap) (n0 : Nat) (v : Option Value) (h : Heap) (L : List Loc) : Prop := v = r ∧ Fr n0 L ∧ h = h0
/-- the law itself -/
def own_Q0 (n0 : Nat) (v : Option Value) (h : Heap) (L : List Loc) : Prop := v = some (.int (1 : Int32)) ∧ Fr n0 L

theorem own_eqJ {args : Array Value} {first s : State} {o : Option Outcome} {idx : List Nat} {t : Term} {k : Int64} (h : (Cond.eq t (.long k)).value args first o s idx = some true) : t.eval args first o idx s = some (.long k) := by
  obtain ⟨u, w, e1, e2, -, k2⟩ := cmp_v (Or.inl h)
  have e3 : (Term.long k).eval args first o idx s = some (.long k) := rfl
  cases e3.symm.trans e2
  obtain ⟨z, rfl⟩ := k2
  rw [e1]
  have := gotT (eq_L e1 e3) h
  rw [this]
theorem own_fldI {Z : State} {args : Array Value} {t : Term} {a : Addr} {C n d : String} {k : Int32} (ev : t.eval args Z none [] Z = some (.ref a)) (h : (Cond.eq (.field t C n d) (.int k)).value args Z none Z [] = some true) : Fld Z Z.heap a C n d (.int k) := by
  refine Fld.start ?_
  rw [← fld_at (C := C) (n := n) (dd := d) ev]
  obtain ⟨u, w, e1, e2, -, k2⟩ := cmp_v (Or.inl h)
  cases (Term.int_eval k).symm.trans e2
  obtain ⟨z, rfl⟩ := k2
  rw [e1]
  simp [Cond.value, e1, Term.int_eval] at h
  rw [h]
theorem own_fldN {Z : State} {args : Array Value} {t : Term} {a : Addr} {C n d : String} (ev : t.eval args Z none [] Z = some (.ref a)) (h : (Cond.eq (.field t C n d) .null).value args Z none Z [] = some true) : Fld Z Z.heap a C n d .null := by
  refine Fld.start ?_
  rw [← fld_at (C := C) (n := n) (dd := d) ev]
  exact null_v h
theorem own_fldR {Z : State} {args : Array Value} {t u : Term} {a b : Addr} {C n d : String} (ev : t.eval args Z none [] Z = some (.ref a)) (eu : u.eval args Z none [] Z = some (.ref b)) (h : (Cond.eq (.field t C n d) u).value args Z none Z [] = some true) : Fld Z Z.heap a C n d (.ref b) := by
  refine Fld.start ?_
  rw [← fld_at (C := C) (n := n) (dd := d) ev]
  obtain ⟨x, w, e1, e2, k1, k2⟩ := cmp_v (Or.inl h)
  cases eu.symm.trans e2
  obtain ⟨-, hx⟩ := k2
  rw [e1]
  have := gotT (eq_R e1 eu hx rfl) h
  rw [this]

theorem own_mask (p : Int32) : 0 ≤ (p &&& (2147483647 : Int32)).toInt := by
  have e1 : (p &&& (2147483647 : Int32)).toInt = p.toInt % 2 ^ 31 := Jvm.Kit.i32_mask p 2147483647 (k := 31) (by decide) (by decide)
  omega
theorem own_rem (p q : Int32) (h : 0 < q.toInt) : 0 ≤ ((p &&& (2147483647 : Int32)) % q).toInt ∧ ((p &&& (2147483647 : Int32)) % q).toInt < q.toInt := by
  have h0 := own_mask p
  rw [Int32.toInt_mod]
  exact ⟨Int.tmod_nonneg _ h0, Int.tmod_lt_of_pos _ h⟩
theorem own_m14 (p : Int32) : ((p &&& (2147483647 : Int32)) % (14 : Int32)) = (0 : Int32) ∨ ((p &&& (2147483647 : Int32)) % (14 : Int32)) = (1 : Int32) ∨ ((p &&& (2147483647 : Int32)) % (14 : Int32)) = (2 : Int32) ∨ ((p &&& (2147483647 : Int32)) % (14 : Int32)) = (3 : Int32) ∨ ((p &&& (2147483647 : Int32)) % (14 : Int32)) = (4 : Int32) ∨ ((p &&& (2147483647 : Int32)) % (14 : Int32)) = (5 : Int32) ∨ ((p &&& (2147483647 : Int32)) % (14 : Int32)) = (6 : Int32) ∨ ((p &&& (2147483647 : Int32)) % (14 : Int32)) = (7 : Int32) ∨ ((p &&& (2147483647 : Int32)) % (14 : Int32)) = (8 : Int32) ∨ ((p &&& (2147483647 : Int32)) % (14 : Int32)) = (9 : Int32) ∨ ((p &&& (2147483647 : Int32)) % (14 : Int32)) = (10 : Int32) ∨ ((p &&& (2147483647 : Int32)) % (14 : Int32)) = (11 : Int32) ∨ ((p &&& (2147483647 : Int32)) % (14 : Int32)) = (12 : Int32) ∨ ((p &&& (2147483647 : Int32)) % (14 : Int32)) = (13 : Int32) := by
  have h := own_rem p (14 : Int32) (by decide)
  have hq : (14 : Int32).toInt = 14 := by decide
  rw [hq] at h
  generalize ((p &&& (2147483647 : Int32)) % (14 : Int32)) = z at h
  have hz : z.toInt = 0 ∨ z.toInt = 1 ∨ z.toInt = 2 ∨ z.toInt = 3 ∨ z.toInt = 4 ∨ z.toInt = 5 ∨ z.toInt = 6 ∨ z.toInt = 7 ∨ z.toInt = 8 ∨ z.toInt = 9 ∨ z.toInt = 10 ∨ z.toInt = 11 ∨ z.toInt = 12 ∨ z.toInt = 13 := by omega
  rcases hz with hz | hz | hz | hz | hz | hz | hz | hz | hz | hz | hz | hz | hz | hz
  · exact Or.inl (Int32.toInt_inj.mp (hz.trans (by decide)))
  · exact Or.inr (Or.inl (Int32.toInt_inj.mp (hz.trans (by decide))))
  · exact Or.inr (Or.inr (Or.inl (Int32.toInt_inj.mp (hz.trans (by decide)))))
  · exact Or.inr (Or.inr (Or.inr (Or.inl (Int32.toInt_inj.mp (hz.trans (by decide))))))
  · exact Or.inr (Or.inr (Or.inr (Or.inr (Or.inl (Int32.toInt_inj.mp (hz.trans (by decide)))))))
  · exact Or.inr (Or.inr (Or.inr (Or.inr (Or.inr (Or.inl (Int32.toInt_inj.mp (hz.trans (by decide))))))))
  · exact Or.inr (Or.inr (Or.inr (Or.inr (Or.inr (Or.inr (Or.inl (Int32.toInt_inj.mp (hz.trans (by decide)))))))))
  · exact Or.inr (Or.inr (Or.inr (Or.inr (Or.inr (Or.inr (Or.inr (Or.inl (Int32.toInt_inj.mp (hz.trans (by decide))))))))))
  · exact Or.inr (Or.inr (Or.inr (Or.inr (Or.inr (Or.inr (Or.inr (Or.inr (Or.inl (Int32.toInt_inj.mp (hz.trans (by decide)))))))))))
  · exact Or.inr (Or.inr (Or.inr (Or.inr (Or.inr (Or.inr (Or.inr (Or.inr (Or.inr (Or.inl (Int32.toInt_inj.mp (hz.trans (by decide))))))))))))
  · exact Or.inr (Or.inr (Or.inr (Or.inr (Or.inr (Or.inr (Or.inr (Or.inr (Or.inr (Or.inr (Or.inl (Int32.toInt_inj.mp (hz.trans (by decide)))))))))))))
  · exact Or.inr (Or.inr (Or.inr (Or.inr (Or.inr (Or.inr (Or.inr (Or.inr (Or.inr (Or.inr (Or.inr (Or.inl (Int32.toInt_inj.mp (hz.trans (by decide))))))))))))))
  · exact Or.inr (Or.inr (Or.inr (Or.inr (Or.inr (Or.inr (Or.inr (Or.inr (Or.inr (Or.inr (Or.inr (Or.inr (Or.inl (Int32.toInt_inj.mp (hz.trans (by decide)))))))))))))))
  · exact Or.inr (Or.inr (Or.inr (Or.inr (Or.inr (Or.inr (Or.inr (Or.inr (Or.inr (Or.inr (Or.inr (Or.inr (Or.inr ((Int32.toInt_inj.mp (hz.trans (by decide))))))))))))))))

theorem own_extWr {h0 h h' : Heap} {a : Addr} {sl : Nat} {v : Value} (E : Ext h0 h) (W : Wr h h' a sl v) (q : h0.size ≤ a) : Ext h0 h' :=
  ⟨by rw [W.size]; exact E.1, fun x c hx => by
    have hlt := (Array.getElem?_eq_some_iff.mp hx).1
    exact (Keep.of_wr W).2.1 x c (E.2 x c hx) (ninS (Nat.ne_of_lt (Nat.lt_of_lt_of_le hlt q)) nin0)⟩
theorem own_extTrans {h0 h h' : Heap} (E : Ext h0 h) (F : Ext h h') : Ext h0 h' := ⟨Nat.le_trans E.1 F.1, fun x c hx => F.2 x c (E.2 x c hx)⟩
theorem own_new {Z : State} {h : Heap} {a : Addr} {k : ClassId} {ty : FieldType} {z : Int32} {n : Nat} (A : Arr Z h a (newA k ty z) ty) (q : ¬ z < 0) (hn : z.toNatClampNeg = n) : Arv Z h a k ty z (List.replicate n (defaultValue ty)) (defaultValue ty) :=
  (Arv.new A q).pad (pad_rep [] (defaultValue ty) n)
section OwnArr
variable {p : Program} {l : Launch} {e : Env} {R : Room} {s : State} {m : MethodId} {args : Array Value} {below : List Frame} {meth : Method} {c : Code} {T : State} {locs : List Loc} {cells slots : Nat} {Z : State} {h h0 : Heap} {a : Addr} {k : ClassId} {n : Int32} {vs : List Value} {dv : Value} {n0 : Nat}
theorem own_stZ (X : Stand p l e R s m args below meth c T locs cells slots) (hx : p.tables.exec = Jvm.exec) (hZ : Z.Warmed39 s.vm) (eT : T.heap = h) (A : Arv Z h a k .boolean n vs dv) {j x : Int32} {i : Nat} (hj : ¬ j < 0 ∧ j < n) (hi : j.toNatClampNeg = i) (hlt : i < vs.length) (E0 : Ext h0 h) (hb : h0.size ≤ a) (N0 : Fr n0 locs) (hn0 : n0 ≤ a)
    {g : JFrame} (hg : g.method = m) {rest : List Value} (hs : g.stack = .int x :: .int j :: .ref a :: rest) (hd : decode c.code g.pc = .ok (.bastore, 1)) :
    ∃ T' h' L', Stand p l e R s m args below meth c T' L' cells slots ∧ T'.heap = h' ∧ Ext h0 h' ∧ Fr n0 L' ∧ Arv Z h' a k .boolean n (vs.set i (.int (nar .boolean x))) dv ∧ ∀ target, Steps p.tables e below (T'.setTop { g with pc := g.pc + 1, stack := rest }) target → Steps p.tables e below (T.setTop g) target := by
  obtain ⟨cl, Ar, q, S, N, H, G⟩ := A
  obtain ⟨T', h', X', e', W, st⟩ := stZ X hx hZ eT Ar (j := j) (x := x) (inb_of S hj) hg hs hd
  exact ⟨T', h', _, X', e', own_extWr E0 W hb, Fr.snoc X' N0 hn0, Arv.set Ar q S N H G (fits_nar_bool x) W i hi hlt, st⟩
theorem own_stB (X : Stand p l e R s m args below meth c T locs cells slots) (hx : p.tables.exec = Jvm.exec) (hZ : Z.Warmed39 s.vm) (eT : T.heap = h) (A : Arv Z h a k .byte n vs dv) {j x : Int32} {i : Nat} (hj : ¬ j < 0 ∧ j < n) (hi : j.toNatClampNeg = i) (hlt : i < vs.length) (E0 : Ext h0 h) (hb : h0.size ≤ a) (N0 : Fr n0 locs) (hn0 : n0 ≤ a)
    {g : JFrame} (hg : g.method = m) {rest : List Value} (hs : g.stack = .int x :: .int j :: .ref a :: rest) (hd : decode c.code g.pc = .ok (.bastore, 1)) :
    ∃ T' h' L', Stand p l e R s m args below meth c T' L' cells slots ∧ T'.heap = h' ∧ Ext h0 h' ∧ Fr n0 L' ∧ Arv Z h' a k .byte n (vs.set i (.int (nar .byte x))) dv ∧ ∀ target, Steps p.tables e below (T'.setTop { g with pc := g.pc + 1, stack := rest }) target → Steps p.tables e below (T.setTop g) target := by
  obtain ⟨cl, Ar, q, S, N, H, G⟩ := A
  obtain ⟨T', h', X', e', W, st⟩ := stB X hx hZ eT Ar (j := j) (x := x) (inb_of S hj) hg hs hd
  exact ⟨T', h', _, X', e', own_extWr E0 W hb, Fr.snoc X' N0 hn0, Arv.set Ar q S N H G (fits_nar_byte x) W i hi hlt, st⟩
theorem own_stR (X : Stand p l e R s m args below meth c T locs cells slots) (hx : p.tables.exec = Jvm.exec) (hZ : Z.Warmed39 s.vm) (eT : T.heap = h) {C : String} (A : Arv Z h a k (.object C) n vs dv) (O : Ovr Z k C) {j : Int32} {y : Addr} (Y : Exa Z h y C) {i : Nat} (hj : ¬ j < 0 ∧ j < n) (hi : j.toNatClampNeg = i) (hlt : i < vs.length) (E0 : Ext h0 h) (hb : h0.size ≤ a) (N0 : Fr n0 locs) (hn0 : n0 ≤ a)
    {g : JFrame} (hg : g.method = m) {rest : List Value} (hs : g.stack = .ref y :: .int j :: .ref a :: rest) (hd : decode c.code g.pc = .ok (.aastore, 1)) :
    ∃ T' h' L', Stand p l e R s m args below meth c T' L' cells slots ∧ T'.heap = h' ∧ Ext h0 h' ∧ Fr n0 L' ∧ Arv Z h' a k (.object C) n (vs.set i (.ref y)) dv ∧ ∀ target, Steps p.tables e below (T'.setTop { g with pc := g.pc + 1, stack := rest }) target → Steps p.tables e below (T.setTop g) target := by
  obtain ⟨cl, Ar, q, S, N, H, G⟩ := A
  obtain ⟨T', h', X', e', W, st⟩ := stR X hx hZ eT Ar (j := j) (v := .ref y) (inb_of S hj) rfl (Sto.ofV Ar q O (Ins.self Y)) hg hs hd
  exact ⟨T', h', _, X', e', own_extWr E0 W hb, Fr.snoc X' N0 hn0, Arv.set Ar q S N H G rfl W i hi hlt, st⟩
theorem own_ldZ (X : Stand p l e R s m args below meth c T locs cells slots) (hx : p.tables.exec = Jvm.exec) (hZ : Z.Warmed39 s.vm) (eT : T.heap = h) (A : Arv Z h a k .boolean n vs dv) {j : Int32} {v : Value} (hj : ¬ j < 0 ∧ j < n) (hv : vs.getD j.toNatClampNeg dv = v)
    {g : JFrame} (hg : g.method = m) {rest : List Value} (hs : g.stack = .int j :: .ref a :: rest) (hd : decode c.code g.pc = .ok (.baload, 1)) (target : State)
    (hr : Steps p.tables e below (T.setTop { g with pc := g.pc + 1, stack := v :: rest }) target) : Steps p.tables e below (T.setTop g) target := by
  obtain ⟨cl, Ar, q, S, N, H, G⟩ := A
  exact X.baloadBooleans hx (by rw [eT]; exact Ar.1) (State.isArrayOf_alike hZ.alike Ar.2.1) Ar.2.2 (inb_of S hj) (Has.at H (inb_of S hj) hv) hg hs hd target hr
theorem own_ldB (X : Stand p l e R s m args below meth c T locs cells slots) (hx : p.tables.exec = Jvm.exec) (hZ : Z.Warmed39 s.vm) (eT : T.heap = h) (A : Arv Z h a k .byte n vs dv) {j : Int32} {v : Value} (hj : ¬ j < 0 ∧ j < n) (hv : vs.getD j.toNatClampNeg dv = v)
    {g : JFrame} (hg : g.method = m) {rest : List Value} (hs : g.stack = .int j :: .ref a :: rest) (hd : decode c.code g.pc = .ok (.baload, 1)) (target : State)
    (hr : Steps p.tables e below (T.setTop { g with pc := g.pc + 1, stack := v :: rest }) target) : Steps p.tables e below (T.setTop g) target := by
  obtain ⟨cl, Ar, q, S, N, H, G⟩ := A
  exact X.baloadBytes hx (by rw [eT]; exact Ar.1) (State.isArrayOf_alike hZ.alike Ar.2.1) Ar.2.2 (inb_of S hj) (Has.at H (inb_of S hj) hv) hg hs hd target hr
theorem own_ldR (X : Stand p l e R s m args below meth c T locs cells slots) (hx : p.tables.exec = Jvm.exec) (hZ : Z.Warmed39 s.vm) (eT : T.heap = h) {C : String} (A : Arv Z h a k (.object C) n vs dv) {j : Int32} {v : Value} (hj : ¬ j < 0 ∧ j < n) (hv : vs.getD j.toNatClampNeg dv = v)
    {g : JFrame} (hg : g.method = m) {rest : List Value} (hs : g.stack = .int j :: .ref a :: rest) (hd : decode c.code g.pc = .ok (.aaload, 1)) (target : State)
    (hr : Steps p.tables e below (T.setTop { g with pc := g.pc + 1, stack := v :: rest }) target) : Steps p.tables e below (T.setTop g) target := by
  obtain ⟨cl, Ar, q, S, N, H, G⟩ := A
  exact X.aaload hx (by rw [eT]; exact Ar.1) (State.isArrayOf_alike hZ.alike Ar.2.1) rfl Ar.2.2 (inb_of S hj) (Has.at H (inb_of S hj) hv) hg hs hd target hr
end OwnArr
theorem d1_0 : decode prog_13_method_6_code 0 = .ok (.aload_n 0, 1) := by decide +kernel
theorem d1_1 : decode prog_13_method_6_code 1 = .ok (.getstatic 43, 3) := by decide +kernel
theorem d1_4 : decode prog_13_method_6_code 4 = .ok (.if_acmp .eq 7, 3) := by decide +kernel
theorem d1_7 : decode prog_13_method_6_code 7 = .ok (.iconst 1, 1) := by decide +kernel
theorem d1_8 : decode prog_13_method_6_code 8 = .ok (.goto 4, 3) := by decide +kernel
theorem d1_12 : decode prog_13_method_6_code 12 = .ok (.ireturn, 1) := by decide +kernel
theorem ef_1_R (m : MethodId) (x0 : Addr) : entryFrame m #[(.ref x0)] 1 = mkF m 0 #[.val (.ref x0)] [] := by first | (simp [entryFrame, mkF, argsToLocals, Value.category]; done) | rfl
theorem pn_com_example_featherstar_featherstar_condition_Operator : plainName "com/example/featherstar/featherstar/condition/Operator" = true := by first | (simp [plainName, overriddenIn]; done) | decide +kernel
theorem pd_0 : parseMethodDescriptor "()Z" = some ⟨[], some .boolean⟩ := by decide +kernel
theorem d2_0 : decode prog_13_method_8_code 0 = .ok (.aload_n 0, 1) := by decide +kernel
theorem d2_1 : decode prog_13_method_8_code 1 = .ok (.getfield 65, 3) := by decide +kernel
theorem d2_4 : decode prog_13_method_8_code 4 = .ok (.ifnonnull 7, 3) := by decide +kernel
theorem d2_7 : decode prog_13_method_8_code 7 = .ok (.aload_n 0, 1) := by decide +kernel
theorem d2_8 : decode prog_13_method_8_code 8 = .ok (.goto 7, 3) := by decide +kernel
theorem d2_15 : decode prog_13_method_8_code 15 = .ok (.areturn, 1) := by decide +kernel
theorem ef_2_R (m : MethodId) (x0 : Addr) : entryFrame m #[(.ref x0)] 1 = mkF m 0 #[.val (.ref x0)] [] := by first | (simp [entryFrame, mkF, argsToLocals, Value.category]; done) | rfl
theorem pd_1 : parseMethodDescriptor "()Lcom/example/featherstar/featherstar/condition/Operator;" = some ⟨[], some (.object "com/example/featherstar/featherstar/condition/Operator")⟩ := by decide +kernel
theorem ef_0_I (m : MethodId) (x0 : Int32) : entryFrame m #[(.int x0)] maxLocals = mkF m 0 #[.val (.int x0), .unset, .unset, .unset, .unset, .unset, .unset] [] := by first | (simp [entryFrame, mkF, argsToLocals, Value.category, maxLocals]; done) | rfl
theorem pn_com_example_featherstar_featherstar_condition_OperatorTakesOperandPinLaw : plainName "com/example/featherstar/featherstar/condition/OperatorTakesOperandPinLaw" = true := by first | (simp [plainName, overriddenIn]; done) | decide +kernel
theorem d2_11 : decode prog_13_method_8_code 11 = .ok (.aload_n 0, 1) := by decide +kernel
theorem d2_12 : decode prog_13_method_8_code 12 = .ok (.getfield 65, 3) := by decide +kernel
theorem d1_11 : decode prog_13_method_6_code 11 = .ok (.iconst 0, 1) := by decide +kernel
/-- what the case pins of the constants -/
def Pins (Z : State) (h : Heap) (w : Nat → Addr) : Prop := Exa Z h (w 0) "com/example/featherstar/featherstar/condition/Operator" ∧ Sta Z h "com/example/featherstar/featherstar/condition/Operator" "EQUAL" "Lcom/example/featherstar/featherstar/condition/Operator;" (.ref (w 0)) ∧ Exa Z h (w 1) "com/example/featherstar/featherstar/condition/Operator" ∧ Sta Z h "com/example/featherstar/featherstar/condition/Operator" "NOT_EQUAL" "Lcom/example/featherstar/featherstar/condition/Operator;" (.ref (w 1)) ∧ Exa Z h (w 2) "com/example/featherstar/featherstar/condition/Operator" ∧ Sta Z h "com/example/featherstar/featherstar/condition/Operator" "LESS" "Lcom/example/featherstar/featherstar/condition/Operator;" (.ref (w 2)) ∧ Exa Z h (w 3) "com/example/featherstar/featherstar/condition/Operator" ∧ Sta Z h "com/example/featherstar/featherstar/condition/Operator" "LESS_OR_EQUAL" "Lcom/example/featherstar/featherstar/condition/Operator;" (.ref (w 3)) ∧ Exa Z h (w 4) "com/example/featherstar/featherstar/condition/Operator" ∧ Sta Z h "com/example/featherstar/featherstar/condition/Operator" "GREATER" "Lcom/example/featherstar/featherstar/condition/Operator;" (.ref (w 4)) ∧ Exa Z h (w 5) "com/example/featherstar/featherstar/condition/Operator" ∧ Sta Z h "com/example/featherstar/featherstar/condition/Operator" "GREATER_OR_EQUAL" "Lcom/example/featherstar/featherstar/condition/Operator;" (.ref (w 5)) ∧ Exa Z h (w 6) "com/example/featherstar/featherstar/condition/Operator" ∧ Sta Z h "com/example/featherstar/featherstar/condition/Operator" "EQUAL_IGNORING_CASE" "Lcom/example/featherstar/featherstar/condition/Operator;" (.ref (w 6)) ∧ Exa Z h (w 7) "com/example/featherstar/featherstar/condition/Operator" ∧ Sta Z h "com/example/featherstar/featherstar/condition/Operator" "NOT_EQUAL_IGNORING_CASE" "Lcom/example/featherstar/featherstar/condition/Operator;" (.ref (w 7)) ∧ Exa Z h (w 8) "com/example/featherstar/featherstar/condition/Operator" ∧ Sta Z h "com/example/featherstar/featherstar/condition/Operator" "MATCHES" "Lcom/example/featherstar/featherstar/condition/Operator;" (.ref (w 8)) ∧ Exa Z h (w 9) "com/example/featherstar/featherstar/condition/Operator" ∧ Sta Z h "com/example/featherstar/featherstar/condition/Operator" "NOT_MATCHES" "Lcom/example/featherstar/featherstar/condition/Operator;" (.ref (w 9)) ∧ Exa Z h (w 10) "com/example/featherstar/featherstar/condition/Operator" ∧ Sta Z h "com/example/featherstar/featherstar/condition/Operator" "CONTAINS" "Lcom/example/featherstar/featherstar/condition/Operator;" (.ref (w 10)) ∧ Exa Z h (w 11) "com/example/featherstar/featherstar/condition/Operator" ∧ Sta Z h "com/example/featherstar/featherstar/condition/Operator" "STARTS_WITH" "Lcom/example/featherstar/featherstar/condition/Operator;" (.ref (w 11)) ∧ Exa Z h (w 12) "com/example/featherstar/featherstar/condition/Operator" ∧ Sta Z h "com/example/featherstar/featherstar/condition/Operator" "ENDS_WITH" "Lcom/example/featherstar/featherstar/condition/Operator;" (.ref (w 12)) ∧ Exa Z h (w 13) "com/example/featherstar/featherstar/condition/Operator" ∧ Sta Z h "com/example/featherstar/featherstar/condition/Operator" "EMPTY" "Lcom/example/featherstar/featherstar/condition/Operator;" (.ref (w 13)) ∧ Fld Z h (w 0) "java/lang/Enum" "ordinal" "I" (.int (0 : Int32)) ∧ Fld Z h (w 13) "java/lang/Enum" "ordinal" "I" (.int (13 : Int32)) ∧ Fld Z h (w 0) "com/example/featherstar/featherstar/condition/Operator" "negated" "Lcom/example/featherstar/featherstar/condition/Operator;" .null ∧ Fld Z h (w 3) "java/lang/Enum" "ordinal" "I" (.int (3 : Int32)) ∧ Fld Z h (w 3) "com/example/featherstar/featherstar/condition/Operator" "negated" "Lcom/example/featherstar/featherstar/condition/Operator;" .null ∧ Fld Z h (w 12) "java/lang/Enum" "ordinal" "I" (.int (12 : Int32)) ∧ Fld Z h (w 12) "com/example/featherstar/featherstar/condition/Operator" "negated" "Lcom/example/featherstar/featherstar/condition/Operator;" .null ∧ Fld Z h (w 13) "com/example/featherstar/featherstar/condition/Operator" "negated" "Lcom/example/featherstar/featherstar/condition/Operator;" .null ∧ Fld Z h (w 4) "java/lang/Enum" "ordinal" "I" (.int (4 : Int32)) ∧ Fld Z h (w 4) "com/example/featherstar/featherstar/condition/Operator" "negated" "Lcom/example/featherstar/featherstar/condition/Operator;" .null ∧ Fld Z h (w 7) "java/lang/Enum" "ordinal" "I" (.int (7 : Int32)) ∧ Fld Z h (w 7) "com/example/featherstar/featherstar/condition/Operator" "negated" "Lcom/example/featherstar/featherstar/condition/Operator;" (.ref (w 6)) ∧ Fld Z h (w 6) "java/lang/Enum" "ordinal" "I" (.int (6 : Int32)) ∧ Fld Z h (w 2) "java/lang/Enum" "ordinal" "I" (.int (2 : Int32)) ∧ Fld Z h (w 2) "com/example/featherstar/featherstar/condition/Operator" "negated" "Lcom/example/featherstar/featherstar/condition/Operator;" .null ∧ Fld Z h (w 11) "java/lang/Enum" "ordinal" "I" (.int (11 : Int32)) ∧ Fld Z h (w 11) "com/example/featherstar/featherstar/condition/Operator" "negated" "Lcom/example/featherstar/featherstar/condition/Operator;" .null ∧ Fld Z h (w 10) "java/lang/Enum" "ordinal" "I" (.int (10 : Int32)) ∧ Fld Z h (w 10) "com/example/featherstar/featherstar/condition/Operator" "negated" "Lcom/example/featherstar/featherstar/condition/Operator;" .null ∧ Fld Z h (w 8) "java/lang/Enum" "ordinal" "I" (.int (8 : Int32)) ∧ Fld Z h (w 8) "com/example/featherstar/featherstar/condition/Operator" "negated" "Lcom/example/featherstar/featherstar/condition/Operator;" .null ∧ Fld Z h (w 1) "java/lang/Enum" "ordinal" "I" (.int (1 : Int32)) ∧ Fld Z h (w 1) "com/example/featherstar/featherstar/condition/Operator" "negated" "Lcom/example/featherstar/featherstar/condition/Operator;" (.ref (w 0)) ∧ Fld Z h (w 9) "java/lang/Enum" "ordinal" "I" (.int (9 : Int32)) ∧ Fld Z h (w 9) "com/example/featherstar/featherstar/condition/Operator" "negated" "Lcom/example/featherstar/featherstar/condition/Operator;" (.ref (w 8)) ∧ Fld Z h (w 5) "java/lang/Enum" "ordinal" "I" (.int (5 : Int32)) ∧ Fld Z h (w 5) "com/example/featherstar/featherstar/condition/Operator" "negated" "Lcom/example/featherstar/featherstar/condition/Operator;" .null ∧ Fld Z h (w 6) "com/example/featherstar/featherstar/condition/Operator" "negated" "Lcom/example/featherstar/featherstar/condition/Operator;" .null
theorem pin_E0 {Z : State} {h : Heap} {w : Nat → Addr} (P : Pins Z h w) : Exa Z h (w 0) "com/example/featherstar/featherstar/condition/Operator" := P.1
theorem pin_S0 {Z : State} {h : Heap} {w : Nat → Addr} (P : Pins Z h w) : Sta Z h "com/example/featherstar/featherstar/condition/Operator" "EQUAL" "Lcom/example/featherstar/featherstar/condition/Operator;" (.ref (w 0)) := P.2.1
theorem pin_E1 {Z : State} {h : Heap} {w : Nat → Addr} (P : Pins Z h w) : Exa Z h (w 1) "com/example/featherstar/featherstar/condition/Operator" := P.2.2.1
theorem pin_S1 {Z : State} {h : Heap} {w : Nat → Addr} (P : Pins Z h w) : Sta Z h "com/example/featherstar/featherstar/condition/Operator" "NOT_EQUAL" "Lcom/example/featherstar/featherstar/condition/Operator;" (.ref (w 1)) := P.2.2.2.1
theorem pin_E2 {Z : State} {h : Heap} {w : Nat → Addr} (P : Pins Z h w) : Exa Z h (w 2) "com/example/featherstar/featherstar/condition/Operator" := P.2.2.2.2.1
theorem pin_S2 {Z : State} {h : Heap} {w : Nat → Addr} (P : Pins Z h w) : Sta Z h "com/example/featherstar/featherstar/condition/Operator" "LESS" "Lcom/example/featherstar/featherstar/condition/Operator;" (.ref (w 2)) := P.2.2.2.2.2.1
theorem pin_E3 {Z : State} {h : Heap} {w : Nat → Addr} (P : Pins Z h w) : Exa Z h (w 3) "com/example/featherstar/featherstar/condition/Operator" := P.2.2.2.2.2.2.1
theorem pin_S3 {Z : State} {h : Heap} {w : Nat → Addr} (P : Pins Z h w) : Sta Z h "com/example/featherstar/featherstar/condition/Operator" "LESS_OR_EQUAL" "Lcom/example/featherstar/featherstar/condition/Operator;" (.ref (w 3)) := P.2.2.2.2.2.2.2.1
theorem pin_E4 {Z : State} {h : Heap} {w : Nat → Addr} (P : Pins Z h w) : Exa Z h (w 4) "com/example/featherstar/featherstar/condition/Operator" := P.2.2.2.2.2.2.2.2.1
theorem pin_S4 {Z : State} {h : Heap} {w : Nat → Addr} (P : Pins Z h w) : Sta Z h "com/example/featherstar/featherstar/condition/Operator" "GREATER" "Lcom/example/featherstar/featherstar/condition/Operator;" (.ref (w 4)) := P.2.2.2.2.2.2.2.2.2.1
theorem pin_E5 {Z : State} {h : Heap} {w : Nat → Addr} (P : Pins Z h w) : Exa Z h (w 5) "com/example/featherstar/featherstar/condition/Operator" := P.2.2.2.2.2.2.2.2.2.2.1
theorem pin_S5 {Z : State} {h : Heap} {w : Nat → Addr} (P : Pins Z h w) : Sta Z h "com/example/featherstar/featherstar/condition/Operator" "GREATER_OR_EQUAL" "Lcom/example/featherstar/featherstar/condition/Operator;" (.ref (w 5)) := P.2.2.2.2.2.2.2.2.2.2.2.1
theorem pin_E6 {Z : State} {h : Heap} {w : Nat → Addr} (P : Pins Z h w) : Exa Z h (w 6) "com/example/featherstar/featherstar/condition/Operator" := P.2.2.2.2.2.2.2.2.2.2.2.2.1
theorem pin_S6 {Z : State} {h : Heap} {w : Nat → Addr} (P : Pins Z h w) : Sta Z h "com/example/featherstar/featherstar/condition/Operator" "EQUAL_IGNORING_CASE" "Lcom/example/featherstar/featherstar/condition/Operator;" (.ref (w 6)) := P.2.2.2.2.2.2.2.2.2.2.2.2.2.1
theorem pin_E7 {Z : State} {h : Heap} {w : Nat → Addr} (P : Pins Z h w) : Exa Z h (w 7) "com/example/featherstar/featherstar/condition/Operator" := P.2.2.2.2.2.2.2.2.2.2.2.2.2.2.1
theorem pin_S7 {Z : State} {h : Heap} {w : Nat → Addr} (P : Pins Z h w) : Sta Z h "com/example/featherstar/featherstar/condition/Operator" "NOT_EQUAL_IGNORING_CASE" "Lcom/example/featherstar/featherstar/condition/Operator;" (.ref (w 7)) := P.2.2.2.2.2.2.2.2.2.2.2.2.2.2.2.1
theorem pin_E8 {Z : State} {h : Heap} {w : Nat → Addr} (P : Pins Z h w) : Exa Z h (w 8) "com/example/featherstar/featherstar/condition/Operator" := P.2.2.2.2.2.2.2.2.2.2.2.2.2.2.2.2.1
theorem pin_S8 {Z : State} {h : Heap} {w : Nat → Addr} (P : Pins Z h w) : Sta Z h "com/example/featherstar/featherstar/condition/Operator" "MATCHES" "Lcom/example/featherstar/featherstar/condition/Operator;" (.ref (w 8)) := P.2.2.2.2.2.2.2.2.2.2.2.2.2.2.2.2.2.1
theorem pin_E9 {Z : State} {h : Heap} {w : Nat → Addr} (P : Pins Z h w) : Exa Z h (w 9) "com/example/featherstar/featherstar/condition/Operator" := P.2.2.2.2.2.2.2.2.2.2.2.2.2.2.2.2.2.2.1
theorem pin_S9 {Z : State} {h : Heap} {w : Nat → Addr} (P : Pins Z h w) : Sta Z h "com/example/featherstar/featherstar/condition/Operator" "NOT_MATCHES" "Lcom/example/featherstar/featherstar/condition/Operator;" (.ref (w 9)) := P.2.2.2.2.2.2.2.2.2.2.2.2.2.2.2.2.2.2.2.1
theorem pin_E10 {Z : State} {h : Heap} {w : Nat → Addr} (P : Pins Z h w) : Exa Z h (w 10) "com/example/featherstar/featherstar/condition/Operator" := P.2.2.2.2.2.2.2.2.2.2.2.2.2.2.2.2.2.2.2.2.1
theorem pin_S10 {Z : State} {h : Heap} {w : Nat → Addr} (P : Pins Z h w) : Sta Z h "com/example/featherstar/featherstar/condition/Operator" "CONTAINS" "Lcom/example/featherstar/featherstar/condition/Operator;" (.ref (w 10)) := P.2.2.2.2.2.2.2.2.2.2.2.2.2.2.2.2.2.2.2.2.2.1
theorem pin_E11 {Z : State} {h : Heap} {w : Nat → Addr} (P : Pins Z h w) : Exa Z h (w 11) "com/example/featherstar/featherstar/condition/Operator" := P.2.2.2.2.2.2.2.2.2.2.2.2.2.2.2.2.2.2.2.2.2.2.1
theorem pin_S11 {Z : State} {h : Heap} {w : Nat → Addr} (P : Pins Z h w) : Sta Z h "com/example/featherstar/featherstar/condition/Operator" "STARTS_WITH" "Lcom/example/featherstar/featherstar/condition/Operator;" (.ref (w 11)) := P.2.2.2.2.2.2.2.2.2.2.2.2.2.2.2.2.2.2.2.2.2.2.2.1
theorem pin_E12 {Z : State} {h : Heap} {w : Nat → Addr} (P : Pins Z h w) : Exa Z h (w 12) "com/example/featherstar/featherstar/condition/Operator" := P.2.2.2.2.2.2.2.2.2.2.2.2.2.2.2.2.2.2.2.2.2.2.2.2.1
theorem pin_S12 {Z : State} {h : Heap} {w : Nat → Addr} (P : Pins Z h w) : Sta Z h "com/example/featherstar/featherstar/condition/Operator" "ENDS_WITH" "Lcom/example/featherstar/featherstar/condition/Operator;" (.ref (w 12)) := P.2.2.2.2.2.2.2.2.2.2.2.2.2.2.2.2.2.2.2.2.2.2.2.2.2.1
theorem pin_E13 {Z : State} {h : Heap} {w : Nat → Addr} (P : Pins Z h w) : Exa Z h (w 13) "com/example/featherstar/featherstar/condition/Operator" := P.2.2.2.2.2.2.2.2.2.2.2.2.2.2.2.2.2.2.2.2.2.2.2.2.2.2.1
theorem pin_S13 {Z : State} {h : Heap} {w : Nat → Addr} (P : Pins Z h w) : Sta Z h "com/example/featherstar/featherstar/condition/Operator" "EMPTY" "Lcom/example/featherstar/featherstar/condition/Operator;" (.ref (w 13)) := P.2.2.2.2.2.2.2.2.2.2.2.2.2.2.2.2.2.2.2.2.2.2.2.2.2.2.2.1
theorem pin_F0_ordinal {Z : State} {h : Heap} {w : Nat → Addr} (P : Pins Z h w) : Fld Z h (w 0) "java/lang/Enum" "ordinal" "I" (.int (0 : Int32)) := P.2.2.2.2.2.2.2.2.2.2.2.2.2.2.2.2.2.2.2.2.2.2.2.2.2.2.2.2.1
theorem pin_F13_ordinal {Z : State} {h : Heap} {w : Nat → Addr} (P : Pins Z h w) : Fld Z h (w 13) "java/lang/Enum" "ordinal" "I" (.int (13 : Int32)) := P.2.2.2.2.2.2.2.2.2.2.2.2.2.2.2.2.2.2.2.2.2.2.2.2.2.2.2.2.2.1
theorem pin_F0_negated {Z : State} {h : Heap} {w : Nat → Addr} (P : Pins Z h w) : Fld Z h (w 0) "com/example/featherstar/featherstar/condition/Operator" "negated" "Lcom/example/featherstar/featherstar/condition/Operator;" .null := P.2.2.2.2.2.2.2.2.2.2.2.2.2.2.2.2.2.2.2.2.2.2.2.2.2.2.2.2.2.2.1
theorem pin_F3_ordinal {Z : State} {h : Heap} {w : Nat → Addr} (P : Pins Z h w) : Fld Z h (w 3) "java/lang/Enum" "ordinal" "I" (.int (3 : Int32)) := P.2.2.2.2.2.2.2.2.2.2.2.2.2.2.2.2.2.2.2.2.2.2.2.2.2.2.2.2.2.2.2.1
theorem pin_F3_negated {Z : State} {h : Heap} {w : Nat → Addr} (P : Pins Z h w) : Fld Z h (w 3) "com/example/featherstar/featherstar/condition/Operator" "negated" "Lcom/example/featherstar/featherstar/condition/Operator;" .null := P.2.2.2.2.2.2.2.2.2.2.2.2.2.2.2.2.2.2.2.2.2.2.2.2.2.2.2.2.2.2.2.2.1
theorem pin_F12_ordinal {Z : State} {h : Heap} {w : Nat → Addr} (P : Pins Z h w) : Fld Z h (w 12) "java/lang/Enum" "ordinal" "I" (.int (12 : Int32)) := P.2.2.2.2.2.2.2.2.2.2.2.2.2.2.2.2.2.2.2.2.2.2.2.2.2.2.2.2.2.2.2.2.2.1
theorem pin_F12_negated {Z : State} {h : Heap} {w : Nat → Addr} (P : Pins Z h w) : Fld Z h (w 12) "com/example/featherstar/featherstar/condition/Operator" "negated" "Lcom/example/featherstar/featherstar/condition/Operator;" .null := P.2.2.2.2.2.2.2.2.2.2.2.2.2.2.2.2.2.2.2.2.2.2.2.2.2.2.2.2.2.2.2.2.2.2.1
theorem pin_F13_negated {Z : State} {h : Heap} {w : Nat → Addr} (P : Pins Z h w) : Fld Z h (w 13) "com/example/featherstar/featherstar/condition/Operator" "negated" "Lcom/example/featherstar/featherstar/condition/Operator;" .null := P.2.2.2.2.2.2.2.2.2.2.2.2.2.2.2.2.2.2.2.2.2.2.2.2.2.2.2.2.2.2.2.2.2.2.2.1
theorem pin_F4_ordinal {Z : State} {h : Heap} {w : Nat → Addr} (P : Pins Z h w) : Fld Z h (w 4) "java/lang/Enum" "ordinal" "I" (.int (4 : Int32)) := P.2.2.2.2.2.2.2.2.2.2.2.2.2.2.2.2.2.2.2.2.2.2.2.2.2.2.2.2.2.2.2.2.2.2.2.2.1
theorem pin_F4_negated {Z : State} {h : Heap} {w : Nat → Addr} (P : Pins Z h w) : Fld Z h (w 4) "com/example/featherstar/featherstar/condition/Operator" "negated" "Lcom/example/featherstar/featherstar/condition/Operator;" .null := P.2.2.2.2.2.2.2.2.2.2.2.2.2.2.2.2.2.2.2.2.2.2.2.2.2.2.2.2.2.2.2.2.2.2.2.2.2.1
theorem pin_F7_ordinal {Z : State} {h : Heap} {w : Nat → Addr} (P : Pins Z h w) : Fld Z h (w 7) "java/lang/Enum" "ordinal" "I" (.int (7 : Int32)) := P.2.2.2.2.2.2.2.2.2.2.2.2.2.2.2.2.2.2.2.2.2.2.2.2.2.2.2.2.2.2.2.2.2.2.2.2.2.2.1
theorem pin_F7_negated {Z : State} {h : Heap} {w : Nat → Addr} (P : Pins Z h w) : Fld Z h (w 7) "com/example/featherstar/featherstar/condition/Operator" "negated" "Lcom/example/featherstar/featherstar/condition/Operator;" (.ref (w 6)) := P.2.2.2.2.2.2.2.2.2.2.2.2.2.2.2.2.2.2.2.2.2.2.2.2.2.2.2.2.2.2.2.2.2.2.2.2.2.2.2.1
theorem pin_F6_ordinal {Z : State} {h : Heap} {w : Nat → Addr} (P : Pins Z h w) : Fld Z h (w 6) "java/lang/Enum" "ordinal" "I" (.int (6 : Int32)) := P.2.2.2.2.2.2.2.2.2.2.2.2.2.2.2.2.2.2.2.2.2.2.2.2.2.2.2.2.2.2.2.2.2.2.2.2.2.2.2.2.1
theorem pin_F2_ordinal {Z : State} {h : Heap} {w : Nat → Addr} (P : Pins Z h w) : Fld Z h (w 2) "java/lang/Enum" "ordinal" "I" (.int (2 : Int32)) := P.2.2.2.2.2.2.2.2.2.2.2.2.2.2.2.2.2.2.2.2.2.2.2.2.2.2.2.2.2.2.2.2.2.2.2.2.2.2.2.2.2.1
theorem pin_F2_negated {Z : State} {h : Heap} {w : Nat → Addr} (P : Pins Z h w) : Fld Z h (w 2) "com/example/featherstar/featherstar/condition/Operator" "negated" "Lcom/example/featherstar/featherstar/condition/Operator;" .null := P.2.2.2.2.2.2.2.2.2.2.2.2.2.2.2.2.2.2.2.2.2.2.2.2.2.2.2.2.2.2.2.2.2.2.2.2.2.2.2.2.2.2.1
theorem pin_F11_ordinal {Z : State} {h : Heap} {w : Nat → Addr} (P : Pins Z h w) : Fld Z h (w 11) "java/lang/Enum" "ordinal" "I" (.int (11 : Int32)) := P.2.2.2.2.2.2.2.2.2.2.2.2.2.2.2.2.2.2.2.2.2.2.2.2.2.2.2.2.2.2.2.2.2.2.2.2.2.2.2.2.2.2.2.1
theorem pin_F11_negated {Z : State} {h : Heap} {w : Nat → Addr} (P : Pins Z h w) : Fld Z h (w 11) "com/example/featherstar/featherstar/condition/Operator" "negated" "Lcom/example/featherstar/featherstar/condition/Operator;" .null := P.2.2.2.2.2.2.2.2.2.2.2.2.2.2.2.2.2.2.2.2.2.2.2.2.2.2.2.2.2.2.2.2.2.2.2.2.2.2.2.2.2.2.2.2.1
theorem pin_F10_ordinal {Z : State} {h : Heap} {w : Nat → Addr} (P : Pins Z h w) : Fld Z h (w 10) "java/lang/Enum" "ordinal" "I" (.int (10 : Int32)) := P.2.2.2.2.2.2.2.2.2.2.2.2.2.2.2.2.2.2.2.2.2.2.2.2.2.2.2.2.2.2.2.2.2.2.2.2.2.2.2.2.2.2.2.2.2.1
theorem pin_F10_negated {Z : State} {h : Heap} {w : Nat → Addr} (P : Pins Z h w) : Fld Z h (w 10) "com/example/featherstar/featherstar/condition/Operator" "negated" "Lcom/example/featherstar/featherstar/condition/Operator;" .null := P.2.2.2.2.2.2.2.2.2.2.2.2.2.2.2.2.2.2.2.2.2.2.2.2.2.2.2.2.2.2.2.2.2.2.2.2.2.2.2.2.2.2.2.2.2.2.1
theorem pin_F8_ordinal {Z : State} {h : Heap} {w : Nat → Addr} (P : Pins Z h w) : Fld Z h (w 8) "java/lang/Enum" "ordinal" "I" (.int (8 : Int32)) := P.2.2.2.2.2.2.2.2.2.2.2.2.2.2.2.2.2.2.2.2.2.2.2.2.2.2.2.2.2.2.2.2.2.2.2.2.2.2.2.2.2.2.2.2.2.2.2.1
theorem pin_F8_negated {Z : State} {h : Heap} {w : Nat → Addr} (P : Pins Z h w) : Fld Z h (w 8) "com/example/featherstar/featherstar/condition/Operator" "negated" "Lcom/example/featherstar/featherstar/condition/Operator;" .null := P.2.2.2.2.2.2.2.2.2.2.2.2.2.2.2.2.2.2.2.2.2.2.2.2.2.2.2.2.2.2.2.2.2.2.2.2.2.2.2.2.2.2.2.2.2.2.2.2.1
theorem pin_F1_ordinal {Z : State} {h : Heap} {w : Nat → Addr} (P : Pins Z h w) : Fld Z h (w 1) "java/lang/Enum" "ordinal" "I" (.int (1 : Int32)) := P.2.2.2.2.2.2.2.2.2.2.2.2.2.2.2.2.2.2.2.2.2.2.2.2.2.2.2.2.2.2.2.2.2.2.2.2.2.2.2.2.2.2.2.2.2.2.2.2.2.1
theorem pin_F1_negated {Z : State} {h : Heap} {w : Nat → Addr} (P : Pins Z h w) : Fld Z h (w 1) "com/example/featherstar/featherstar/condition/Operator" "negated" "Lcom/example/featherstar/featherstar/condition/Operator;" (.ref (w 0)) := P.2.2.2.2.2.2.2.2.2.2.2.2.2.2.2.2.2.2.2.2.2.2.2.2.2.2.2.2.2.2.2.2.2.2.2.2.2.2.2.2.2.2.2.2.2.2.2.2.2.2.1
theorem pin_F9_ordinal {Z : State} {h : Heap} {w : Nat → Addr} (P : Pins Z h w) : Fld Z h (w 9) "java/lang/Enum" "ordinal" "I" (.int (9 : Int32)) := P.2.2.2.2.2.2.2.2.2.2.2.2.2.2.2.2.2.2.2.2.2.2.2.2.2.2.2.2.2.2.2.2.2.2.2.2.2.2.2.2.2.2.2.2.2.2.2.2.2.2.2.1
theorem pin_F9_negated {Z : State} {h : Heap} {w : Nat → Addr} (P : Pins Z h w) : Fld Z h (w 9) "com/example/featherstar/featherstar/condition/Operator" "negated" "Lcom/example/featherstar/featherstar/condition/Operator;" (.ref (w 8)) := P.2.2.2.2.2.2.2.2.2.2.2.2.2.2.2.2.2.2.2.2.2.2.2.2.2.2.2.2.2.2.2.2.2.2.2.2.2.2.2.2.2.2.2.2.2.2.2.2.2.2.2.2.1
theorem pin_F5_ordinal {Z : State} {h : Heap} {w : Nat → Addr} (P : Pins Z h w) : Fld Z h (w 5) "java/lang/Enum" "ordinal" "I" (.int (5 : Int32)) := P.2.2.2.2.2.2.2.2.2.2.2.2.2.2.2.2.2.2.2.2.2.2.2.2.2.2.2.2.2.2.2.2.2.2.2.2.2.2.2.2.2.2.2.2.2.2.2.2.2.2.2.2.2.1
theorem pin_F5_negated {Z : State} {h : Heap} {w : Nat → Addr} (P : Pins Z h w) : Fld Z h (w 5) "com/example/featherstar/featherstar/condition/Operator" "negated" "Lcom/example/featherstar/featherstar/condition/Operator;" .null := P.2.2.2.2.2.2.2.2.2.2.2.2.2.2.2.2.2.2.2.2.2.2.2.2.2.2.2.2.2.2.2.2.2.2.2.2.2.2.2.2.2.2.2.2.2.2.2.2.2.2.2.2.2.2.1
theorem pin_F6_negated {Z : State} {h : Heap} {w : Nat → Addr} (P : Pins Z h w) : Fld Z h (w 6) "com/example/featherstar/featherstar/condition/Operator" "negated" "Lcom/example/featherstar/featherstar/condition/Operator;" .null := P.2.2.2.2.2.2.2.2.2.2.2.2.2.2.2.2.2.2.2.2.2.2.2.2.2.2.2.2.2.2.2.2.2.2.2.2.2.2.2.2.2.2.2.2.2.2.2.2.2.2.2.2.2.2.2
theorem Pins.ext {Z : State} {h h' : Heap} {w : Nat → Addr} (E : Ext h h') (P : Pins Z h w) : Pins Z h' w := ⟨Exa.ext E (pin_E0 P), Sta.ext E (pin_S0 P), Exa.ext E (pin_E1 P), Sta.ext E (pin_S1 P), Exa.ext E (pin_E2 P), Sta.ext E (pin_S2 P), Exa.ext E (pin_E3 P), Sta.ext E (pin_S3 P), Exa.ext E (pin_E4 P), Sta.ext E (pin_S4 P), Exa.ext E (pin_E5 P), Sta.ext E (pin_S5 P), Exa.ext E (pin_E6 P), Sta.ext E (pin_S6 P), Exa.ext E (pin_E7 P), Sta.ext E (pin_S7 P), Exa.ext E (pin_E8 P), Sta.ext E (pin_S8 P), Exa.ext E (pin_E9 P), Sta.ext E (pin_S9 P), Exa.ext E (pin_E10 P), Sta.ext E (pin_S10 P), Exa.ext E (pin_E11 P), Sta.ext E (pin_S11 P), Exa.ext E (pin_E12 P), Sta.ext E (pin_S12 P), Exa.ext E (pin_E13 P), Sta.ext E (pin_S13 P), Fld.ext E (pin_F0_ordinal P), Fld.ext E (pin_F13_ordinal P), Fld.ext E (pin_F0_negated P), Fld.ext E (pin_F3_ordinal P), Fld.ext E (pin_F3_negated P), Fld.ext E (pin_F12_ordinal P), Fld.ext E (pin_F12_negated P), Fld.ext E (pin_F13_negated P), Fld.ext E (pin_F4_ordinal P), Fld.ext E (pin_F4_negated P), Fld.ext E (pin_F7_ordinal P), Fld.ext E (pin_F7_negated P), Fld.ext E (pin_F6_ordinal P), Fld.ext E (pin_F2_ordinal P), Fld.ext E (pin_F2_negated P), Fld.ext E (pin_F11_ordinal P), Fld.ext E (pin_F11_negated P), Fld.ext E (pin_F10_ordinal P), Fld.ext E (pin_F10_negated P), Fld.ext E (pin_F8_ordinal P), Fld.ext E (pin_F8_negated P), Fld.ext E (pin_F1_ordinal P), Fld.ext E (pin_F1_negated P), Fld.ext E (pin_F9_ordinal P), Fld.ext E (pin_F9_negated P), Fld.ext E (pin_F5_ordinal P), Fld.ext E (pin_F5_negated P), Fld.ext E (pin_F6_negated P)⟩
set_option maxRecDepth 65536 in
theorem own_pins {s : State} {args : Array Value} (hw : ∀ d ∈ tables_1, d.before args s = true) (hn : narrow_1.value args s none s [] = some true) : ∃ w, Pins s s.heap w := by
  obtain ⟨c0, hn⟩ := and_e hn
  obtain ⟨c1, hn⟩ := and_e hn
  obtain ⟨c2, hn⟩ := and_e hn
  obtain ⟨c3, hn⟩ := and_e hn
  obtain ⟨c4, hn⟩ := and_e hn
  obtain ⟨c5, hn⟩ := and_e hn
  obtain ⟨c6, hn⟩ := and_e hn
  obtain ⟨c7, hn⟩ := and_e hn
  obtain ⟨c8, hn⟩ := and_e hn
  obtain ⟨c9, hn⟩ := and_e hn
  obtain ⟨c10, hn⟩ := and_e hn
  obtain ⟨c11, hn⟩ := and_e hn
  obtain ⟨c12, hn⟩ := and_e hn
  obtain ⟨c13, hn⟩ := and_e hn
  obtain ⟨c14, hn⟩ := and_e hn
  obtain ⟨c15, hn⟩ := and_e hn
  obtain ⟨c16, hn⟩ := and_e hn
  obtain ⟨c17, hn⟩ := and_e hn
  obtain ⟨c18, hn⟩ := and_e hn
  obtain ⟨c19, hn⟩ := and_e hn
  obtain ⟨c20, hn⟩ := and_e hn
  obtain ⟨c21, hn⟩ := and_e hn
  obtain ⟨c22, hn⟩ := and_e hn
  obtain ⟨c23, hn⟩ := and_e hn
  obtain ⟨c24, hn⟩ := and_e hn
  obtain ⟨c25, hn⟩ := and_e hn
  obtain ⟨c26, hn⟩ := and_e hn
  obtain ⟨c27, hn⟩ := and_e hn
  obtain ⟨c28, hn⟩ := and_e hn
  obtain ⟨c29, hn⟩ := and_e hn
  obtain ⟨c30, hn⟩ := and_e hn
  obtain ⟨c31, hn⟩ := and_e hn
  obtain ⟨c32, hn⟩ := and_e hn
  obtain ⟨c33, hn⟩ := and_e hn
  obtain ⟨c34, hn⟩ := and_e hn
  obtain ⟨c35, hn⟩ := and_e hn
  obtain ⟨c36, hn⟩ := and_e hn
  obtain ⟨c37, hn⟩ := and_e hn
  obtain ⟨c38, hn⟩ := and_e hn
  obtain ⟨c39, hn⟩ := and_e hn
  obtain ⟨c40, hn⟩ := and_e hn
  have c41 := hn
  obtain ⟨a0, ev0⟩ := exa_v c0
  obtain ⟨a1, ev1⟩ := exa_v c1
  obtain ⟨a2, ev2⟩ := exa_v c2
  obtain ⟨a3, ev3⟩ := exa_v c3
  obtain ⟨a4, ev4⟩ := exa_v c4
  obtain ⟨a5, ev5⟩ := exa_v c5
  obtain ⟨a6, ev6⟩ := exa_v c6
  obtain ⟨a7, ev7⟩ := exa_v c7
  obtain ⟨a8, ev8⟩ := exa_v c8
  obtain ⟨a9, ev9⟩ := exa_v c9
  obtain ⟨a10, ev10⟩ := exa_v c10
  obtain ⟨a11, ev11⟩ := exa_v c11
  obtain ⟨a12, ev12⟩ := exa_v c12
  obtain ⟨a13, ev13⟩ := exa_v c13
  have E0 := Exa.start ev0 c0
  have S0 := Sta.start ev0 (Or.inr ⟨(hw _ (List.mem_of_getElem? (i := 3) rfl)), (hw _ (List.mem_of_getElem? (i := 4) rfl))⟩)
  have E1 := Exa.start ev1 c1
  have S1 := Sta.start ev1 (Or.inr ⟨(hw _ (List.mem_of_getElem? (i := 3) rfl)), (hw _ (List.mem_of_getElem? (i := 7) rfl))⟩)
  have E2 := Exa.start ev2 c2
  have S2 := Sta.start ev2 (Or.inr ⟨(hw _ (List.mem_of_getElem? (i := 3) rfl)), (hw _ (List.mem_of_getElem? (i := 9) rfl))⟩)
  have E3 := Exa.start ev3 c3
  have S3 := Sta.start ev3 (Or.inr ⟨(hw _ (List.mem_of_getElem? (i := 3) rfl)), (hw _ (List.mem_of_getElem? (i := 11) rfl))⟩)
  have E4 := Exa.start ev4 c4
  have S4 := Sta.start ev4 (Or.inr ⟨(hw _ (List.mem_of_getElem? (i := 3) rfl)), (hw _ (List.mem_of_getElem? (i := 13) rfl))⟩)
  have E5 := Exa.start ev5 c5
  have S5 := Sta.start ev5 (Or.inr ⟨(hw _ (List.mem_of_getElem? (i := 3) rfl)), (hw _ (List.mem_of_getElem? (i := 15) rfl))⟩)
  have E6 := Exa.start ev6 c6
  have S6 := Sta.start ev6 (Or.inr ⟨(hw _ (List.mem_of_getElem? (i := 3) rfl)), (hw _ (List.mem_of_getElem? (i := 17) rfl))⟩)
  have E7 := Exa.start ev7 c7
  have S7 := Sta.start ev7 (Or.inr ⟨(hw _ (List.mem_of_getElem? (i := 3) rfl)), (hw _ (List.mem_of_getElem? (i := 19) rfl))⟩)
  have E8 := Exa.start ev8 c8
  have S8 := Sta.start ev8 (Or.inr ⟨(hw _ (List.mem_of_getElem? (i := 3) rfl)), (hw _ (List.mem_of_getElem? (i := 21) rfl))⟩)
  have E9 := Exa.start ev9 c9
  have S9 := Sta.start ev9 (Or.inr ⟨(hw _ (List.mem_of_getElem? (i := 3) rfl)), (hw _ (List.mem_of_getElem? (i := 23) rfl))⟩)
  have E10 := Exa.start ev10 c10
  have S10 := Sta.start ev10 (Or.inr ⟨(hw _ (List.mem_of_getElem? (i := 3) rfl)), (hw _ (List.mem_of_getElem? (i := 25) rfl))⟩)
  have E11 := Exa.start ev11 c11
  have S11 := Sta.start ev11 (Or.inr ⟨(hw _ (List.mem_of_getElem? (i := 3) rfl)), (hw _ (List.mem_of_getElem? (i := 27) rfl))⟩)
  have E12 := Exa.start ev12 c12
  have S12 := Sta.start ev12 (Or.inr ⟨(hw _ (List.mem_of_getElem? (i := 3) rfl)), (hw _ (List.mem_of_getElem? (i := 29) rfl))⟩)
  have E13 := Exa.start ev13 c13
  have S13 := Sta.start ev13 (Or.inr ⟨(hw _ (List.mem_of_getElem? (i := 3) rfl)), (hw _ (List.mem_of_getElem? (i := 31) rfl))⟩)
  have F0_ordinal := own_fldI ev0 c14
  have F13_ordinal := own_fldI ev13 c15
  have F0_negated := own_fldN ev0 c16
  have F3_ordinal := own_fldI ev3 c17
  have F3_negated := own_fldN ev3 c18
  have F12_ordinal := own_fldI ev12 c19
  have F12_negated := own_fldN ev12 c20
  have F13_negated := own_fldN ev13 c21
  have F4_ordinal := own_fldI ev4 c22
  have F4_negated := own_fldN ev4 c23
  have F7_ordinal := own_fldI ev7 c24
  have F7_negated := own_fldR ev7 ev6 c25
  have F6_ordinal := own_fldI ev6 c26
  have F2_ordinal := own_fldI ev2 c27
  have F2_negated := own_fldN ev2 c28
  have F11_ordinal := own_fldI ev11 c29
  have F11_negated := own_fldN ev11 c30
  have F10_ordinal := own_fldI ev10 c31
  have F10_negated := own_fldN ev10 c32
  have F8_ordinal := own_fldI ev8 c33
  have F8_negated := own_fldN ev8 c34
  have F1_ordinal := own_fldI ev1 c35
  have F1_negated := own_fldR ev1 ev0 c36
  have F9_ordinal := own_fldI ev9 c37
  have F9_negated := own_fldR ev9 ev8 c38
  have F5_ordinal := own_fldI ev5 c39
  have F5_negated := own_fldN ev5 c40
  have F6_negated := own_fldN ev6 c41
  exact ⟨fun i => [a0, a1, a2, a3, a4, a5, a6, a7, a8, a9, a10, a11, a12, a13].getD i 0, E0, S0, E1, S1, E2, S2, E3, S3, E4, S4, E5, S5, E6, S6, E7, S7, E8, S8, E9, S9, E10, S10, E11, S11, E12, S12, E13, S13, F0_ordinal, F13_ordinal, F0_negated, F3_ordinal, F3_negated, F12_ordinal, F12_negated, F13_negated, F4_ordinal, F4_negated, F7_ordinal, F7_negated, F6_ordinal, F2_ordinal, F2_negated, F11_ordinal, F11_negated, F10_ordinal, F10_negated, F8_ordinal, F8_negated, F1_ordinal, F1_negated, F9_ordinal, F9_negated, F5_ordinal, F5_negated, F6_negated⟩
set_option maxRecDepth 65536 in
set_option maxHeartbeats 40000000 in
theorem own_fill {p : Program} {l : Launch} {e : Env} {s : State} {m : MethodId} {args : Array Value} {below : List Frame} {meth : Method} {c : Code} {s₁ : State} {Z : State} {a0 : Array Value} {h0 : Heap} {n0 : Nat} {w : Nat → Addr} {Q : Outcome → State → Prop} (p1 : Int32)
    (X0 : Stand p l e room_1 s m args below meth c s₁ [] 0 0) (hx : p.tables.exec = Jvm.exec) (hZ : Z.Warmed39 s.vm) (hw : ∀ d ∈ tables_1, d.before a0 Z = true) (hby : c.code = code) (hml : c.maxLocals = 7) (hown : s.vm.findClass "com/example/featherstar/featherstar/condition/OperatorTakesOperandPinLaw" = some m.cls) (e0 : s₁.heap = h0) (N0 : Fr n0 []) (Z0 : n0 ≤ h0.size) (P : Pins Z h0 w)
    (kt : ∀ (T1 : State) (h1 : Heap) (L1 : List Loc) (k1 : ClassId) (b1 : Addr), Stand p l e room_1 s m args below meth c T1 L1 (0 + 1) (0 + 14) → T1.heap = h1 → Ext h0 h1 → Fr n0 L1 → Arv Z h1 b1 k1 (.object "com/example/featherstar/featherstar/condition/Operator") (14 : Int32) [(.ref (w 0)), (.ref (w 1)), (.ref (w 2)), (.ref (w 3)), (.ref (w 4)), (.ref (w 5)), (.ref (w 6)), (.ref (w 7)), (.ref (w 8)), (.ref (w 9)), (.ref (w 10)), (.ref (w 11)), (.ref (w 12)), (.ref (w 13))] .null → own_Done p e below (T1.setTop (mkF m 97 #[.val (.int p1), .unset, .unset, .unset, .unset, .unset, .unset] [(.ref b1)])) Q) :
    own_Done p e below (s₁.setTop (mkF m 0 #[.val (.int p1), .unset, .unset, .unset, .unset, .unset, .unset] [])) Q := by
  refine own_step (W' := s₁.setTop (mkF m 2 #[.val (.int p1), .unset, .unset, .unset, .unset, .unset, .unset] [(.int (14 : Int32))])) (fun _ k => XS.bipush X0.here hx rfl (hb hby at_0) k) ?_
  obtain ⟨T1, h1, k1, X1, e1, F1, A1, O1, st1⟩ := newR X0 hx hZ hown (hw _ (List.mem_of_getElem? (i := 0) rfl)) (hw _ (List.mem_of_getElem? (i := 1) rfl)) e0 (g := (mkF m 2 #[.val (.int p1), .unset, .unset, .unset, .unset, .unset, .unset] [(.int (14 : Int32))])) rfl (hb hby at_2) rfl (by decide) (cap := 14) (by decide) (by decide) (by decide) (by decide)
  obtain ⟨b1, g1⟩ : ∃ z, z = h0.size := ⟨_, rfl⟩
  rw [← g1] at A1 st1
  have V1 : Arv Z h1 b1 k1 (.object "com/example/featherstar/featherstar/condition/Operator") (14 : Int32) [.null, .null, .null, .null, .null, .null, .null, .null, .null, .null, .null, .null, .null, .null] .null := own_new A1 (by decide) rfl
  have E1 : Ext h0 h1 := F1
  have sz_b1 : h0.size ≤ b1 := by rw [g1]; exact Nat.le_refl _
  have gn_b1 : n0 ≤ b1 := Nat.le_trans Z0 sz_b1
  have P1 : Pins Z h1 w := P.ext E1
  have Z1 : n0 ≤ h1.size := Nat.le_trans Z0 E1.1
  refine own_step (W' := T1.setTop (mkF m 5 #[.val (.int p1), .unset, .unset, .unset, .unset, .unset, .unset] [(.ref b1)])) (fun _ k => st1 _ k) ?_
  refine own_step (W' := T1.setTop (mkF m 6 #[.val (.int p1), .unset, .unset, .unset, .unset, .unset, .unset] [(.ref b1), (.ref b1)])) (fun _ k => XS.dup X1.here hx rfl (hb hby at_5) rfl rfl k) ?_
  refine own_step (W' := T1.setTop (mkF m 7 #[.val (.int p1), .unset, .unset, .unset, .unset, .unset, .unset] [(.int (0 : Int32)), (.ref b1), (.ref b1)])) (fun _ k => XS.iconst X1.here hx rfl (hb hby at_6) k) ?_
  obtain ⟨T2, X2, e2, st2⟩ := getS2 X1 hx hZ hown (host := "") (Or.inl (hw _ (List.mem_of_getElem? (i := 2) rfl))) Via.refl e1 (pin_S0 P1) (g := (mkF m 7 #[.val (.int p1), .unset, .unset, .unset, .unset, .unset, .unset] [(.int (0 : Int32)), (.ref b1), (.ref b1)])) rfl (hb hby at_7)
  refine own_step (W' := T2.setTop (mkF m 10 #[.val (.int p1), .unset, .unset, .unset, .unset, .unset, .unset] [(.ref (w 0)), (.int (0 : Int32)), (.ref b1), (.ref b1)])) (fun _ k => st2 _ k) ?_
  obtain ⟨T3, h3, L3, X3, e3, E3, N3, W3, st3⟩ := own_stR X2 hx hZ e2 V1 O1 (pin_E0 P1) (j := (0 : Int32)) (i := 0) ⟨by decide, by decide⟩ rfl (Nat.le_of_ble_eq_true rfl) E1 sz_b1 N0 gn_b1 (g := (mkF m 10 #[.val (.int p1), .unset, .unset, .unset, .unset, .unset, .unset] [(.ref (w 0)), (.int (0 : Int32)), (.ref b1), (.ref b1)])) rfl rfl (hb hby at_10)
  have V3 : Arv Z h3 b1 k1 (.object "com/example/featherstar/featherstar/condition/Operator") (14 : Int32) [(.ref (w 0)), .null, .null, .null, .null, .null, .null, .null, .null, .null, .null, .null, .null, .null] .null := W3
  have P3 : Pins Z h3 w := P.ext E3
  have Z3 : n0 ≤ h3.size := Nat.le_trans Z0 E3.1
  refine own_step (W' := T3.setTop (mkF m 11 #[.val (.int p1), .unset, .unset, .unset, .unset, .unset, .unset] [(.ref b1)])) (fun _ k => st3 _ k) ?_
  refine own_step (W' := T3.setTop (mkF m 12 #[.val (.int p1), .unset, .unset, .unset, .unset, .unset, .unset] [(.ref b1), (.ref b1)])) (fun _ k => XS.dup X3.here hx rfl (hb hby at_11) rfl rfl k) ?_
  refine own_step (W' := T3.setTop (mkF m 13 #[.val (.int p1), .unset, .unset, .unset, .unset, .unset, .unset] [(.int (1 : Int32)), (.ref b1), (.ref b1)])) (fun _ k => XS.iconst X3.here hx rfl (hb hby at_12) k) ?_
  obtain ⟨T4, X4, e4, st4⟩ := getS2 X3 hx hZ hown (host := "") (Or.inl (hw _ (List.mem_of_getElem? (i := 6) rfl))) Via.refl e3 (pin_S1 P3) (g := (mkF m 13 #[.val (.int p1), .unset, .unset, .unset, .unset, .unset, .unset] [(.int (1 : Int32)), (.ref b1), (.ref b1)])) rfl (hb hby at_13)
  refine own_step (W' := T4.setTop (mkF m 16 #[.val (.int p1), .unset, .unset, .unset, .unset, .unset, .unset] [(.ref (w 1)), (.int (1 : Int32)), (.ref b1), (.ref b1)])) (fun _ k => st4 _ k) ?_
  obtain ⟨T5, h5, L5, X5, e5, E5, N5, W5, st5⟩ := own_stR X4 hx hZ e4 V3 O1 (pin_E1 P3) (j := (1 : Int32)) (i := 1) ⟨by decide, by decide⟩ rfl (Nat.le_of_ble_eq_true rfl) E3 sz_b1 N3 gn_b1 (g := (mkF m 16 #[.val (.int p1), .unset, .unset, .unset, .unset, .unset, .unset] [(.ref (w 1)), (.int (1 : Int32)), (.ref b1), (.ref b1)])) rfl rfl (hb hby at_16)
  have V5 : Arv Z h5 b1 k1 (.object "com/example/featherstar/featherstar/condition/Operator") (14 : Int32) [(.ref (w 0)), (.ref (w 1)), .null, .null, .null, .null, .null, .null, .null, .null, .null, .null, .null, .null] .null := W5
  have P5 : Pins Z h5 w := P.ext E5
  have Z5 : n0 ≤ h5.size := Nat.le_trans Z0 E5.1
  refine own_step (W' := T5.setTop (mkF m 17 #[.val (.int p1), .unset, .unset, .unset, .unset, .unset, .unset] [(.ref b1)])) (fun _ k => st5 _ k) ?_
  refine own_step (W' := T5.setTop (mkF m 18 #[.val (.int p1), .unset, .unset, .unset, .unset, .unset, .unset] [(.ref b1), (.ref b1)])) (fun _ k => XS.dup X5.here hx rfl (hb hby at_17) rfl rfl k) ?_
  refine own_step (W' := T5.setTop (mkF m 19 #[.val (.int p1), .unset, .unset, .unset, .unset, .unset, .unset] [(.int (2 : Int32)), (.ref b1), (.ref b1)])) (fun _ k => XS.iconst X5.here hx rfl (hb hby at_18) k) ?_
  obtain ⟨T6, X6, e6, st6⟩ := getS2 X5 hx hZ hown (host := "") (Or.inl (hw _ (List.mem_of_getElem? (i := 8) rfl))) Via.refl e5 (pin_S2 P5) (g := (mkF m 19 #[.val (.int p1), .unset, .unset, .unset, .unset, .unset, .unset] [(.int (2 : Int32)), (.ref b1), (.ref b1)])) rfl (hb hby at_19)
  refine own_step (W' := T6.setTop (mkF m 22 #[.val (.int p1), .unset, .unset, .unset, .unset, .unset, .unset] [(.ref (w 2)), (.int (2 : Int32)), (.ref b1), (.ref b1)])) (fun _ k => st6 _ k) ?_
  obtain ⟨T7, h7, L7, X7, e7, E7, N7, W7, st7⟩ := own_stR X6 hx hZ e6 V5 O1 (pin_E2 P5) (j := (2 : Int32)) (i := 2) ⟨by decide, by decide⟩ rfl (Nat.le_of_ble_eq_true rfl) E5 sz_b1 N5 gn_b1 (g := (mkF m 22 #[.val (.int p1), .unset, .unset, .unset, .unset, .unset, .unset] [(.ref (w 2)), (.int (2 : Int32)), (.ref b1), (.ref b1)])) rfl rfl (hb hby at_22)
  have V7 : Arv Z h7 b1 k1 (.object "com/example/featherstar/featherstar/condition/Operator") (14 : Int32) [(.ref (w 0)), (.ref (w 1)), (.ref (w 2)), .null, .null, .null, .null, .null, .null, .null, .null, .null, .null, .null] .null := W7
  have P7 : Pins Z h7 w := P.ext E7
  have Z7 : n0 ≤ h7.size := Nat.le_trans Z0 E7.1
  refine own_step (W' := T7.setTop (mkF m 23 #[.val (.int p1), .unset, .unset, .unset, .unset, .unset, .unset] [(.ref b1)])) (fun _ k => st7 _ k) ?_
  refine own_step (W' := T7.setTop (mkF m 24 #[.val (.int p1), .unset, .unset, .unset, .unset, .unset, .unset] [(.ref b1), (.ref b1)])) (fun _ k => XS.dup X7.here hx rfl (hb hby at_23) rfl rfl k) ?_
  refine own_step (W' := T7.setTop (mkF m 25 #[.val (.int p1), .unset, .unset, .unset, .unset, .unset, .unset] [(.int (3 : Int32)), (.ref b1), (.ref b1)])) (fun _ k => XS.iconst X7.here hx rfl (hb hby at_24) k) ?_
  obtain ⟨T8, X8, e8, st8⟩ := getS2 X7 hx hZ hown (host := "") (Or.inl (hw _ (List.mem_of_getElem? (i := 10) rfl))) Via.refl e7 (pin_S3 P7) (g := (mkF m 25 #[.val (.int p1), .unset, .unset, .unset, .unset, .unset, .unset] [(.int (3 : Int32)), (.ref b1), (.ref b1)])) rfl (hb hby at_25)
  refine own_step (W' := T8.setTop (mkF m 28 #[.val (.int p1), .unset, .unset, .unset, .unset, .unset, .unset] [(.ref (w 3)), (.int (3 : Int32)), (.ref b1), (.ref b1)])) (fun _ k => st8 _ k) ?_
  obtain ⟨T9, h9, L9, X9, e9, E9, N9, W9, st9⟩ := own_stR X8 hx hZ e8 V7 O1 (pin_E3 P7) (j := (3 : Int32)) (i := 3) ⟨by decide, by decide⟩ rfl (Nat.le_of_ble_eq_true rfl) E7 sz_b1 N7 gn_b1 (g := (mkF m 28 #[.val (.int p1), .unset, .unset, .unset, .unset, .unset, .unset] [(.ref (w 3)), (.int (3 : Int32)), (.ref b1), (.ref b1)])) rfl rfl (hb hby at_28)
  have V9 : Arv Z h9 b1 k1 (.object "com/example/featherstar/featherstar/condition/Operator") (14 : Int32) [(.ref (w 0)), (.ref (w 1)), (.ref (w 2)), (.ref (w 3)), .null, .null, .null, .null, .null, .null, .null, .null, .null, .null] .null := W9
  have P9 : Pins Z h9 w := P.ext E9
  have Z9 : n0 ≤ h9.size := Nat.le_trans Z0 E9.1
  refine own_step (W' := T9.setTop (mkF m 29 #[.val (.int p1), .unset, .unset, .unset, .unset, .unset, .unset] [(.ref b1)])) (fun _ k => st9 _ k) ?_
  refine own_step (W' := T9.setTop (mkF m 30 #[.val (.int p1), .unset, .unset, .unset, .unset, .unset, .unset] [(.ref b1), (.ref b1)])) (fun _ k => XS.dup X9.here hx rfl (hb hby at_29) rfl rfl k) ?_
  refine own_step (W' := T9.setTop (mkF m 31 #[.val (.int p1), .unset, .unset, .unset, .unset, .unset, .unset] [(.int (4 : Int32)), (.ref b1), (.ref b1)])) (fun _ k => XS.iconst X9.here hx rfl (hb hby at_30) k) ?_
  obtain ⟨T10, X10, e10, st10⟩ := getS2 X9 hx hZ hown (host := "") (Or.inl (hw _ (List.mem_of_getElem? (i := 12) rfl))) Via.refl e9 (pin_S4 P9) (g := (mkF m 31 #[.val (.int p1), .unset, .unset, .unset, .unset, .unset, .unset] [(.int (4 : Int32)), (.ref b1), (.ref b1)])) rfl (hb hby at_31)
  refine own_step (W' := T10.setTop (mkF m 34 #[.val (.int p1), .unset, .unset, .unset, .unset, .unset, .unset] [(.ref (w 4)), (.int (4 : Int32)), (.ref b1), (.ref b1)])) (fun _ k => st10 _ k) ?_
  obtain ⟨T11, h11, L11, X11, e11, E11, N11, W11, st11⟩ := own_stR X10 hx hZ e10 V9 O1 (pin_E4 P9) (j := (4 : Int32)) (i := 4) ⟨by decide, by decide⟩ rfl (Nat.le_of_ble_eq_true rfl) E9 sz_b1 N9 gn_b1 (g := (mkF m 34 #[.val (.int p1), .unset, .unset, .unset, .unset, .unset, .unset] [(.ref (w 4)), (.int (4 : Int32)), (.ref b1), (.ref b1)])) rfl rfl (hb hby at_34)
  have V11 : Arv Z h11 b1 k1 (.object "com/example/featherstar/featherstar/condition/Operator") (14 : Int32) [(.ref (w 0)), (.ref (w 1)), (.ref (w 2)), (.ref (w 3)), (.ref (w 4)), .null, .null, .null, .null, .null, .null, .null, .null, .null] .null := W11
  have P11 : Pins Z h11 w := P.ext E11
  have Z11 : n0 ≤ h11.size := Nat.le_trans Z0 E11.1
  refine own_step (W' := T11.setTop (mkF m 35 #[.val (.int p1), .unset, .unset, .unset, .unset, .unset, .unset] [(.ref b1)])) (fun _ k => st11 _ k) ?_
  refine own_step (W' := T11.setTop (mkF m 36 #[.val (.int p1), .unset, .unset, .unset, .unset, .unset, .unset] [(.ref b1), (.ref b1)])) (fun _ k => XS.dup X11.here hx rfl (hb hby at_35) rfl rfl k) ?_
  refine own_step (W' := T11.setTop (mkF m 37 #[.val (.int p1), .unset, .unset, .unset, .unset, .unset, .unset] [(.int (5 : Int32)), (.ref b1), (.ref b1)])) (fun _ k => XS.iconst X11.here hx rfl (hb hby at_36) k) ?_
  obtain ⟨T12, X12, e12, st12⟩ := getS2 X11 hx hZ hown (host := "") (Or.inl (hw _ (List.mem_of_getElem? (i := 14) rfl))) Via.refl e11 (pin_S5 P11) (g := (mkF m 37 #[.val (.int p1), .unset, .unset, .unset, .unset, .unset, .unset] [(.int (5 : Int32)), (.ref b1), (.ref b1)])) rfl (hb hby at_37)
  refine own_step (W' := T12.setTop (mkF m 40 #[.val (.int p1), .unset, .unset, .unset, .unset, .unset, .unset] [(.ref (w 5)), (.int (5 : Int32)), (.ref b1), (.ref b1)])) (fun _ k => st12 _ k) ?_
  obtain ⟨T13, h13, L13, X13, e13, E13, N13, W13, st13⟩ := own_stR X12 hx hZ e12 V11 O1 (pin_E5 P11) (j := (5 : Int32)) (i := 5) ⟨by decide, by decide⟩ rfl (Nat.le_of_ble_eq_true rfl) E11 sz_b1 N11 gn_b1 (g := (mkF m 40 #[.val (.int p1), .unset, .unset, .unset, .unset, .unset, .unset] [(.ref (w 5)), (.int (5 : Int32)), (.ref b1), (.ref b1)])) rfl rfl (hb hby at_40)
  have V13 : Arv Z h13 b1 k1 (.object "com/example/featherstar/featherstar/condition/Operator") (14 : Int32) [(.ref (w 0)), (.ref (w 1)), (.ref (w 2)), (.ref (w 3)), (.ref (w 4)), (.ref (w 5)), .null, .null, .null, .null, .null, .null, .null, .null] .null := W13
  have P13 : Pins Z h13 w := P.ext E13
  have Z13 : n0 ≤ h13.size := Nat.le_trans Z0 E13.1
  refine own_step (W' := T13.setTop (mkF m 41 #[.val (.int p1), .unset, .unset, .unset, .unset, .unset, .unset] [(.ref b1)])) (fun _ k => st13 _ k) ?_
  refine own_step (W' := T13.setTop (mkF m 42 #[.val (.int p1), .unset, .unset, .unset, .unset, .unset, .unset] [(.ref b1), (.ref b1)])) (fun _ k => XS.dup X13.here hx rfl (hb hby at_41) rfl rfl k) ?_
  refine own_step (W' := T13.setTop (mkF m 44 #[.val (.int p1), .unset, .unset, .unset, .unset, .unset, .unset] [(.int (6 : Int32)), (.ref b1), (.ref b1)])) (fun _ k => XS.bipush X13.here hx rfl (hb hby at_42) k) ?_
  obtain ⟨T14, X14, e14, st14⟩ := getS2 X13 hx hZ hown (host := "") (Or.inl (hw _ (List.mem_of_getElem? (i := 16) rfl))) Via.refl e13 (pin_S6 P13) (g := (mkF m 44 #[.val (.int p1), .unset, .unset, .unset, .unset, .unset, .unset] [(.int (6 : Int32)), (.ref b1), (.ref b1)])) rfl (hb hby at_44)
  refine own_step (W' := T14.setTop (mkF m 47 #[.val (.int p1), .unset, .unset, .unset, .unset, .unset, .unset] [(.ref (w 6)), (.int (6 : Int32)), (.ref b1), (.ref b1)])) (fun _ k => st14 _ k) ?_
  obtain ⟨T15, h15, L15, X15, e15, E15, N15, W15, st15⟩ := own_stR X14 hx hZ e14 V13 O1 (pin_E6 P13) (j := (6 : Int32)) (i := 6) ⟨by decide, by decide⟩ rfl (Nat.le_of_ble_eq_true rfl) E13 sz_b1 N13 gn_b1 (g := (mkF m 47 #[.val (.int p1), .unset, .unset, .unset, .unset, .unset, .unset] [(.ref (w 6)), (.int (6 : Int32)), (.ref b1), (.ref b1)])) rfl rfl (hb hby at_47)
  have V15 : Arv Z h15 b1 k1 (.object "com/example/featherstar/featherstar/condition/Operator") (14 : Int32) [(.ref (w 0)), (.ref (w 1)), (.ref (w 2)), (.ref (w 3)), (.ref (w 4)), (.ref (w 5)), (.ref (w 6)), .null, .null, .null, .null, .null, .null, .null] .null := W15
  have P15 : Pins Z h15 w := P.ext E15
  have Z15 : n0 ≤ h15.size := Nat.le_trans Z0 E15.1
  refine own_step (W' := T15.setTop (mkF m 48 #[.val (.int p1), .unset, .unset, .unset, .unset, .unset, .unset] [(.ref b1)])) (fun _ k => st15 _ k) ?_
  refine own_step (W' := T15.setTop (mkF m 49 #[.val (.int p1), .unset, .unset, .unset, .unset, .unset, .unset] [(.ref b1), (.ref b1)])) (fun _ k => XS.dup X15.here hx rfl (hb hby at_48) rfl rfl k) ?_
  refine own_step (W' := T15.setTop (mkF m 51 #[.val (.int p1), .unset, .unset, .unset, .unset, .unset, .unset] [(.int (7 : Int32)), (.ref b1), (.ref b1)])) (fun _ k => XS.bipush X15.here hx rfl (hb hby at_49) k) ?_
  obtain ⟨T16, X16, e16, st16⟩ := getS2 X15 hx hZ hown (host := "") (Or.inl (hw _ (List.mem_of_getElem? (i := 18) rfl))) Via.refl e15 (pin_S7 P15) (g := (mkF m 51 #[.val (.int p1), .unset, .unset, .unset, .unset, .unset, .unset] [(.int (7 : Int32)), (.ref b1), (.ref b1)])) rfl (hb hby at_51)
  refine own_step (W' := T16.setTop (mkF m 54 #[.val (.int p1), .unset, .unset, .unset, .unset, .unset, .unset] [(.ref (w 7)), (.int (7 : Int32)), (.ref b1), (.ref b1)])) (fun _ k => st16 _ k) ?_
  obtain ⟨T17, h17, L17, X17, e17, E17, N17, W17, st17⟩ := own_stR X16 hx hZ e16 V15 O1 (pin_E7 P15) (j := (7 : Int32)) (i := 7) ⟨by decide, by decide⟩ rfl (Nat.le_of_ble_eq_true rfl) E15 sz_b1 N15 gn_b1 (g := (mkF m 54 #[.val (.int p1), .unset, .unset, .unset, .unset, .unset, .unset] [(.ref (w 7)), (.int (7 : Int32)), (.ref b1), (.ref b1)])) rfl rfl (hb hby at_54)
  have V17 : Arv Z h17 b1 k1 (.object "com/example/featherstar/featherstar/condition/Operator") (14 : Int32) [(.ref (w 0)), (.ref (w 1)), (.ref (w 2)), (.ref (w 3)), (.ref (w 4)), (.ref (w 5)), (.ref (w 6)), (.ref (w 7)), .null, .null, .null, .null, .null, .null] .null := W17
  have P17 : Pins Z h17 w := P.ext E17
  have Z17 : n0 ≤ h17.size := Nat.le_trans Z0 E17.1
  refine own_step (W' := T17.setTop (mkF m 55 #[.val (.int p1), .unset, .unset, .unset, .unset, .unset, .unset] [(.ref b1)])) (fun _ k => st17 _ k) ?_
  refine own_step (W' := T17.setTop (mkF m 56 #[.val (.int p1), .unset, .unset, .unset, .unset, .unset, .unset] [(.ref b1), (.ref b1)])) (fun _ k => XS.dup X17.here hx rfl (hb hby at_55) rfl rfl k) ?_
  refine own_step (W' := T17.setTop (mkF m 58 #[.val (.int p1), .unset, .unset, .unset, .unset, .unset, .unset] [(.int (8 : Int32)), (.ref b1), (.ref b1)])) (fun _ k => XS.bipush X17.here hx rfl (hb hby at_56) k) ?_
  obtain ⟨T18, X18, e18, st18⟩ := getS2 X17 hx hZ hown (host := "") (Or.inl (hw _ (List.mem_of_getElem? (i := 20) rfl))) Via.refl e17 (pin_S8 P17) (g := (mkF m 58 #[.val (.int p1), .unset, .unset, .unset, .unset, .unset, .unset] [(.int (8 : Int32)), (.ref b1), (.ref b1)])) rfl (hb hby at_58)
  refine own_step (W' := T18.setTop (mkF m 61 #[.val (.int p1), .unset, .unset, .unset, .unset, .unset, .unset] [(.ref (w 8)), (.int (8 : Int32)), (.ref b1), (.ref b1)])) (fun _ k => st18 _ k) ?_
  obtain ⟨T19, h19, L19, X19, e19, E19, N19, W19, st19⟩ := own_stR X18 hx hZ e18 V17 O1 (pin_E8 P17) (j := (8 : Int32)) (i := 8) ⟨by decide, by decide⟩ rfl (Nat.le_of_ble_eq_true rfl) E17 sz_b1 N17 gn_b1 (g := (mkF m 61 #[.val (.int p1), .unset, .unset, .unset, .unset, .unset, .unset] [(.ref (w 8)), (.int (8 : Int32)), (.ref b1), (.ref b1)])) rfl rfl (hb hby at_61)
  have V19 : Arv Z h19 b1 k1 (.object "com/example/featherstar/featherstar/condition/Operator") (14 : Int32) [(.ref (w 0)), (.ref (w 1)), (.ref (w 2)), (.ref (w 3)), (.ref (w 4)), (.ref (w 5)), (.ref (w 6)), (.ref (w 7)), (.ref (w 8)), .null, .null, .null, .null, .null] .null := W19
  have P19 : Pins Z h19 w := P.ext E19
  have Z19 : n0 ≤ h19.size := Nat.le_trans Z0 E19.1
  refine own_step (W' := T19.setTop (mkF m 62 #[.val (.int p1), .unset, .unset, .unset, .unset, .unset, .unset] [(.ref b1)])) (fun _ k => st19 _ k) ?_
  refine own_step (W' := T19.setTop (mkF m 63 #[.val (.int p1), .unset, .unset, .unset, .unset, .unset, .unset] [(.ref b1), (.ref b1)])) (fun _ k => XS.dup X19.here hx rfl (hb hby at_62) rfl rfl k) ?_
  refine own_step (W' := T19.setTop (mkF m 65 #[.val (.int p1), .unset, .unset, .unset, .unset, .unset, .unset] [(.int (9 : Int32)), (.ref b1), (.ref b1)])) (fun _ k => XS.bipush X19.here hx rfl (hb hby at_63) k) ?_
  obtain ⟨T20, X20, e20, st20⟩ := getS2 X19 hx hZ hown (host := "") (Or.inl (hw _ (List.mem_of_getElem? (i := 22) rfl))) Via.refl e19 (pin_S9 P19) (g := (mkF m 65 #[.val (.int p1), .unset, .unset, .unset, .unset, .unset, .unset] [(.int (9 : Int32)), (.ref b1), (.ref b1)])) rfl (hb hby at_65)
  refine own_step (W' := T20.setTop (mkF m 68 #[.val (.int p1), .unset, .unset, .unset, .unset, .unset, .unset] [(.ref (w 9)), (.int (9 : Int32)), (.ref b1), (.ref b1)])) (fun _ k => st20 _ k) ?_
  obtain ⟨T21, h21, L21, X21, e21, E21, N21, W21, st21⟩ := own_stR X20 hx hZ e20 V19 O1 (pin_E9 P19) (j := (9 : Int32)) (i := 9) ⟨by decide, by decide⟩ rfl (Nat.le_of_ble_eq_true rfl) E19 sz_b1 N19 gn_b1 (g := (mkF m 68 #[.val (.int p1), .unset, .unset, .unset, .unset, .unset, .unset] [(.ref (w 9)), (.int (9 : Int32)), (.ref b1), (.ref b1)])) rfl rfl (hb hby at_68)
  have V21 : Arv Z h21 b1 k1 (.object "com/example/featherstar/featherstar/condition/Operator") (14 : Int32) [(.ref (w 0)), (.ref (w 1)), (.ref (w 2)), (.ref (w 3)), (.ref (w 4)), (.ref (w 5)), (.ref (w 6)), (.ref (w 7)), (.ref (w 8)), (.ref (w 9)), .null, .null, .null, .null] .null := W21
  have P21 : Pins Z h21 w := P.ext E21
  have Z21 : n0 ≤ h21.size := Nat.le_trans Z0 E21.1
  refine own_step (W' := T21.setTop (mkF m 69 #[.val (.int p1), .unset, .unset, .unset, .unset, .unset, .unset] [(.ref b1)])) (fun _ k => st21 _ k) ?_
  refine own_step (W' := T21.setTop (mkF m 70 #[.val (.int p1), .unset, .unset, .unset, .unset, .unset, .unset] [(.ref b1), (.ref b1)])) (fun _ k => XS.dup X21.here hx rfl (hb hby at_69) rfl rfl k) ?_
  refine own_step (W' := T21.setTop (mkF m 72 #[.val (.int p1), .unset, .unset, .unset, .unset, .unset, .unset] [(.int (10 : Int32)), (.ref b1), (.ref b1)])) (fun _ k => XS.bipush X21.here hx rfl (hb hby at_70) k) ?_
  obtain ⟨T22, X22, e22, st22⟩ := getS2 X21 hx hZ hown (host := "") (Or.inl (hw _ (List.mem_of_getElem? (i := 24) rfl))) Via.refl e21 (pin_S10 P21) (g := (mkF m 72 #[.val (.int p1), .unset, .unset, .unset, .unset, .unset, .unset] [(.int (10 : Int32)), (.ref b1), (.ref b1)])) rfl (hb hby at_72)
  refine own_step (W' := T22.setTop (mkF m 75 #[.val (.int p1), .unset, .unset, .unset, .unset, .unset, .unset] [(.ref (w 10)), (.int (10 : Int32)), (.ref b1), (.ref b1)])) (fun _ k => st22 _ k) ?_
  obtain ⟨T23, h23, L23, X23, e23, E23, N23, W23, st23⟩ := own_stR X22 hx hZ e22 V21 O1 (pin_E10 P21) (j := (10 : Int32)) (i := 10) ⟨by decide, by decide⟩ rfl (Nat.le_of_ble_eq_true rfl) E21 sz_b1 N21 gn_b1 (g := (mkF m 75 #[.val (.int p1), .unset, .unset, .unset, .unset, .unset, .unset] [(.ref (w 10)), (.int (10 : Int32)), (.ref b1), (.ref b1)])) rfl rfl (hb hby at_75)
  have V23 : Arv Z h23 b1 k1 (.object "com/example/featherstar/featherstar/condition/Operator") (14 : Int32) [(.ref (w 0)), (.ref (w 1)), (.ref (w 2)), (.ref (w 3)), (.ref (w 4)), (.ref (w 5)), (.ref (w 6)), (.ref (w 7)), (.ref (w 8)), (.ref (w 9)), (.ref (w 10)), .null, .null, .null] .null := W23
  have P23 : Pins Z h23 w := P.ext E23
  have Z23 : n0 ≤ h23.size := Nat.le_trans Z0 E23.1
  refine own_step (W' := T23.setTop (mkF m 76 #[.val (.int p1), .unset, .unset, .unset, .unset, .unset, .unset] [(.ref b1)])) (fun _ k => st23 _ k) ?_
  refine own_step (W' := T23.setTop (mkF m 77 #[.val (.int p1), .unset, .unset, .unset, .unset, .unset, .unset] [(.ref b1), (.ref b1)])) (fun _ k => XS.dup X23.here hx rfl (hb hby at_76) rfl rfl k) ?_
  refine own_step (W' := T23.setTop (mkF m 79 #[.val (.int p1), .unset, .unset, .unset, .unset, .unset, .unset] [(.int (11 : Int32)), (.ref b1), (.ref b1)])) (fun _ k => XS.bipush X23.here hx rfl (hb hby at_77) k) ?_
  obtain ⟨T24, X24, e24, st24⟩ := getS2 X23 hx hZ hown (host := "") (Or.inl (hw _ (List.mem_of_getElem? (i := 26) rfl))) Via.refl e23 (pin_S11 P23) (g := (mkF m 79 #[.val (.int p1), .unset, .unset, .unset, .unset, .unset, .unset] [(.int (11 : Int32)), (.ref b1), (.ref b1)])) rfl (hb hby at_79)
  refine own_step (W' := T24.setTop (mkF m 82 #[.val (.int p1), .unset, .unset, .unset, .unset, .unset, .unset] [(.ref (w 11)), (.int (11 : Int32)), (.ref b1), (.ref b1)])) (fun _ k => st24 _ k) ?_
  obtain ⟨T25, h25, L25, X25, e25, E25, N25, W25, st25⟩ := own_stR X24 hx hZ e24 V23 O1 (pin_E11 P23) (j := (11 : Int32)) (i := 11) ⟨by decide, by decide⟩ rfl (Nat.le_of_ble_eq_true rfl) E23 sz_b1 N23 gn_b1 (g := (mkF m 82 #[.val (.int p1), .unset, .unset, .unset, .unset, .unset, .unset] [(.ref (w 11)), (.int (11 : Int32)), (.ref b1), (.ref b1)])) rfl rfl (hb hby at_82)
  have V25 : Arv Z h25 b1 k1 (.object "com/example/featherstar/featherstar/condition/Operator") (14 : Int32) [(.ref (w 0)), (.ref (w 1)), (.ref (w 2)), (.ref (w 3)), (.ref (w 4)), (.ref (w 5)), (.ref (w 6)), (.ref (w 7)), (.ref (w 8)), (.ref (w 9)), (.ref (w 10)), (.ref (w 11)), .null, .null] .null := W25
  have P25 : Pins Z h25 w := P.ext E25
  have Z25 : n0 ≤ h25.size := Nat.le_trans Z0 E25.1
  refine own_step (W' := T25.setTop (mkF m 83 #[.val (.int p1), .unset, .unset, .unset, .unset, .unset, .unset] [(.ref b1)])) (fun _ k => st25 _ k) ?_
  refine own_step (W' := T25.setTop (mkF m 84 #[.val (.int p1), .unset, .unset, .unset, .unset, .unset, .unset] [(.ref b1), (.ref b1)])) (fun _ k => XS.dup X25.here hx rfl (hb hby at_83) rfl rfl k) ?_
  refine own_step (W' := T25.setTop (mkF m 86 #[.val (.int p1), .unset, .unset, .unset, .unset, .unset, .unset] [(.int (12 : Int32)), (.ref b1), (.ref b1)])) (fun _ k => XS.bipush X25.here hx rfl (hb hby at_84) k) ?_
  obtain ⟨T26, X26, e26, st26⟩ := getS2 X25 hx hZ hown (host := "") (Or.inl (hw _ (List.mem_of_getElem? (i := 28) rfl))) Via.refl e25 (pin_S12 P25) (g := (mkF m 86 #[.val (.int p1), .unset, .unset, .unset, .unset, .unset, .unset] [(.int (12 : Int32)), (.ref b1), (.ref b1)])) rfl (hb hby at_86)
  refine own_step (W' := T26.setTop (mkF m 89 #[.val (.int p1), .unset, .unset, .unset, .unset, .unset, .unset] [(.ref (w 12)), (.int (12 : Int32)), (.ref b1), (.ref b1)])) (fun _ k => st26 _ k) ?_
  obtain ⟨T27, h27, L27, X27, e27, E27, N27, W27, st27⟩ := own_stR X26 hx hZ e26 V25 O1 (pin_E12 P25) (j := (12 : Int32)) (i := 12) ⟨by decide, by decide⟩ rfl (Nat.le_of_ble_eq_true rfl) E25 sz_b1 N25 gn_b1 (g := (mkF m 89 #[.val (.int p1), .unset, .unset, .unset, .unset, .unset, .unset] [(.ref (w 12)), (.int (12 : Int32)), (.ref b1), (.ref b1)])) rfl rfl (hb hby at_89)
  have V27 : Arv Z h27 b1 k1 (.object "com/example/featherstar/featherstar/condition/Operator") (14 : Int32) [(.ref (w 0)), (.ref (w 1)), (.ref (w 2)), (.ref (w 3)), (.ref (w 4)), (.ref (w 5)), (.ref (w 6)), (.ref (w 7)), (.ref (w 8)), (.ref (w 9)), (.ref (w 10)), (.ref (w 11)), (.ref (w 12)), .null] .null := W27
  have P27 : Pins Z h27 w := P.ext E27
  have Z27 : n0 ≤ h27.size := Nat.le_trans Z0 E27.1
  refine own_step (W' := T27.setTop (mkF m 90 #[.val (.int p1), .unset, .unset, .unset, .unset, .unset, .unset] [(.ref b1)])) (fun _ k => st27 _ k) ?_
  refine own_step (W' := T27.setTop (mkF m 91 #[.val (.int p1), .unset, .unset, .unset, .unset, .unset, .unset] [(.ref b1), (.ref b1)])) (fun _ k => XS.dup X27.here hx rfl (hb hby at_90) rfl rfl k) ?_
  refine own_step (W' := T27.setTop (mkF m 93 #[.val (.int p1), .unset, .unset, .unset, .unset, .unset, .unset] [(.int (13 : Int32)), (.ref b1), (.ref b1)])) (fun _ k => XS.bipush X27.here hx rfl (hb hby at_91) k) ?_
  obtain ⟨T28, X28, e28, st28⟩ := getS2 X27 hx hZ hown (host := "") (Or.inl (hw _ (List.mem_of_getElem? (i := 30) rfl))) Via.refl e27 (pin_S13 P27) (g := (mkF m 93 #[.val (.int p1), .unset, .unset, .unset, .unset, .unset, .unset] [(.int (13 : Int32)), (.ref b1), (.ref b1)])) rfl (hb hby at_93)
  refine own_step (W' := T28.setTop (mkF m 96 #[.val (.int p1), .unset, .unset, .unset, .unset, .unset, .unset] [(.ref (w 13)), (.int (13 : Int32)), (.ref b1), (.ref b1)])) (fun _ k => st28 _ k) ?_
  obtain ⟨T29, h29, L29, X29, e29, E29, N29, W29, st29⟩ := own_stR X28 hx hZ e28 V27 O1 (pin_E13 P27) (j := (13 : Int32)) (i := 13) ⟨by decide, by decide⟩ rfl (Nat.le_of_ble_eq_true rfl) E27 sz_b1 N27 gn_b1 (g := (mkF m 96 #[.val (.int p1), .unset, .unset, .unset, .unset, .unset, .unset] [(.ref (w 13)), (.int (13 : Int32)), (.ref b1), (.ref b1)])) rfl rfl (hb hby at_96)
  have V29 : Arv Z h29 b1 k1 (.object "com/example/featherstar/featherstar/condition/Operator") (14 : Int32) [(.ref (w 0)), (.ref (w 1)), (.ref (w 2)), (.ref (w 3)), (.ref (w 4)), (.ref (w 5)), (.ref (w 6)), (.ref (w 7)), (.ref (w 8)), (.ref (w 9)), (.ref (w 10)), (.ref (w 11)), (.ref (w 12)), (.ref (w 13))] .null := W29
  have P29 : Pins Z h29 w := P.ext E29
  have Z29 : n0 ≤ h29.size := Nat.le_trans Z0 E29.1
  refine own_step (W' := T29.setTop (mkF m 97 #[.val (.int p1), .unset, .unset, .unset, .unset, .unset, .unset] [(.ref b1)])) (fun _ k => st29 _ k) ?_
  exact kt _ _ _ _ _ X29 e29 E29 N29 V29
set_option maxRecDepth 65536 in
set_option maxHeartbeats 40000000 in
theorem rm1_w0 (l : Launch) (Z : State) (a0 : Array Value) (hw : ∀ d ∈ tables_1, d.before a0 Z = true) (ws : List Jvm.Cond) (w : Nat → Addr) (h0 : Heap) (n0 : Nat) (Z0 : n0 ≤ h0.size) (P : Pins Z h0 w) :
    MetFree l (⟨"com/example/featherstar/featherstar/condition/Operator", "takesOperand", "()Z"⟩ : MethodName) (head1 (Jvm.Cond.code (⟨"com/example/featherstar/featherstar/condition/Operator", "takesOperand", "()Z"⟩ : MethodName) prog_13_method_6_code 1 (some .boolean) :: ws) ({ frames := 0, cells := 0, slots := 0, locals := 0 } : Room)) (fun aA U => aA = #[(.ref (w 0))] ∧ Z.Warmed39 U.vm ∧ U.heap = h0) (fun _ _ _ _ _ => True) (fun _ U o U' => ∃ v L, o = .returned v ∧ own_QK (some (.int (1 : Int32))) h0 n0 v U'.heap L ∧ FrameEnd U o U' L ({ frames := 0, cells := 0, slots := 0, locals := 0 } : Room).cells ({ frames := 0, cells := 0, slots := 0, locals := 0 } : Room).slots) := by
  refine MetFree.of_bodySF (plainFor_of_name pn_com_example_featherstar_featherstar_condition_Operator) hisR ?_
  intro p e s m args below meth c s₁ Bd hml0 hP hK
  obtain ⟨rfl, hZ, hh⟩ := hP
  have hx := Bd.exec
  have hby := Bd.bytes
  have hml : c.maxLocals = 1 := hml0
  have hown : s.vm.findClass "com/example/featherstar/featherstar/condition/Operator" = some m.cls := findClass_of_methodNamed Bd.named
  have hnm := (name_of_methodNamed Bd.named Bd.method).1
  have X0 : Stand p l e ({ frames := 0, cells := 0, slots := 0, locals := 0 } : Room) s m #[(.ref (w 0))] below meth c s₁ [] 0 0 := Stand.of_body Bd
  have e0 : s₁.heap = h0 := by rw [← hh, Bd.state]; rfl
  have N0 := Fr.nil n0
  refine own_enter (ef_1_R m (w 0)) ?_
  refine own_step (W' := s₁.setTop (mkF m 1 #[.val (.ref (w 0))] [(.ref (w 0))])) (fun _ k => XS.aloadN X0.here hx rfl (hb hby d1_0) rfl rfl k) ?_
  obtain ⟨T1, X1, e1, st1⟩ := getS2 X0 hx hZ hown (host := "") (Or.inl (hw _ (List.mem_of_getElem? (i := 38) rfl))) Via.refl e0 (pin_S13 P) (g := (mkF m 1 #[.val (.ref (w 0))] [(.ref (w 0))])) rfl (hb hby d1_1)
  refine own_step (W' := T1.setTop (mkF m 4 #[.val (.ref (w 0))] [(.ref (w 13)), (.ref (w 0))])) (fun _ k => st1 _ k) ?_
  refine own_step (W' := T1.setTop (mkF m 7 #[.val (.ref (w 0))] [])) (fun _ k => Jvm.RoadKit.acmp (g := (mkF m 4 #[.val (.ref (w 0))] [(.ref (w 13)), (.ref (w 0))])) X1 hx rfl rfl rfl (pc0 := 4) (pc' := 7) (same := false) rfl (hb hby d1_4) rfl (decide_eq_false fun q => (Fld.ne (pin_F0_ordinal P) (pin_F13_ordinal P) (by decide)) (Value.ref.inj q)) (by decide) (by decide) k) ?_
  refine own_step (W' := T1.setTop (mkF m 8 #[.val (.ref (w 0))] [(.int (1 : Int32))])) (fun _ k => XS.iconst X1.here hx rfl (hb hby d1_7) k) ?_
  refine own_step (W' := T1.setTop (mkF m 12 #[.val (.ref (w 0))] [(.int (1 : Int32))])) (fun _ k => XS.goto X1.here hx rfl (pc0 := 8) (pc' := 12) rfl (hb hby d1_8) (by decide) (by decide) k) ?_
  exact own_ret X1 Bd.notSynchronized Bd.returns (v := (.int (1 : Int32))) (fun fs hr => retN X1 hx (t := .boolean) Bd.returns (by simp) (hb hby d1_12) hr) ⟨rfl, N0, e1⟩ (by decide) (by decide)
set_option maxRecDepth 65536 in
set_option maxHeartbeats 40000000 in
theorem rm2_w0 (l : Launch) (Z : State) (a0 : Array Value) (hw : ∀ d ∈ tables_1, d.before a0 Z = true) (ws : List Jvm.Cond) (w : Nat → Addr) (h0 : Heap) (n0 : Nat) (Z0 : n0 ≤ h0.size) (P : Pins Z h0 w) :
    MetFree l (⟨"com/example/featherstar/featherstar/condition/Operator", "positive", "()Lcom/example/featherstar/featherstar/condition/Operator;"⟩ : MethodName) (head1 (Jvm.Cond.code (⟨"com/example/featherstar/featherstar/condition/Operator", "positive", "()Lcom/example/featherstar/featherstar/condition/Operator;"⟩ : MethodName) prog_13_method_8_code 1 (some (.object "com/example/featherstar/featherstar/condition/Operator")) :: ws) ({ frames := 0, cells := 0, slots := 0, locals := 0 } : Room)) (fun aA U => aA = #[(.ref (w 0))] ∧ Z.Warmed39 U.vm ∧ U.heap = h0) (fun _ _ _ _ _ => True) (fun _ U o U' => ∃ v L, o = .returned v ∧ own_QK (some (.ref (w 0))) h0 n0 v U'.heap L ∧ FrameEnd U o U' L ({ frames := 0, cells := 0, slots := 0, locals := 0 } : Room).cells ({ frames := 0, cells := 0, slots := 0, locals := 0 } : Room).slots) := by
  refine MetFree.of_bodySF (plainFor_of_name pn_com_example_featherstar_featherstar_condition_Operator) hisR ?_
  intro p e s m args below meth c s₁ Bd hml0 hP hK
  obtain ⟨rfl, hZ, hh⟩ := hP
  have hx := Bd.exec
  have hby := Bd.bytes
  have hml : c.maxLocals = 1 := hml0
  have hown : s.vm.findClass "com/example/featherstar/featherstar/condition/Operator" = some m.cls := findClass_of_methodNamed Bd.named
  have hnm := (name_of_methodNamed Bd.named Bd.method).1
  have X0 : Stand p l e ({ frames := 0, cells := 0, slots := 0, locals := 0 } : Room) s m #[(.ref (w 0))] below meth c s₁ [] 0 0 := Stand.of_body Bd
  have e0 : s₁.heap = h0 := by rw [← hh, Bd.state]; rfl
  have N0 := Fr.nil n0
  refine own_enter (ef_2_R m (w 0)) ?_
  refine own_step (W' := s₁.setTop (mkF m 1 #[.val (.ref (w 0))] [(.ref (w 0))])) (fun _ k => XS.aloadN X0.here hx rfl (hb hby d2_0) rfl rfl k) ?_
  obtain ⟨T1, X1, e1, st1⟩ := getF X0 hx hZ hown (host := "") (Or.inl (hw _ (List.mem_of_getElem? (i := 44) rfl))) Via.refl e0 (pin_F0_negated P) (g := (mkF m 1 #[.val (.ref (w 0))] [(.ref (w 0))])) rfl rfl (hb hby d2_1)
  refine own_step (W' := T1.setTop (mkF m 4 #[.val (.ref (w 0))] [.null])) (fun _ k => st1 _ k) ?_
  refine own_step (W' := T1.setTop (mkF m 7 #[.val (.ref (w 0))] [])) (fun _ k => XS.ifnonnullNo X1.here hx rfl (hb hby d2_4) rfl k) ?_
  refine own_step (W' := T1.setTop (mkF m 8 #[.val (.ref (w 0))] [(.ref (w 0))])) (fun _ k => XS.aloadN X1.here hx rfl (hb hby d2_7) rfl rfl k) ?_
  refine own_step (W' := T1.setTop (mkF m 15 #[.val (.ref (w 0))] [(.ref (w 0))])) (fun _ k => XS.goto X1.here hx rfl (pc0 := 8) (pc' := 15) rfl (hb hby d2_8) (by decide) (by decide) k) ?_
  exact own_ret X1 Bd.notSynchronized Bd.returns (v := (.ref (w 0))) (fun fs hr => retOut X1 hx Bd.returns rfl (Or.inr (Or.inr (Or.inr (Or.inr ⟨rfl, rfl, rfl⟩)))) (hb hby d2_15) hr) ⟨rfl, N0, e1⟩ (by decide) (by decide)
set_option maxRecDepth 65536 in
set_option maxHeartbeats 40000000 in
theorem rm0_0 (l : Launch) (Z : State) (a0 : Array Value) (hw : ∀ d ∈ tables_1, d.before a0 Z = true) (ws : List Jvm.Cond) (p1 : Int32) (hk : ((p1 &&& (2147483647 : Int32)) % (14 : Int32)) = (0 : Int32)) (w : Nat → Addr) (h0 : Heap) (n0 : Nat) (Z0 : n0 ≤ h0.size) (P : Pins Z h0 w) :
    MetFree l x (head1 (Jvm.Cond.code x code maxLocals ret :: ws) room_1) (fun aA U => aA = #[(.int p1)] ∧ Z.Warmed39 U.vm ∧ U.heap = h0) (fun _ _ _ _ _ => True) (fun _ U o U' => ∃ v L, o = .returned v ∧ own_Q0 n0 v U'.heap L ∧ FrameEnd U o U' L room_1.cells room_1.slots) := by
  refine MetFree.of_bodySF (plainFor_of_name pn_com_example_featherstar_featherstar_condition_OperatorTakesOperandPinLaw) hisR ?_
  intro p e s m args below meth c s₁ Bd hml0 hP hK
  obtain ⟨rfl, hZ, hh⟩ := hP
  have hx := Bd.exec
  have hby := Bd.bytes
  have hml : c.maxLocals = 7 := hml0
  have hown : s.vm.findClass "com/example/featherstar/featherstar/condition/OperatorTakesOperandPinLaw" = some m.cls := findClass_of_methodNamed Bd.named
  have hnm := (name_of_methodNamed Bd.named Bd.method).1
  have X0 : Stand p l e room_1 s m #[(.int p1)] below meth c s₁ [] 0 0 := Stand.of_body Bd
  have e0 : s₁.heap = h0 := by rw [← hh, Bd.state]; rfl
  have N0 := Fr.nil n0
  refine own_enter (ef_0_I m p1) ?_
  refine own_fill p1 X0 hx hZ hw hby hml hown e0 N0 Z0 P ?_
  intro T1 h1 L1 k1 b1 X1 e1 E1 N1 V1
  have P1 : Pins Z h1 w := P.ext E1
  have Z1 : n0 ≤ h1.size := Nat.le_trans Z0 E1.1
  refine own_step (W' := T1.setTop (mkF m 98 #[.val (.int p1), .val (.ref b1), .unset, .unset, .unset, .unset, .unset] [])) (fun _ k => XS.astoreN X1.here hx rfl (hb hby at_97) rfl rfl (l' := #[.val (.int p1), .val (.ref b1), .unset, .unset, .unset, .unset, .unset]) rfl k) ?_
  refine own_step (W' := T1.setTop (mkF m 99 #[.val (.int p1), .val (.ref b1), .unset, .unset, .unset, .unset, .unset] [(.int p1)])) (fun _ k => XS.iloadN X1.here hx rfl (hb hby at_98) rfl k) ?_
  refine own_step (W' := T1.setTop (mkF m 101 #[.val (.int p1), .val (.ref b1), .unset, .unset, .unset, .unset, .unset] [(.int (2147483647 : Int32)), (.int p1)])) (fun _ k => X1.ldcInt hx hown (mvT hZ (hw _ (List.mem_of_getElem? (i := 32) rfl))) (g := (mkF m 99 #[.val (.int p1), .val (.ref b1), .unset, .unset, .unset, .unset, .unset] [(.int p1)])) rfl (hb hby at_99) _ k) ?_
  refine own_step (W' := T1.setTop (mkF m 102 #[.val (.int p1), .val (.ref b1), .unset, .unset, .unset, .unset, .unset] [(.int (p1 &&& (2147483647 : Int32)))])) (fun _ k => XS.iand X1.here hx rfl (hb hby at_101) rfl k) ?_
  refine own_step (W' := T1.setTop (mkF m 104 #[.val (.int p1), .val (.ref b1), .unset, .unset, .unset, .unset, .unset] [(.int (14 : Int32)), (.int (p1 &&& (2147483647 : Int32)))])) (fun _ k => XS.bipush X1.here hx rfl (hb hby at_102) k) ?_
  refine own_step (W' := T1.setTop (mkF m 105 #[.val (.int p1), .val (.ref b1), .unset, .unset, .unset, .unset, .unset] [(.int ((p1 &&& (2147483647 : Int32)) % (14 : Int32)))])) (fun _ k => iremM X1 hx rfl (hb hby at_104) rfl (by decide) k) ?_
  rw [hk]
  refine own_step (W' := T1.setTop (mkF m 106 #[.val (.int p1), .val (.ref b1), .val (.int (0 : Int32)), .unset, .unset, .unset, .unset] [])) (fun _ k => XS.istoreN X1.here hx rfl (hb hby at_105) rfl (l' := #[.val (.int p1), .val (.ref b1), .val (.int (0 : Int32)), .unset, .unset, .unset, .unset]) rfl k) ?_
  refine own_step (W' := T1.setTop (mkF m 107 #[.val (.int p1), .val (.ref b1), .val (.int (0 : Int32)), .unset, .unset, .unset, .unset] [(.ref b1)])) (fun _ k => XS.aloadN X1.here hx rfl (hb hby at_106) rfl rfl k) ?_
  refine own_step (W' := T1.setTop (mkF m 108 #[.val (.int p1), .val (.ref b1), .val (.int (0 : Int32)), .unset, .unset, .unset, .unset] [(.int (0 : Int32)), (.ref b1)])) (fun _ k => XS.iloadN X1.here hx rfl (hb hby at_107) rfl k) ?_
  refine own_step (W' := T1.setTop (mkF m 109 #[.val (.int p1), .val (.ref b1), .val (.int (0 : Int32)), .unset, .unset, .unset, .unset] [(.ref (w 0))])) (fun _ k => own_ldR X1 hx hZ e1 V1 (j := (0 : Int32)) (v := (.ref (w 0))) ⟨by decide, by decide⟩ rfl (g := (mkF m 108 #[.val (.int p1), .val (.ref b1), .val (.int (0 : Int32)), .unset, .unset, .unset, .unset] [(.int (0 : Int32)), (.ref b1)])) rfl rfl (hb hby at_108) _ k) ?_
  refine own_step (W' := T1.setTop (mkF m 110 #[.val (.int p1), .val (.ref b1), .val (.int (0 : Int32)), .val (.ref (w 0)), .unset, .unset, .unset] [])) (fun _ k => XS.astoreN X1.here hx rfl (hb hby at_109) rfl rfl (l' := #[.val (.int p1), .val (.ref b1), .val (.int (0 : Int32)), .val (.ref (w 0)), .unset, .unset, .unset]) rfl k) ?_
  refine own_step (W' := T1.setTop (mkF m 111 #[.val (.int p1), .val (.ref b1), .val (.int (0 : Int32)), .val (.ref (w 0)), .unset, .unset, .unset] [(.int (0 : Int32))])) (fun _ k => XS.iloadN X1.here hx rfl (hb hby at_110) rfl k) ?_
  refine own_step (W' := T1.setTop (mkF m 113 #[.val (.int p1), .val (.ref b1), .val (.int (0 : Int32)), .val (.ref (w 0)), .unset, .unset, .unset] [(.int (13 : Int32)), (.int (0 : Int32))])) (fun _ k => XS.bipush X1.here hx rfl (hb hby at_111) k) ?_
  refine own_step (W' := T1.setTop (mkF m 116 #[.val (.int p1), .val (.ref b1), .val (.int (0 : Int32)), .val (.ref (w 0)), .unset, .unset, .unset] [])) (fun _ k => XS.icmpNo X1.here hx rfl (hb hby at_113) rfl (by decide) k) ?_
  refine own_step (W' := T1.setTop (mkF m 117 #[.val (.int p1), .val (.ref b1), .val (.int (0 : Int32)), .val (.ref (w 0)), .unset, .unset, .unset] [(.int (1 : Int32))])) (fun _ k => XS.iconst X1.here hx rfl (hb hby at_116) k) ?_
  refine own_step (W' := T1.setTop (mkF m 121 #[.val (.int p1), .val (.ref b1), .val (.int (0 : Int32)), .val (.ref (w 0)), .unset, .unset, .unset] [(.int (1 : Int32))])) (fun _ k => XS.goto X1.here hx rfl (pc0 := 117) (pc' := 121) rfl (hb hby at_117) (by decide) (by decide) k) ?_
  refine own_step (W' := T1.setTop (mkF m 123 #[.val (.int p1), .val (.ref b1), .val (.int (0 : Int32)), .val (.ref (w 0)), .val (.int (1 : Int32)), .unset, .unset] [])) (fun _ k => XS.istore X1.here hx rfl (hb hby at_121) rfl (l' := #[.val (.int p1), .val (.ref b1), .val (.int (0 : Int32)), .val (.ref (w 0)), .val (.int (1 : Int32)), .unset, .unset]) rfl k) ?_
  refine own_step (W' := T1.setTop (mkF m 124 #[.val (.int p1), .val (.ref b1), .val (.int (0 : Int32)), .val (.ref (w 0)), .val (.int (1 : Int32)), .unset, .unset] [(.ref (w 0))])) (fun _ k => XS.aloadN X1.here hx rfl (hb hby at_123) rfl rfl k) ?_
  obtain ⟨cq2, kq2, q2a, q2b, q2c⟩ := isOf hZ e1 (pin_E0 P1)
  obtain ⟨_, _, ⟨T2, L2, k2, n2⟩, -, X2, ⟨Lc2, hQ2, l2, y2, z2⟩, st2⟩ := X1.virtualBack hx (y := (⟨"com/example/featherstar/featherstar/condition/Operator", "takesOperand", "()Z"⟩ : MethodName)) (z := (⟨"com/example/featherstar/featherstar/condition/Operator", "takesOperand", "()Z"⟩ : MethodName)) hown (mvT hZ (hw _ (List.mem_of_getElem? (i := 33) rfl))) (mvT hZ (hw _ (List.mem_of_getElem? (i := 34) rfl))) (notFace_of_selects (args := #[]) (mvT hZ (hw _ (List.mem_of_getElem? (i := 36) rfl)))) (mvT hZ (hw _ (List.mem_of_getElem? (i := 36) rfl))) (mvT hZ (hw _ (List.mem_of_getElem? (i := 35) rfl))) (by decide) (backOf (W := 0) (rm1_w0 l Z a0 hw [] w h1 n0 Z1 P1) hZ (hw _ (List.mem_of_getElem? (i := 37) rfl)) (hw _ (List.mem_of_getElem? (i := 3) rfl)) (by decide) (by decide)) q2a q2c (g := (mkF m 124 #[.val (.int p1), .val (.ref b1), .val (.int (0 : Int32)), .val (.ref (w 0)), .val (.int (1 : Int32)), .unset, .unset] [(.ref (w 0))])) rfl (by rw [hml]; rfl) (Steps.refl _) (argsL := []) (rest := []) (lenOf pd_0 rfl) rfl (by show 2 * 0 + _ ≤ _; exact Nat.le_of_eq rfl) (hb hby at_124) (fun _ _ => ⟨rfl, e1, (by decide : 1 + 0 ≤ _), (by decide : 14 + 0 ≤ _)⟩)
  dsimp only [Pt.U, Pt.locs, Pt.cells, Pt.slots] at X2 l2 y2 z2 st2 hQ2
  subst l2 y2 z2
  obtain ⟨rfl, N2q, e2⟩ := hQ2
  have N2 := Fr.app N1 N2q
  refine own_step (W' := T2.setTop (mkF m 127 #[.val (.int p1), .val (.ref b1), .val (.int (0 : Int32)), .val (.ref (w 0)), .val (.int (1 : Int32)), .unset, .unset] [(.int (1 : Int32))])) (fun _ k => st2.trans k) ?_
  refine own_step (W' := T2.setTop (mkF m 129 #[.val (.int p1), .val (.ref b1), .val (.int (0 : Int32)), .val (.ref (w 0)), .val (.int (1 : Int32)), .val (.int (1 : Int32)), .unset] [])) (fun _ k => XS.istore X2.here hx rfl (hb hby at_127) rfl (l' := #[.val (.int p1), .val (.ref b1), .val (.int (0 : Int32)), .val (.ref (w 0)), .val (.int (1 : Int32)), .val (.int (1 : Int32)), .unset]) rfl k) ?_
  refine own_step (W' := T2.setTop (mkF m 130 #[.val (.int p1), .val (.ref b1), .val (.int (0 : Int32)), .val (.ref (w 0)), .val (.int (1 : Int32)), .val (.int (1 : Int32)), .unset] [(.ref (w 0))])) (fun _ k => XS.aloadN X2.here hx rfl (hb hby at_129) rfl rfl k) ?_
  obtain ⟨cq3, kq3, q3a, q3b, q3c⟩ := isOf hZ e2 (pin_E0 P1)
  obtain ⟨_, _, ⟨T3, L3, k3, n3⟩, -, X3, ⟨Lc3, hQ3, l3, y3, z3⟩, st3⟩ := X2.virtualBack hx (y := (⟨"com/example/featherstar/featherstar/condition/Operator", "positive", "()Lcom/example/featherstar/featherstar/condition/Operator;"⟩ : MethodName)) (z := (⟨"com/example/featherstar/featherstar/condition/Operator", "positive", "()Lcom/example/featherstar/featherstar/condition/Operator;"⟩ : MethodName)) hown (mvT hZ (hw _ (List.mem_of_getElem? (i := 39) rfl))) (mvT hZ (hw _ (List.mem_of_getElem? (i := 40) rfl))) (notFace_of_selects (args := #[]) (mvT hZ (hw _ (List.mem_of_getElem? (i := 42) rfl)))) (mvT hZ (hw _ (List.mem_of_getElem? (i := 42) rfl))) (mvT hZ (hw _ (List.mem_of_getElem? (i := 41) rfl))) (by decide) (backOf (W := 0) (rm2_w0 l Z a0 hw [] w h1 n0 Z1 P1) hZ (hw _ (List.mem_of_getElem? (i := 43) rfl)) (hw _ (List.mem_of_getElem? (i := 3) rfl)) (by decide) (by decide)) q3a q3c (g := (mkF m 130 #[.val (.int p1), .val (.ref b1), .val (.int (0 : Int32)), .val (.ref (w 0)), .val (.int (1 : Int32)), .val (.int (1 : Int32)), .unset] [(.ref (w 0))])) rfl (by rw [hml]; rfl) (Steps.refl _) (argsL := []) (rest := []) (lenOf pd_1 rfl) rfl (by show 2 * 0 + _ ≤ _; exact Nat.le_of_eq rfl) (hb hby at_130) (fun _ _ => ⟨rfl, e2, (by decide : 1 + 0 ≤ _), (by decide : 14 + 0 ≤ _)⟩)
  dsimp only [Pt.U, Pt.locs, Pt.cells, Pt.slots] at X3 l3 y3 z3 st3 hQ3
  subst l3 y3 z3
  obtain ⟨rfl, N3q, e3⟩ := hQ3
  have N3 := Fr.app N2 N3q
  refine own_step (W' := T3.setTop (mkF m 133 #[.val (.int p1), .val (.ref b1), .val (.int (0 : Int32)), .val (.ref (w 0)), .val (.int (1 : Int32)), .val (.int (1 : Int32)), .unset] [(.ref (w 0))])) (fun _ k => st3.trans k) ?_
  obtain ⟨cq4, kq4, q4a, q4b, q4c⟩ := isOf hZ e3 (pin_E0 P1)
  obtain ⟨_, _, ⟨T4, L4, k4, n4⟩, -, X4, ⟨Lc4, hQ4, l4, y4, z4⟩, st4⟩ := X3.virtualBack hx (y := (⟨"com/example/featherstar/featherstar/condition/Operator", "takesOperand", "()Z"⟩ : MethodName)) (z := (⟨"com/example/featherstar/featherstar/condition/Operator", "takesOperand", "()Z"⟩ : MethodName)) hown (mvT hZ (hw _ (List.mem_of_getElem? (i := 33) rfl))) (mvT hZ (hw _ (List.mem_of_getElem? (i := 34) rfl))) (notFace_of_selects (args := #[]) (mvT hZ (hw _ (List.mem_of_getElem? (i := 36) rfl)))) (mvT hZ (hw _ (List.mem_of_getElem? (i := 36) rfl))) (mvT hZ (hw _ (List.mem_of_getElem? (i := 35) rfl))) (by decide) (backOf (W := 0) (rm1_w0 l Z a0 hw [] w h1 n0 Z1 P1) hZ (hw _ (List.mem_of_getElem? (i := 37) rfl)) (hw _ (List.mem_of_getElem? (i := 3) rfl)) (by decide) (by decide)) q4a q4c (g := (mkF m 133 #[.val (.int p1), .val (.ref b1), .val (.int (0 : Int32)), .val (.ref (w 0)), .val (.int (1 : Int32)), .val (.int (1 : Int32)), .unset] [(.ref (w 0))])) rfl (by rw [hml]; rfl) (Steps.refl _) (argsL := []) (rest := []) (lenOf pd_0 rfl) rfl (by show 2 * 0 + _ ≤ _; exact Nat.le_of_eq rfl) (hb hby at_133) (fun _ _ => ⟨rfl, e3, (by decide : 1 + 0 ≤ _), (by decide : 14 + 0 ≤ _)⟩)
  dsimp only [Pt.U, Pt.locs, Pt.cells, Pt.slots] at X4 l4 y4 z4 st4 hQ4
  subst l4 y4 z4
  obtain ⟨rfl, N4q, e4⟩ := hQ4
  have N4 := Fr.app N3 N4q
  refine own_step (W' := T4.setTop (mkF m 136 #[.val (.int p1), .val (.ref b1), .val (.int (0 : Int32)), .val (.ref (w 0)), .val (.int (1 : Int32)), .val (.int (1 : Int32)), .unset] [(.int (1 : Int32))])) (fun _ k => st4.trans k) ?_
  refine own_step (W' := T4.setTop (mkF m 138 #[.val (.int p1), .val (.ref b1), .val (.int (0 : Int32)), .val (.ref (w 0)), .val (.int (1 : Int32)), .val (.int (1 : Int32)), .val (.int (1 : Int32))] [])) (fun _ k => XS.istore X4.here hx rfl (hb hby at_136) rfl (l' := #[.val (.int p1), .val (.ref b1), .val (.int (0 : Int32)), .val (.ref (w 0)), .val (.int (1 : Int32)), .val (.int (1 : Int32)), .val (.int (1 : Int32))]) rfl k) ?_
  refine own_step (W' := T4.setTop (mkF m 140 #[.val (.int p1), .val (.ref b1), .val (.int (0 : Int32)), .val (.ref (w 0)), .val (.int (1 : Int32)), .val (.int (1 : Int32)), .val (.int (1 : Int32))] [(.int (1 : Int32))])) (fun _ k => XS.iload X4.here hx rfl (hb hby at_138) rfl k) ?_
  refine own_step (W' := T4.setTop (mkF m 142 #[.val (.int p1), .val (.ref b1), .val (.int (0 : Int32)), .val (.ref (w 0)), .val (.int (1 : Int32)), .val (.int (1 : Int32)), .val (.int (1 : Int32))] [(.int (1 : Int32)), (.int (1 : Int32))])) (fun _ k => XS.iload X4.here hx rfl (hb hby at_140) rfl k) ?_
  refine own_step (W' := T4.setTop (mkF m 145 #[.val (.int p1), .val (.ref b1), .val (.int (0 : Int32)), .val (.ref (w 0)), .val (.int (1 : Int32)), .val (.int (1 : Int32)), .val (.int (1 : Int32))] [])) (fun _ k => XS.icmpNo X4.here hx rfl (hb hby at_142) rfl (by decide) k) ?_
  refine own_step (W' := T4.setTop (mkF m 147 #[.val (.int p1), .val (.ref b1), .val (.int (0 : Int32)), .val (.ref (w 0)), .val (.int (1 : Int32)), .val (.int (1 : Int32)), .val (.int (1 : Int32))] [(.int (1 : Int32))])) (fun _ k => XS.iload X4.here hx rfl (hb hby at_145) rfl k) ?_
  refine own_step (W' := T4.setTop (mkF m 149 #[.val (.int p1), .val (.ref b1), .val (.int (0 : Int32)), .val (.ref (w 0)), .val (.int (1 : Int32)), .val (.int (1 : Int32)), .val (.int (1 : Int32))] [(.int (1 : Int32)), (.int (1 : Int32))])) (fun _ k => XS.iload X4.here hx rfl (hb hby at_147) rfl k) ?_
  refine own_step (W' := T4.setTop (mkF m 152 #[.val (.int p1), .val (.ref b1), .val (.int (0 : Int32)), .val (.ref (w 0)), .val (.int (1 : Int32)), .val (.int (1 : Int32)), .val (.int (1 : Int32))] [])) (fun _ k => XS.icmpNo X4.here hx rfl (hb hby at_149) rfl (by decide) k) ?_
  refine own_step (W' := T4.setTop (mkF m 153 #[.val (.int p1), .val (.ref b1), .val (.int (0 : Int32)), .val (.ref (w 0)), .val (.int (1 : Int32)), .val (.int (1 : Int32)), .val (.int (1 : Int32))] [(.int (1 : Int32))])) (fun _ k => XS.iconst X4.here hx rfl (hb hby at_152) k) ?_
  refine own_step (W' := T4.setTop (mkF m 157 #[.val (.int p1), .val (.ref b1), .val (.int (0 : Int32)), .val (.ref (w 0)), .val (.int (1 : Int32)), .val (.int (1 : Int32)), .val (.int (1 : Int32))] [(.int (1 : Int32))])) (fun _ k => XS.goto X4.here hx rfl (pc0 := 153) (pc' := 157) rfl (hb hby at_153) (by decide) (by decide) k) ?_
  exact own_ret X4 Bd.notSynchronized Bd.returns (v := (.int (1 : Int32))) (fun fs hr => retN X4 hx (t := .boolean) Bd.returns (by simp) (hb hby at_157) hr) ⟨rfl, N4⟩ (by decide) (by decide)
set_option maxRecDepth 65536 in
set_option maxHeartbeats 40000000 in
theorem rm1_w1 (l : Launch) (Z : State) (a0 : Array Value) (hw : ∀ d ∈ tables_1, d.before a0 Z = true) (ws : List Jvm.Cond) (w : Nat → Addr) (h0 : Heap) (n0 : Nat) (Z0 : n0 ≤ h0.size) (P : Pins Z h0 w) :
    MetFree l (⟨"com/example/featherstar/featherstar/condition/Operator", "takesOperand", "()Z"⟩ : MethodName) (head1 (Jvm.Cond.code (⟨"com/example/featherstar/featherstar/condition/Operator", "takesOperand", "()Z"⟩ : MethodName) prog_13_method_6_code 1 (some .boolean) :: ws) ({ frames := 0, cells := 0, slots := 0, locals := 0 } : Room)) (fun aA U => aA = #[(.ref (w 1))] ∧ Z.Warmed39 U.vm ∧ U.heap = h0) (fun _ _ _ _ _ => True) (fun _ U o U' => ∃ v L, o = .returned v ∧ own_QK (some (.int (1 : Int32))) h0 n0 v U'.heap L ∧ FrameEnd U o U' L ({ frames := 0, cells := 0, slots := 0, locals := 0 } : Room).cells ({ frames := 0, cells := 0, slots := 0, locals := 0 } : Room).slots) := by
  refine MetFree.of_bodySF (plainFor_of_name pn_com_example_featherstar_featherstar_condition_Operator) hisR ?_
  intro p e s m args below meth c s₁ Bd hml0 hP hK
  obtain ⟨rfl, hZ, hh⟩ := hP
  have hx := Bd.exec
  have hby := Bd.bytes
  have hml : c.maxLocals = 1 := hml0
  have hown : s.vm.findClass "com/example/featherstar/featherstar/condition/Operator" = some m.cls := findClass_of_methodNamed Bd.named
  have hnm := (name_of_methodNamed Bd.named Bd.method).1
  have X0 : Stand p l e ({ frames := 0, cells := 0, slots := 0, locals := 0 } : Room) s m #[(.ref (w 1))] below meth c s₁ [] 0 0 := Stand.of_body Bd
  have e0 : s₁.heap = h0 := by rw [← hh, Bd.state]; rfl
  have N0 := Fr.nil n0
  refine own_enter (ef_1_R m (w 1)) ?_
  refine own_step (W' := s₁.setTop (mkF m 1 #[.val (.ref (w 1))] [(.ref (w 1))])) (fun _ k => XS.aloadN X0.here hx rfl (hb hby d1_0) rfl rfl k) ?_
  obtain ⟨T1, X1, e1, st1⟩ := getS2 X0 hx hZ hown (host := "") (Or.inl (hw _ (List.mem_of_getElem? (i := 38) rfl))) Via.refl e0 (pin_S13 P) (g := (mkF m 1 #[.val (.ref (w 1))] [(.ref (w 1))])) rfl (hb hby d1_1)
  refine own_step (W' := T1.setTop (mkF m 4 #[.val (.ref (w 1))] [(.ref (w 13)), (.ref (w 1))])) (fun _ k => st1 _ k) ?_
  refine own_step (W' := T1.setTop (mkF m 7 #[.val (.ref (w 1))] [])) (fun _ k => Jvm.RoadKit.acmp (g := (mkF m 4 #[.val (.ref (w 1))] [(.ref (w 13)), (.ref (w 1))])) X1 hx rfl rfl rfl (pc0 := 4) (pc' := 7) (same := false) rfl (hb hby d1_4) rfl (decide_eq_false fun q => (Fld.ne (pin_F1_ordinal P) (pin_F13_ordinal P) (by decide)) (Value.ref.inj q)) (by decide) (by decide) k) ?_
  refine own_step (W' := T1.setTop (mkF m 8 #[.val (.ref (w 1))] [(.int (1 : Int32))])) (fun _ k => XS.iconst X1.here hx rfl (hb hby d1_7) k) ?_
  refine own_step (W' := T1.setTop (mkF m 12 #[.val (.ref (w 1))] [(.int (1 : Int32))])) (fun _ k => XS.goto X1.here hx rfl (pc0 := 8) (pc' := 12) rfl (hb hby d1_8) (by decide) (by decide) k) ?_
  exact own_ret X1 Bd.notSynchronized Bd.returns (v := (.int (1 : Int32))) (fun fs hr => retN X1 hx (t := .boolean) Bd.returns (by simp) (hb hby d1_12) hr) ⟨rfl, N0, e1⟩ (by decide) (by decide)
set_option maxRecDepth 65536 in
set_option maxHeartbeats 40000000 in
theorem rm2_w1 (l : Launch) (Z : State) (a0 : Array Value) (hw : ∀ d ∈ tables_1, d.before a0 Z = true) (ws : List Jvm.Cond) (w : Nat → Addr) (h0 : Heap) (n0 : Nat) (Z0 : n0 ≤ h0.size) (P : Pins Z h0 w) :
    MetFree l (⟨"com/example/featherstar/featherstar/condition/Operator", "positive", "()Lcom/example/featherstar/featherstar/condition/Operator;"⟩ : MethodName) (head1 (Jvm.Cond.code (⟨"com/example/featherstar/featherstar/condition/Operator", "positive", "()Lcom/example/featherstar/featherstar/condition/Operator;"⟩ : MethodName) prog_13_method_8_code 1 (some (.object "com/example/featherstar/featherstar/condition/Operator")) :: ws) ({ frames := 0, cells := 0, slots := 0, locals := 0 } : Room)) (fun aA U => aA = #[(.ref (w 1))] ∧ Z.Warmed39 U.vm ∧ U.heap = h0) (fun _ _ _ _ _ => True) (fun _ U o U' => ∃ v L, o = .returned v ∧ own_QK (some (.ref (w 0))) h0 n0 v U'.heap L ∧ FrameEnd U o U' L ({ frames := 0, cells := 0, slots := 0, locals := 0 } : Room).cells ({ frames := 0, cells := 0, slots := 0, locals := 0 } : Room).slots) := by
  refine MetFree.of_bodySF (plainFor_of_name pn_com_example_featherstar_featherstar_condition_Operator) hisR ?_
  intro p e s m args below meth c s₁ Bd hml0 hP hK
  obtain ⟨rfl, hZ, hh⟩ := hP
  have hx := Bd.exec
  have hby := Bd.bytes
  have hml : c.maxLocals = 1 := hml0
  have hown : s.vm.findClass "com/example/featherstar/featherstar/condition/Operator" = some m.cls := findClass_of_methodNamed Bd.named
  have hnm := (name_of_methodNamed Bd.named Bd.method).1
  have X0 : Stand p l e ({ frames := 0, cells := 0, slots := 0, locals := 0 } : Room) s m #[(.ref (w 1))] below meth c s₁ [] 0 0 := Stand.of_body Bd
  have e0 : s₁.heap = h0 := by rw [← hh, Bd.state]; rfl
  have N0 := Fr.nil n0
  refine own_enter (ef_2_R m (w 1)) ?_
  refine own_step (W' := s₁.setTop (mkF m 1 #[.val (.ref (w 1))] [(.ref (w 1))])) (fun _ k => XS.aloadN X0.here hx rfl (hb hby d2_0) rfl rfl k) ?_
  obtain ⟨T1, X1, e1, st1⟩ := getF X0 hx hZ hown (host := "") (Or.inl (hw _ (List.mem_of_getElem? (i := 44) rfl))) Via.refl e0 (pin_F1_negated P) (g := (mkF m 1 #[.val (.ref (w 1))] [(.ref (w 1))])) rfl rfl (hb hby d2_1)
  refine own_step (W' := T1.setTop (mkF m 4 #[.val (.ref (w 1))] [(.ref (w 0))])) (fun _ k => st1 _ k) ?_
  refine own_step (W' := T1.setTop (mkF m 11 #[.val (.ref (w 1))] [])) (fun _ k => XS.ifnonnullYes X1.here hx rfl (pc0 := 4) (pc' := 11) rfl (hb hby d2_4) rfl (by decide) (by decide) k) ?_
  refine own_step (W' := T1.setTop (mkF m 12 #[.val (.ref (w 1))] [(.ref (w 1))])) (fun _ k => XS.aloadN X1.here hx rfl (hb hby d2_11) rfl rfl k) ?_
  obtain ⟨T2, X2, e2, st2⟩ := getF X1 hx hZ hown (host := "") (Or.inl (hw _ (List.mem_of_getElem? (i := 44) rfl))) Via.refl e1 (pin_F1_negated P) (g := (mkF m 12 #[.val (.ref (w 1))] [(.ref (w 1))])) rfl rfl (hb hby d2_12)
  refine own_step (W' := T2.setTop (mkF m 15 #[.val (.ref (w 1))] [(.ref (w 0))])) (fun _ k => st2 _ k) ?_
  exact own_ret X2 Bd.notSynchronized Bd.returns (v := (.ref (w 0))) (fun fs hr => retOut X2 hx Bd.returns rfl (Or.inr (Or.inr (Or.inr (Or.inr ⟨rfl, rfl, rfl⟩)))) (hb hby d2_15) hr) ⟨rfl, N0, e2⟩ (by decide) (by decide)
set_option maxRecDepth 65536 in
set_option maxHeartbeats 40000000 in
theorem rm0_1 (l : Launch) (Z : State) (a0 : Array Value) (hw : ∀ d ∈ tables_1, d.before a0 Z = true) (ws : List Jvm.Cond) (p1 : Int32) (hk : ((p1 &&& (2147483647 : Int32)) % (14 : Int32)) = (1 : Int32)) (w : Nat → Addr) (h0 : Heap) (n0 : Nat) (Z0 : n0 ≤ h0.size) (P : Pins Z h0 w) :
    MetFree l x (head1 (Jvm.Cond.code x code maxLocals ret :: ws) room_1) (fun aA U => aA = #[(.int p1)] ∧ Z.Warmed39 U.vm ∧ U.heap = h0) (fun _ _ _ _ _ => True) (fun _ U o U' => ∃ v L, o = .returned v ∧ own_Q0 n0 v U'.heap L ∧ FrameEnd U o U' L room_1.cells room_1.slots) := by
  refine MetFree.of_bodySF (plainFor_of_name pn_com_example_featherstar_featherstar_condition_OperatorTakesOperandPinLaw) hisR ?_
  intro p e s m args below meth c s₁ Bd hml0 hP hK
  obtain ⟨rfl, hZ, hh⟩ := hP
  have hx := Bd.exec
  have hby := Bd.bytes
  have hml : c.maxLocals = 7 := hml0
  have hown : s.vm.findClass "com/example/featherstar/featherstar/condition/OperatorTakesOperandPinLaw" = some m.cls := findClass_of_methodNamed Bd.named
  have hnm := (name_of_methodNamed Bd.named Bd.method).1
  have X0 : Stand p l e room_1 s m #[(.int p1)] below meth c s₁ [] 0 0 := Stand.of_body Bd
  have e0 : s₁.heap = h0 := by rw [← hh, Bd.state]; rfl
  have N0 := Fr.nil n0
  refine own_enter (ef_0_I m p1) ?_
  refine own_fill p1 X0 hx hZ hw hby hml hown e0 N0 Z0 P ?_
  intro T1 h1 L1 k1 b1 X1 e1 E1 N1 V1
  have P1 : Pins Z h1 w := P.ext E1
  have Z1 : n0 ≤ h1.size := Nat.le_trans Z0 E1.1
  refine own_step (W' := T1.setTop (mkF m 98 #[.val (.int p1), .val (.ref b1), .unset, .unset, .unset, .unset, .unset] [])) (fun _ k => XS.astoreN X1.here hx rfl (hb hby at_97) rfl rfl (l' := #[.val (.int p1), .val (.ref b1), .unset, .unset, .unset, .unset, .unset]) rfl k) ?_
  refine own_step (W' := T1.setTop (mkF m 99 #[.val (.int p1), .val (.ref b1), .unset, .unset, .unset, .unset, .unset] [(.int p1)])) (fun _ k => XS.iloadN X1.here hx rfl (hb hby at_98) rfl k) ?_
  refine own_step (W' := T1.setTop (mkF m 101 #[.val (.int p1), .val (.ref b1), .unset, .unset, .unset, .unset, .unset] [(.int (2147483647 : Int32)), (.int p1)])) (fun _ k => X1.ldcInt hx hown (mvT hZ (hw _ (List.mem_of_getElem? (i := 32) rfl))) (g := (mkF m 99 #[.val (.int p1), .val (.ref b1), .unset, .unset, .unset, .unset, .unset] [(.int p1)])) rfl (hb hby at_99) _ k) ?_
  refine own_step (W' := T1.setTop (mkF m 102 #[.val (.int p1), .val (.ref b1), .unset, .unset, .unset, .unset, .unset] [(.int (p1 &&& (2147483647 : Int32)))])) (fun _ k => XS.iand X1.here hx rfl (hb hby at_101) rfl k) ?_
  refine own_step (W' := T1.setTop (mkF m 104 #[.val (.int p1), .val (.ref b1), .unset, .unset, .unset, .unset, .unset] [(.int (14 : Int32)), (.int (p1 &&& (2147483647 : Int32)))])) (fun _ k => XS.bipush X1.here hx rfl (hb hby at_102) k) ?_
  refine own_step (W' := T1.setTop (mkF m 105 #[.val (.int p1), .val (.ref b1), .unset, .unset, .unset, .unset, .unset] [(.int ((p1 &&& (2147483647 : Int32)) % (14 : Int32)))])) (fun _ k => iremM X1 hx rfl (hb hby at_104) rfl (by decide) k) ?_
  rw [hk]
  refine own_step (W' := T1.setTop (mkF m 106 #[.val (.int p1), .val (.ref b1), .val (.int (1 : Int32)), .unset, .unset, .unset, .unset] [])) (fun _ k => XS.istoreN X1.here hx rfl (hb hby at_105) rfl (l' := #[.val (.int p1), .val (.ref b1), .val (.int (1 : Int32)), .unset, .unset, .unset, .unset]) rfl k) ?_
  refine own_step (W' := T1.setTop (mkF m 107 #[.val (.int p1), .val (.ref b1), .val (.int (1 : Int32)), .unset, .unset, .unset, .unset] [(.ref b1)])) (fun _ k => XS.aloadN X1.here hx rfl (hb hby at_106) rfl rfl k) ?_
  refine own_step (W' := T1.setTop (mkF m 108 #[.val (.int p1), .val (.ref b1), .val (.int (1 : Int32)), .unset, .unset, .unset, .unset] [(.int (1 : Int32)), (.ref b1)])) (fun _ k => XS.iloadN X1.here hx rfl (hb hby at_107) rfl k) ?_
  refine own_step (W' := T1.setTop (mkF m 109 #[.val (.int p1), .val (.ref b1), .val (.int (1 : Int32)), .unset, .unset, .unset, .unset] [(.ref (w 1))])) (fun _ k => own_ldR X1 hx hZ e1 V1 (j := (1 : Int32)) (v := (.ref (w 1))) ⟨by decide, by decide⟩ rfl (g := (mkF m 108 #[.val (.int p1), .val (.ref b1), .val (.int (1 : Int32)), .unset, .unset, .unset, .unset] [(.int (1 : Int32)), (.ref b1)])) rfl rfl (hb hby at_108) _ k) ?_
  refine own_step (W' := T1.setTop (mkF m 110 #[.val (.int p1), .val (.ref b1), .val (.int (1 : Int32)), .val (.ref (w 1)), .unset, .unset, .unset] [])) (fun _ k => XS.astoreN X1.here hx rfl (hb hby at_109) rfl rfl (l' := #[.val (.int p1), .val (.ref b1), .val (.int (1 : Int32)), .val (.ref (w 1)), .unset, .unset, .unset]) rfl k) ?_
  refine own_step (W' := T1.setTop (mkF m 111 #[.val (.int p1), .val (.ref b1), .val (.int (1 : Int32)), .val (.ref (w 1)), .unset, .unset, .unset] [(.int (1 : Int32))])) (fun _ k => XS.iloadN X1.here hx rfl (hb hby at_110) rfl k) ?_
  refine own_step (W' := T1.setTop (mkF m 113 #[.val (.int p1), .val (.ref b1), .val (.int (1 : Int32)), .val (.ref (w 1)), .unset, .unset, .unset] [(.int (13 : Int32)), (.int (1 : Int32))])) (fun _ k => XS.bipush X1.here hx rfl (hb hby at_111) k) ?_
  refine own_step (W' := T1.setTop (mkF m 116 #[.val (.int p1), .val (.ref b1), .val (.int (1 : Int32)), .val (.ref (w 1)), .unset, .unset, .unset] [])) (fun _ k => XS.icmpNo X1.here hx rfl (hb hby at_113) rfl (by decide) k) ?_
  refine own_step (W' := T1.setTop (mkF m 117 #[.val (.int p1), .val (.ref b1), .val (.int (1 : Int32)), .val (.ref (w 1)), .unset, .unset, .unset] [(.int (1 : Int32))])) (fun _ k => XS.iconst X1.here hx rfl (hb hby at_116) k) ?_
  refine own_step (W' := T1.setTop (mkF m 121 #[.val (.int p1), .val (.ref b1), .val (.int (1 : Int32)), .val (.ref (w 1)), .unset, .unset, .unset] [(.int (1 : Int32))])) (fun _ k => XS.goto X1.here hx rfl (pc0 := 117) (pc' := 121) rfl (hb hby at_117) (by decide) (by decide) k) ?_
  refine own_step (W' := T1.setTop (mkF m 123 #[.val (.int p1), .val (.ref b1), .val (.int (1 : Int32)), .val (.ref (w 1)), .val (.int (1 : Int32)), .unset, .unset] [])) (fun _ k => XS.istore X1.here hx rfl (hb hby at_121) rfl (l' := #[.val (.int p1), .val (.ref b1), .val (.int (1 : Int32)), .val (.ref (w 1)), .val (.int (1 : Int32)), .unset, .unset]) rfl k) ?_
  refine own_step (W' := T1.setTop (mkF m 124 #[.val (.int p1), .val (.ref b1), .val (.int (1 : Int32)), .val (.ref (w 1)), .val (.int (1 : Int32)), .unset, .unset] [(.ref (w 1))])) (fun _ k => XS.aloadN X1.here hx rfl (hb hby at_123) rfl rfl k) ?_
  obtain ⟨cq2, kq2, q2a, q2b, q2c⟩ := isOf hZ e1 (pin_E1 P1)
  obtain ⟨_, _, ⟨T2, L2, k2, n2⟩, -, X2, ⟨Lc2, hQ2, l2, y2, z2⟩, st2⟩ := X1.virtualBack hx (y := (⟨"com/example/featherstar/featherstar/condition/Operator", "takesOperand", "()Z"⟩ : MethodName)) (z := (⟨"com/example/featherstar/featherstar/condition/Operator", "takesOperand", "()Z"⟩ : MethodName)) hown (mvT hZ (hw _ (List.mem_of_getElem? (i := 33) rfl))) (mvT hZ (hw _ (List.mem_of_getElem? (i := 34) rfl))) (notFace_of_selects (args := #[]) (mvT hZ (hw _ (List.mem_of_getElem? (i := 36) rfl)))) (mvT hZ (hw _ (List.mem_of_getElem? (i := 36) rfl))) (mvT hZ (hw _ (List.mem_of_getElem? (i := 35) rfl))) (by decide) (backOf (W := 0) (rm1_w1 l Z a0 hw [] w h1 n0 Z1 P1) hZ (hw _ (List.mem_of_getElem? (i := 37) rfl)) (hw _ (List.mem_of_getElem? (i := 3) rfl)) (by decide) (by decide)) q2a q2c (g := (mkF m 124 #[.val (.int p1), .val (.ref b1), .val (.int (1 : Int32)), .val (.ref (w 1)), .val (.int (1 : Int32)), .unset, .unset] [(.ref (w 1))])) rfl (by rw [hml]; rfl) (Steps.refl _) (argsL := []) (rest := []) (lenOf pd_0 rfl) rfl (by show 2 * 0 + _ ≤ _; exact Nat.le_of_eq rfl) (hb hby at_124) (fun _ _ => ⟨rfl, e1, (by decide : 1 + 0 ≤ _), (by decide : 14 + 0 ≤ _)⟩)
  dsimp only [Pt.U, Pt.locs, Pt.cells, Pt.slots] at X2 l2 y2 z2 st2 hQ2
  subst l2 y2 z2
  obtain ⟨rfl, N2q, e2⟩ := hQ2
  have N2 := Fr.app N1 N2q
  refine own_step (W' := T2.setTop (mkF m 127 #[.val (.int p1), .val (.ref b1), .val (.int (1 : Int32)), .val (.ref (w 1)), .val (.int (1 : Int32)), .unset, .unset] [(.int (1 : Int32))])) (fun _ k => st2.trans k) ?_
  refine own_step (W' := T2.setTop (mkF m 129 #[.val (.int p1), .val (.ref b1), .val (.int (1 : Int32)), .val (.ref (w 1)), .val (.int (1 : Int32)), .val (.int (1 : Int32)), .unset] [])) (fun _ k => XS.istore X2.here hx rfl (hb hby at_127) rfl (l' := #[.val (.int p1), .val (.ref b1), .val (.int (1 : Int32)), .val (.ref (w 1)), .val (.int (1 : Int32)), .val (.int (1 : Int32)), .unset]) rfl k) ?_
  refine own_step (W' := T2.setTop (mkF m 130 #[.val (.int p1), .val (.ref b1), .val (.int (1 : Int32)), .val (.ref (w 1)), .val (.int (1 : Int32)), .val (.int (1 : Int32)), .unset] [(.ref (w 1))])) (fun _ k => XS.aloadN X2.here hx rfl (hb hby at_129) rfl rfl k) ?_
  obtain ⟨cq3, kq3, q3a, q3b, q3c⟩ := isOf hZ e2 (pin_E1 P1)
  obtain ⟨_, _, ⟨T3, L3, k3, n3⟩, -, X3, ⟨Lc3, hQ3, l3, y3, z3⟩, st3⟩ := X2.virtualBack hx (y := (⟨"com/example/featherstar/featherstar/condition/Operator", "positive", "()Lcom/example/featherstar/featherstar/condition/Operator;"⟩ : MethodName)) (z := (⟨"com/example/featherstar/featherstar/condition/Operator", "positive", "()Lcom/example/featherstar/featherstar/condition/Operator;"⟩ : MethodName)) hown (mvT hZ (hw _ (List.mem_of_getElem? (i := 39) rfl))) (mvT hZ (hw _ (List.mem_of_getElem? (i := 40) rfl))) (notFace_of_selects (args := #[]) (mvT hZ (hw _ (List.mem_of_getElem? (i := 42) rfl)))) (mvT hZ (hw _ (List.mem_of_getElem? (i := 42) rfl))) (mvT hZ (hw _ (List.mem_of_getElem? (i := 41) rfl))) (by decide) (backOf (W := 0) (rm2_w1 l Z a0 hw [] w h1 n0 Z1 P1) hZ (hw _ (List.mem_of_getElem? (i := 43) rfl)) (hw _ (List.mem_of_getElem? (i := 3) rfl)) (by decide) (by decide)) q3a q3c (g := (mkF m 130 #[.val (.int p1), .val (.ref b1), .val (.int (1 : Int32)), .val (.ref (w 1)), .val (.int (1 : Int32)), .val (.int (1 : Int32)), .unset] [(.ref (w 1))])) rfl (by rw [hml]; rfl) (Steps.refl _) (argsL := []) (rest := []) (lenOf pd_1 rfl) rfl (by show 2 * 0 + _ ≤ _; exact Nat.le_of_eq rfl) (hb hby at_130) (fun _ _ => ⟨rfl, e2, (by decide : 1 + 0 ≤ _), (by decide : 14 + 0 ≤ _)⟩)
  dsimp only [Pt.U, Pt.locs, Pt.cells, Pt.slots] at X3 l3 y3 z3 st3 hQ3
  subst l3 y3 z3
  obtain ⟨rfl, N3q, e3⟩ := hQ3
  have N3 := Fr.app N2 N3q
  refine own_step (W' := T3.setTop (mkF m 133 #[.val (.int p1), .val (.ref b1), .val (.int (1 : Int32)), .val (.ref (w 1)), .val (.int (1 : Int32)), .val (.int (1 : Int32)), .unset] [(.ref (w 0))])) (fun _ k => st3.trans k) ?_
  obtain ⟨cq4, kq4, q4a, q4b, q4c⟩ := isOf hZ e3 (pin_E0 P1)
  obtain ⟨_, _, ⟨T4, L4, k4, n4⟩, -, X4, ⟨Lc4, hQ4, l4, y4, z4⟩, st4⟩ := X3.virtualBack hx (y := (⟨"com/example/featherstar/featherstar/condition/Operator", "takesOperand", "()Z"⟩ : MethodName)) (z := (⟨"com/example/featherstar/featherstar/condition/Operator", "takesOperand", "()Z"⟩ : MethodName)) hown (mvT hZ (hw _ (List.mem_of_getElem? (i := 33) rfl))) (mvT hZ (hw _ (List.mem_of_getElem? (i := 34) rfl))) (notFace_of_selects (args := #[]) (mvT hZ (hw _ (List.mem_of_getElem? (i := 36) rfl)))) (mvT hZ (hw _ (List.mem_of_getElem? (i := 36) rfl))) (mvT hZ (hw _ (List.mem_of_getElem? (i := 35) rfl))) (by decide) (backOf (W := 0) (rm1_w0 l Z a0 hw [] w h1 n0 Z1 P1) hZ (hw _ (List.mem_of_getElem? (i := 37) rfl)) (hw _ (List.mem_of_getElem? (i := 3) rfl)) (by decide) (by decide)) q4a q4c (g := (mkF m 133 #[.val (.int p1), .val (.ref b1), .val (.int (1 : Int32)), .val (.ref (w 1)), .val (.int (1 : Int32)), .val (.int (1 : Int32)), .unset] [(.ref (w 0))])) rfl (by rw [hml]; rfl) (Steps.refl _) (argsL := []) (rest := []) (lenOf pd_0 rfl) rfl (by show 2 * 0 + _ ≤ _; exact Nat.le_of_eq rfl) (hb hby at_133) (fun _ _ => ⟨rfl, e3, (by decide : 1 + 0 ≤ _), (by decide : 14 + 0 ≤ _)⟩)
  dsimp only [Pt.U, Pt.locs, Pt.cells, Pt.slots] at X4 l4 y4 z4 st4 hQ4
  subst l4 y4 z4
  obtain ⟨rfl, N4q, e4⟩ := hQ4
  have N4 := Fr.app N3 N4q
  refine own_step (W' := T4.setTop (mkF m 136 #[.val (.int p1), .val (.ref b1), .val (.int (1 : Int32)), .val (.ref (w 1)), .val (.int (1 : Int32)), .val (.int (1 : Int32)), .unset] [(.int (1 : Int32))])) (fun _ k => st4.trans k) ?_
  refine own_step (W' := T4.setTop (mkF m 138 #[.val (.int p1), .val (.ref b1), .val (.int (1 : Int32)), .val (.ref (w 1)), .val (.int (1 : Int32)), .val (.int (1 : Int32)), .val (.int (1 : Int32))] [])) (fun _ k => XS.istore X4.here hx rfl (hb hby at_136) rfl (l' := #[.val (.int p1), .val (.ref b1), .val (.int (1 : Int32)), .val (.ref (w 1)), .val (.int (1 : Int32)), .val (.int (1 : Int32)), .val (.int (1 : Int32))]) rfl k) ?_
  refine own_step (W' := T4.setTop (mkF m 140 #[.val (.int p1), .val (.ref b1), .val (.int (1 : Int32)), .val (.ref (w 1)), .val (.int (1 : Int32)), .val (.int (1 : Int32)), .val (.int (1 : Int32))] [(.int (1 : Int32))])) (fun _ k => XS.iload X4.here hx rfl (hb hby at_138) rfl k) ?_
  refine own_step (W' := T4.setTop (mkF m 142 #[.val (.int p1), .val (.ref b1), .val (.int (1 : Int32)), .val (.ref (w 1)), .val (.int (1 : Int32)), .val (.int (1 : Int32)), .val (.int (1 : Int32))] [(.int (1 : Int32)), (.int (1 : Int32))])) (fun _ k => XS.iload X4.here hx rfl (hb hby at_140) rfl k) ?_
  refine own_step (W' := T4.setTop (mkF m 145 #[.val (.int p1), .val (.ref b1), .val (.int (1 : Int32)), .val (.ref (w 1)), .val (.int (1 : Int32)), .val (.int (1 : Int32)), .val (.int (1 : Int32))] [])) (fun _ k => XS.icmpNo X4.here hx rfl (hb hby at_142) rfl (by decide) k) ?_
  refine own_step (W' := T4.setTop (mkF m 147 #[.val (.int p1), .val (.ref b1), .val (.int (1 : Int32)), .val (.ref (w 1)), .val (.int (1 : Int32)), .val (.int (1 : Int32)), .val (.int (1 : Int32))] [(.int (1 : Int32))])) (fun _ k => XS.iload X4.here hx rfl (hb hby at_145) rfl k) ?_
  refine own_step (W' := T4.setTop (mkF m 149 #[.val (.int p1), .val (.ref b1), .val (.int (1 : Int32)), .val (.ref (w 1)), .val (.int (1 : Int32)), .val (.int (1 : Int32)), .val (.int (1 : Int32))] [(.int (1 : Int32)), (.int (1 : Int32))])) (fun _ k => XS.iload X4.here hx rfl (hb hby at_147) rfl k) ?_
  refine own_step (W' := T4.setTop (mkF m 152 #[.val (.int p1), .val (.ref b1), .val (.int (1 : Int32)), .val (.ref (w 1)), .val (.int (1 : Int32)), .val (.int (1 : Int32)), .val (.int (1 : Int32))] [])) (fun _ k => XS.icmpNo X4.here hx rfl (hb hby at_149) rfl (by decide) k) ?_
  refine own_step (W' := T4.setTop (mkF m 153 #[.val (.int p1), .val (.ref b1), .val (.int (1 : Int32)), .val (.ref (w 1)), .val (.int (1 : Int32)), .val (.int (1 : Int32)), .val (.int (1 : Int32))] [(.int (1 : Int32))])) (fun _ k => XS.iconst X4.here hx rfl (hb hby at_152) k) ?_
  refine own_step (W' := T4.setTop (mkF m 157 #[.val (.int p1), .val (.ref b1), .val (.int (1 : Int32)), .val (.ref (w 1)), .val (.int (1 : Int32)), .val (.int (1 : Int32)), .val (.int (1 : Int32))] [(.int (1 : Int32))])) (fun _ k => XS.goto X4.here hx rfl (pc0 := 153) (pc' := 157) rfl (hb hby at_153) (by decide) (by decide) k) ?_
  exact own_ret X4 Bd.notSynchronized Bd.returns (v := (.int (1 : Int32))) (fun fs hr => retN X4 hx (t := .boolean) Bd.returns (by simp) (hb hby at_157) hr) ⟨rfl, N4⟩ (by decide) (by decide)
set_option maxRecDepth 65536 in
set_option maxHeartbeats 40000000 in
theorem rm1_w2 (l : Launch) (Z : State) (a0 : Array Value) (hw : ∀ d ∈ tables_1, d.before a0 Z = true) (ws : List Jvm.Cond) (w : Nat → Addr) (h0 : Heap) (n0 : Nat) (Z0 : n0 ≤ h0.size) (P : Pins Z h0 w) :
    MetFree l (⟨"com/example/featherstar/featherstar/condition/Operator", "takesOperand", "()Z"⟩ : MethodName) (head1 (Jvm.Cond.code (⟨"com/example/featherstar/featherstar/condition/Operator", "takesOperand", "()Z"⟩ : MethodName) prog_13_method_6_code 1 (some .boolean) :: ws) ({ frames := 0, cells := 0, slots := 0, locals := 0 } : Room)) (fun aA U => aA = #[(.ref (w 2))] ∧ Z.Warmed39 U.vm ∧ U.heap = h0) (fun _ _ _ _ _ => True) (fun _ U o U' => ∃ v L, o = .returned v ∧ own_QK (some (.int (1 : Int32))) h0 n0 v U'.heap L ∧ FrameEnd U o U' L ({ frames := 0, cells := 0, slots := 0, locals := 0 } : Room).cells ({ frames := 0, cells := 0, slots := 0, locals := 0 } : Room).slots) := by
  refine MetFree.of_bodySF (plainFor_of_name pn_com_example_featherstar_featherstar_condition_Operator) hisR ?_
  intro p e s m args below meth c s₁ Bd hml0 hP hK
  obtain ⟨rfl, hZ, hh⟩ := hP
  have hx := Bd.exec
  have hby := Bd.bytes
  have hml : c.maxLocals = 1 := hml0
  have hown : s.vm.findClass "com/example/featherstar/featherstar/condition/Operator" = some m.cls := findClass_of_methodNamed Bd.named
  have hnm := (name_of_methodNamed Bd.named Bd.method).1
  have X0 : Stand p l e ({ frames := 0, cells := 0, slots := 0, locals := 0 } : Room) s m #[(.ref (w 2))] below meth c s₁ [] 0 0 := Stand.of_body Bd
  have e0 : s₁.heap = h0 := by rw [← hh, Bd.state]; rfl
  have N0 := Fr.nil n0
  refine own_enter (ef_1_R m (w 2)) ?_
  refine own_step (W' := s₁.setTop (mkF m 1 #[.val (.ref (w 2))] [(.ref (w 2))])) (fun _ k => XS.aloadN X0.here hx rfl (hb hby d1_0) rfl rfl k) ?_
  obtain ⟨T1, X1, e1, st1⟩ := getS2 X0 hx hZ hown (host := "") (Or.inl (hw _ (List.mem_of_getElem? (i := 38) rfl))) Via.refl e0 (pin_S13 P) (g := (mkF m 1 #[.val (.ref (w 2))] [(.ref (w 2))])) rfl (hb hby d1_1)
  refine own_step (W' := T1.setTop (mkF m 4 #[.val (.ref (w 2))] [(.ref (w 13)), (.ref (w 2))])) (fun _ k => st1 _ k) ?_
  refine own_step (W' := T1.setTop (mkF m 7 #[.val (.ref (w 2))] [])) (fun _ k => Jvm.RoadKit.acmp (g := (mkF m 4 #[.val (.ref (w 2))] [(.ref (w 13)), (.ref (w 2))])) X1 hx rfl rfl rfl (pc0 := 4) (pc' := 7) (same := false) rfl (hb hby d1_4) rfl (decide_eq_false fun q => (Fld.ne (pin_F2_ordinal P) (pin_F13_ordinal P) (by decide)) (Value.ref.inj q)) (by decide) (by decide) k) ?_
  refine own_step (W' := T1.setTop (mkF m 8 #[.val (.ref (w 2))] [(.int (1 : Int32))])) (fun _ k => XS.iconst X1.here hx rfl (hb hby d1_7) k) ?_
  refine own_step (W' := T1.setTop (mkF m 12 #[.val (.ref (w 2))] [(.int (1 : Int32))])) (fun _ k => XS.goto X1.here hx rfl (pc0 := 8) (pc' := 12) rfl (hb hby d1_8) (by decide) (by decide) k) ?_
  exact own_ret X1 Bd.notSynchronized Bd.returns (v := (.int (1 : Int32))) (fun fs hr => retN X1 hx (t := .boolean) Bd.returns (by simp) (hb hby d1_12) hr) ⟨rfl, N0, e1⟩ (by decide) (by decide)
set_option maxRecDepth 65536 in
set_option maxHeartbeats 40000000 in
theorem rm2_w2 (l : Launch) (Z : State) (a0 : Array Value) (hw : ∀ d ∈ tables_1, d.before a0 Z = true) (ws : List Jvm.Cond) (w : Nat → Addr) (h0 : Heap) (n0 : Nat) (Z0 : n0 ≤ h0.size) (P : Pins Z h0 w) :
    MetFree l (⟨"com/example/featherstar/featherstar/condition/Operator", "positive", "()Lcom/example/featherstar/featherstar/condition/Operator;"⟩ : MethodName) (head1 (Jvm.Cond.code (⟨"com/example/featherstar/featherstar/condition/Operator", "positive", "()Lcom/example/featherstar/featherstar/condition/Operator;"⟩ : MethodName) prog_13_method_8_code 1 (some (.object "com/example/featherstar/featherstar/condition/Operator")) :: ws) ({ frames := 0, cells := 0, slots := 0, locals := 0 } : Room)) (fun aA U => aA = #[(.ref (w 2))] ∧ Z.Warmed39 U.vm ∧ U.heap = h0) (fun _ _ _ _ _ => True) (fun _ U o U' => ∃ v L, o = .returned v ∧ own_QK (some (.ref (w 2))) h0 n0 v U'.heap L ∧ FrameEnd U o U' L ({ frames := 0, cells := 0, slots := 0, locals := 0 } : Room).cells ({ frames := 0, cells := 0, slots := 0, locals := 0 } : Room).slots) := by
  refine MetFree.of_bodySF (plainFor_of_name pn_com_example_featherstar_featherstar_condition_Operator) hisR ?_
  intro p e s m args below meth c s₁ Bd hml0 hP hK
  obtain ⟨rfl, hZ, hh⟩ := hP
  have hx := Bd.exec
  have hby := Bd.bytes
  have hml : c.maxLocals = 1 := hml0
  have hown : s.vm.findClass "com/example/featherstar/featherstar/condition/Operator" = some m.cls := findClass_of_methodNamed Bd.named
  have hnm := (name_of_methodNamed Bd.named Bd.method).1
  have X0 : Stand p l e ({ frames := 0, cells := 0, slots := 0, locals := 0 } : Room) s m #[(.ref (w 2))] below meth c s₁ [] 0 0 := Stand.of_body Bd
  have e0 : s₁.heap = h0 := by rw [← hh, Bd.state]; rfl
  have N0 := Fr.nil n0
  refine own_enter (ef_2_R m (w 2)) ?_
  refine own_step (W' := s₁.setTop (mkF m 1 #[.val (.ref (w 2))] [(.ref (w 2))])) (fun _ k => XS.aloadN X0.here hx rfl (hb hby d2_0) rfl rfl k) ?_
  obtain ⟨T1, X1, e1, st1⟩ := getF X0 hx hZ hown (host := "") (Or.inl (hw _ (List.mem_of_getElem? (i := 44) rfl))) Via.refl e0 (pin_F2_negated P) (g := (mkF m 1 #[.val (.ref (w 2))] [(.ref (w 2))])) rfl rfl (hb hby d2_1)
  refine own_step (W' := T1.setTop (mkF m 4 #[.val (.ref (w 2))] [.null])) (fun _ k => st1 _ k) ?_
  refine own_step (W' := T1.setTop (mkF m 7 #[.val (.ref (w 2))] [])) (fun _ k => XS.ifnonnullNo X1.here hx rfl (hb hby d2_4) rfl k) ?_
  refine own_step (W' := T1.setTop (mkF m 8 #[.val (.ref (w 2))] [(.ref (w 2))])) (fun _ k => XS.aloadN X1.here hx rfl (hb hby d2_7) rfl rfl k) ?_
  refine own_step (W' := T1.setTop (mkF m 15 #[.val (.ref (w 2))] [(.ref (w 2))])) (fun _ k => XS.goto X1.here hx rfl (pc0 := 8) (pc' := 15) rfl (hb hby d2_8) (by decide) (by decide) k) ?_
  exact own_ret X1 Bd.notSynchronized Bd.returns (v := (.ref (w 2))) (fun fs hr => retOut X1 hx Bd.returns rfl (Or.inr (Or.inr (Or.inr (Or.inr ⟨rfl, rfl, rfl⟩)))) (hb hby d2_15) hr) ⟨rfl, N0, e1⟩ (by decide) (by decide)
set_option maxRecDepth 65536 in
set_option maxHeartbeats 40000000 in
theorem rm0_2 (l : Launch) (Z : State) (a0 : Array Value) (hw : ∀ d ∈ tables_1, d.before a0 Z = true) (ws : List Jvm.Cond) (p1 : Int32) (hk : ((p1 &&& (2147483647 : Int32)) % (14 : Int32)) = (2 : Int32)) (w : Nat → Addr) (h0 : Heap) (n0 : Nat) (Z0 : n0 ≤ h0.size) (P : Pins Z h0 w) :
    MetFree l x (head1 (Jvm.Cond.code x code maxLocals ret :: ws) room_1) (fun aA U => aA = #[(.int p1)] ∧ Z.Warmed39 U.vm ∧ U.heap = h0) (fun _ _ _ _ _ => True) (fun _ U o U' => ∃ v L, o = .returned v ∧ own_Q0 n0 v U'.heap L ∧ FrameEnd U o U' L room_1.cells room_1.slots) := by
  refine MetFree.of_bodySF (plainFor_of_name pn_com_example_featherstar_featherstar_condition_OperatorTakesOperandPinLaw) hisR ?_
  intro p e s m args below meth c s₁ Bd hml0 hP hK
  obtain ⟨rfl, hZ, hh⟩ := hP
  have hx := Bd.exec
  have hby := Bd.bytes
  have hml : c.maxLocals = 7 := hml0
  have hown : s.vm.findClass "com/example/featherstar/featherstar/condition/OperatorTakesOperandPinLaw" = some m.cls := findClass_of_methodNamed Bd.named
  have hnm := (name_of_methodNamed Bd.named Bd.method).1
  have X0 : Stand p l e room_1 s m #[(.int p1)] below meth c s₁ [] 0 0 := Stand.of_body Bd
  have e0 : s₁.heap = h0 := by rw [← hh, Bd.state]; rfl
  have N0 := Fr.nil n0
  refine own_enter (ef_0_I m p1) ?_
  refine own_fill p1 X0 hx hZ hw hby hml hown e0 N0 Z0 P ?_
  intro T1 h1 L1 k1 b1 X1 e1 E1 N1 V1
  have P1 : Pins Z h1 w := P.ext E1
  have Z1 : n0 ≤ h1.size := Nat.le_trans Z0 E1.1
  refine own_step (W' := T1.setTop (mkF m 98 #[.val (.int p1), .val (.ref b1), .unset, .unset, .unset, .unset, .unset] [])) (fun _ k => XS.astoreN X1.here hx rfl (hb hby at_97) rfl rfl (l' := #[.val (.int p1), .val (.ref b1), .unset, .unset, .unset, .unset, .unset]) rfl k) ?_
  refine own_step (W' := T1.setTop (mkF m 99 #[.val (.int p1), .val (.ref b1), .unset, .unset, .unset, .unset, .unset] [(.int p1)])) (fun _ k => XS.iloadN X1.here hx rfl (hb hby at_98) rfl k) ?_
  refine own_step (W' := T1.setTop (mkF m 101 #[.val (.int p1), .val (.ref b1), .unset, .unset, .unset, .unset, .unset] [(.int (2147483647 : Int32)), (.int p1)])) (fun _ k => X1.ldcInt hx hown (mvT hZ (hw _ (List.mem_of_getElem? (i := 32) rfl))) (g := (mkF m 99 #[.val (.int p1), .val (.ref b1), .unset, .unset, .unset, .unset, .unset] [(.int p1)])) rfl (hb hby at_99) _ k) ?_
  refine own_step (W' := T1.setTop (mkF m 102 #[.val (.int p1), .val (.ref b1), .unset, .unset, .unset, .unset, .unset] [(.int (p1 &&& (2147483647 : Int32)))])) (fun _ k => XS.iand X1.here hx rfl (hb hby at_101) rfl k) ?_
  refine own_step (W' := T1.setTop (mkF m 104 #[.val (.int p1), .val (.ref b1), .unset, .unset, .unset, .unset, .unset] [(.int (14 : Int32)), (.int (p1 &&& (2147483647 : Int32)))])) (fun _ k => XS.bipush X1.here hx rfl (hb hby at_102) k) ?_
  refine own_step (W' := T1.setTop (mkF m 105 #[.val (.int p1), .val (.ref b1), .unset, .unset, .unset, .unset, .unset] [(.int ((p1 &&& (2147483647 : Int32)) % (14 : Int32)))])) (fun _ k => iremM X1 hx rfl (hb hby at_104) rfl (by decide) k) ?_
  rw [hk]
  refine own_step (W' := T1.setTop (mkF m 106 #[.val (.int p1), .val (.ref b1), .val (.int (2 : Int32)), .unset, .unset, .unset, .unset] [])) (fun _ k => XS.istoreN X1.here hx rfl (hb hby at_105) rfl (l' := #[.val (.int p1), .val (.ref b1), .val (.int (2 : Int32)), .unset, .unset, .unset, .unset]) rfl k) ?_
  refine own_step (W' := T1.setTop (mkF m 107 #[.val (.int p1), .val (.ref b1), .val (.int (2 : Int32)), .unset, .unset, .unset, .unset] [(.ref b1)])) (fun _ k => XS.aloadN X1.here hx rfl (hb hby at_106) rfl rfl k) ?_
  refine own_step (W' := T1.setTop (mkF m 108 #[.val (.int p1), .val (.ref b1), .val (.int (2 : Int32)), .unset, .unset, .unset, .unset] [(.int (2 : Int32)), (.ref b1)])) (fun _ k => XS.iloadN X1.here hx rfl (hb hby at_107) rfl k) ?_
  refine own_step (W' := T1.setTop (mkF m 109 #[.val (.int p1), .val (.ref b1), .val (.int (2 : Int32)), .unset, .unset, .unset, .unset] [(.ref (w 2))])) (fun _ k => own_ldR X1 hx hZ e1 V1 (j := (2 : Int32)) (v := (.ref (w 2))) ⟨by decide, by decide⟩ rfl (g := (mkF m 108 #[.val (.int p1), .val (.ref b1), .val (.int (2 : Int32)), .unset, .unset, .unset, .unset] [(.int (2 : Int32)), (.ref b1)])) rfl rfl (hb hby at_108) _ k) ?_
  refine own_step (W' := T1.setTop (mkF m 110 #[.val (.int p1), .val (.ref b1), .val (.int (2 : Int32)), .val (.ref (w 2)), .unset, .unset, .unset] [])) (fun _ k => XS.astoreN X1.here hx rfl (hb hby at_109) rfl rfl (l' := #[.val (.int p1), .val (.ref b1), .val (.int (2 : Int32)), .val (.ref (w 2)), .unset, .unset, .unset]) rfl k) ?_
  refine own_step (W' := T1.setTop (mkF m 111 #[.val (.int p1), .val (.ref b1), .val (.int (2 : Int32)), .val (.ref (w 2)), .unset, .unset, .unset] [(.int (2 : Int32))])) (fun _ k => XS.iloadN X1.here hx rfl (hb hby at_110) rfl k) ?_
  refine own_step (W' := T1.setTop (mkF m 113 #[.val (.int p1), .val (.ref b1), .val (.int (2 : Int32)), .val (.ref (w 2)), .unset, .unset, .unset] [(.int (13 : Int32)), (.int (2 : Int32))])) (fun _ k => XS.bipush X1.here hx rfl (hb hby at_111) k) ?_
  refine own_step (W' := T1.setTop (mkF m 116 #[.val (.int p1), .val (.ref b1), .val (.int (2 : Int32)), .val (.ref (w 2)), .unset, .unset, .unset] [])) (fun _ k => XS.icmpNo X1.here hx rfl (hb hby at_113) rfl (by decide) k) ?_
  refine own_step (W' := T1.setTop (mkF m 117 #[.val (.int p1), .val (.ref b1), .val (.int (2 : Int32)), .val (.ref (w 2)), .unset, .unset, .unset] [(.int (1 : Int32))])) (fun _ k => XS.iconst X1.here hx rfl (hb hby at_116) k) ?_
  refine own_step (W' := T1.setTop (mkF m 121 #[.val (.int p1), .val (.ref b1), .val (.int (2 : Int32)), .val (.ref (w 2)), .unset, .unset, .unset] [(.int (1 : Int32))])) (fun _ k => XS.goto X1.here hx rfl (pc0 := 117) (pc' := 121) rfl (hb hby at_117) (by decide) (by decide) k) ?_
  refine own_step (W' := T1.setTop (mkF m 123 #[.val (.int p1), .val (.ref b1), .val (.int (2 : Int32)), .val (.ref (w 2)), .val (.int (1 : Int32)), .unset, .unset] [])) (fun _ k => XS.istore X1.here hx rfl (hb hby at_121) rfl (l' := #[.val (.int p1), .val (.ref b1), .val (.int (2 : Int32)), .val (.ref (w 2)), .val (.int (1 : Int32)), .unset, .unset]) rfl k) ?_
  refine own_step (W' := T1.setTop (mkF m 124 #[.val (.int p1), .val (.ref b1), .val (.int (2 : Int32)), .val (.ref (w 2)), .val (.int (1 : Int32)), .unset, .unset] [(.ref (w 2))])) (fun _ k => XS.aloadN X1.here hx rfl (hb hby at_123) rfl rfl k) ?_
  obtain ⟨cq2, kq2, q2a, q2b, q2c⟩ := isOf hZ e1 (pin_E2 P1)
  obtain ⟨_, _, ⟨T2, L2, k2, n2⟩, -, X2, ⟨Lc2, hQ2, l2, y2, z2⟩, st2⟩ := X1.virtualBack hx (y := (⟨"com/example/featherstar/featherstar/condition/Operator", "takesOperand", "()Z"⟩ : MethodName)) (z := (⟨"com/example/featherstar/featherstar/condition/Operator", "takesOperand", "()Z"⟩ : MethodName)) hown (mvT hZ (hw _ (List.mem_of_getElem? (i := 33) rfl))) (mvT hZ (hw _ (List.mem_of_getElem? (i := 34) rfl))) (notFace_of_selects (args := #[]) (mvT hZ (hw _ (List.mem_of_getElem? (i := 36) rfl)))) (mvT hZ (hw _ (List.mem_of_getElem? (i := 36) rfl))) (mvT hZ (hw _ (List.mem_of_getElem? (i := 35) rfl))) (by decide) (backOf (W := 0) (rm1_w2 l Z a0 hw [] w h1 n0 Z1 P1) hZ (hw _ (List.mem_of_getElem? (i := 37) rfl)) (hw _ (List.mem_of_getElem? (i := 3) rfl)) (by decide) (by decide)) q2a q2c (g := (mkF m 124 #[.val (.int p1), .val (.ref b1), .val (.int (2 : Int32)), .val (.ref (w 2)), .val (.int (1 : Int32)), .unset, .unset] [(.ref (w 2))])) rfl (by rw [hml]; rfl) (Steps.refl _) (argsL := []) (rest := []) (lenOf pd_0 rfl) rfl (by show 2 * 0 + _ ≤ _; exact Nat.le_of_eq rfl) (hb hby at_124) (fun _ _ => ⟨rfl, e1, (by decide : 1 + 0 ≤ _), (by decide : 14 + 0 ≤ _)⟩)
  dsimp only [Pt.U, Pt.locs, Pt.cells, Pt.slots] at X2 l2 y2 z2 st2 hQ2
  subst l2 y2 z2
  obtain ⟨rfl, N2q, e2⟩ := hQ2
  have N2 := Fr.app N1 N2q
  refine own_step (W' := T2.setTop (mkF m 127 #[.val (.int p1), .val (.ref b1), .val (.int (2 : Int32)), .val (.ref (w 2)), .val (.int (1 : Int32)), .unset, .unset] [(.int (1 : Int32))])) (fun _ k => st2.trans k) ?_
  refine own_step (W' := T2.setTop (mkF m 129 #[.val (.int p1), .val (.ref b1), .val (.int (2 : Int32)), .val (.ref (w 2)), .val (.int (1 : Int32)), .val (.int (1 : Int32)), .unset] [])) (fun _ k => XS.istore X2.here hx rfl (hb hby at_127) rfl (l' := #[.val (.int p1), .val (.ref b1), .val (.int (2 : Int32)), .val (.ref (w 2)), .val (.int (1 : Int32)), .val (.int (1 : Int32)), .unset]) rfl k) ?_
  refine own_step (W' := T2.setTop (mkF m 130 #[.val (.int p1), .val (.ref b1), .val (.int (2 : Int32)), .val (.ref (w 2)), .val (.int (1 : Int32)), .val (.int (1 : Int32)), .unset] [(.ref (w 2))])) (fun _ k => XS.aloadN X2.here hx rfl (hb hby at_129) rfl rfl k) ?_
  obtain ⟨cq3, kq3, q3a, q3b, q3c⟩ := isOf hZ e2 (pin_E2 P1)
  obtain ⟨_, _, ⟨T3, L3, k3, n3⟩, -, X3, ⟨Lc3, hQ3, l3, y3, z3⟩, st3⟩ := X2.virtualBack hx (y := (⟨"com/example/featherstar/featherstar/condition/Operator", "positive", "()Lcom/example/featherstar/featherstar/condition/Operator;"⟩ : MethodName)) (z := (⟨"com/example/featherstar/featherstar/condition/Operator", "positive", "()Lcom/example/featherstar/featherstar/condition/Operator;"⟩ : MethodName)) hown (mvT hZ (hw _ (List.mem_of_getElem? (i := 39) rfl))) (mvT hZ (hw _ (List.mem_of_getElem? (i := 40) rfl))) (notFace_of_selects (args := #[]) (mvT hZ (hw _ (List.mem_of_getElem? (i := 42) rfl)))) (mvT hZ (hw _ (List.mem_of_getElem? (i := 42) rfl))) (mvT hZ (hw _ (List.mem_of_getElem? (i := 41) rfl))) (by decide) (backOf (W := 0) (rm2_w2 l Z a0 hw [] w h1 n0 Z1 P1) hZ (hw _ (List.mem_of_getElem? (i := 43) rfl)) (hw _ (List.mem_of_getElem? (i := 3) rfl)) (by decide) (by decide)) q3a q3c (g := (mkF m 130 #[.val (.int p1), .val (.ref b1), .val (.int (2 : Int32)), .val (.ref (w 2)), .val (.int (1 : Int32)), .val (.int (1 : Int32)), .unset] [(.ref (w 2))])) rfl (by rw [hml]; rfl) (Steps.refl _) (argsL := []) (rest := []) (lenOf pd_1 rfl) rfl (by show 2 * 0 + _ ≤ _; exact Nat.le_of_eq rfl) (hb hby at_130) (fun _ _ => ⟨rfl, e2, (by decide : 1 + 0 ≤ _), (by decide : 14 + 0 ≤ _)⟩)
  dsimp only [Pt.U, Pt.locs, Pt.cells, Pt.slots] at X3 l3 y3 z3 st3 hQ3
  subst l3 y3 z3
  obtain ⟨rfl, N3q, e3⟩ := hQ3
  have N3 := Fr.app N2 N3q
  refine own_step (W' := T3.setTop (mkF m 133 #[.val (.int p1), .val (.ref b1), .val (.int (2 : Int32)), .val (.ref (w 2)), .val (.int (1 : Int32)), .val (.int (1 : Int32)), .unset] [(.ref (w 2))])) (fun _ k => st3.trans k) ?_
  obtain ⟨cq4, kq4, q4a, q4b, q4c⟩ := isOf hZ e3 (pin_E2 P1)
  obtain ⟨_, _, ⟨T4, L4, k4, n4⟩, -, X4, ⟨Lc4, hQ4, l4, y4, z4⟩, st4⟩ := X3.virtualBack hx (y := (⟨"com/example/featherstar/featherstar/condition/Operator", "takesOperand", "()Z"⟩ : MethodName)) (z := (⟨"com/example/featherstar/featherstar/condition/Operator", "takesOperand", "()Z"⟩ : MethodName)) hown (mvT hZ (hw _ (List.mem_of_getElem? (i := 33) rfl))) (mvT hZ (hw _ (List.mem_of_getElem? (i := 34) rfl))) (notFace_of_selects (args := #[]) (mvT hZ (hw _ (List.mem_of_getElem? (i := 36) rfl)))) (mvT hZ (hw _ (List.mem_of_getElem? (i := 36) rfl))) (mvT hZ (hw _ (List.mem_of_getElem? (i := 35) rfl))) (by decide) (backOf (W := 0) (rm1_w2 l Z a0 hw [] w h1 n0 Z1 P1) hZ (hw _ (List.mem_of_getElem? (i := 37) rfl)) (hw _ (List.mem_of_getElem? (i := 3) rfl)) (by decide) (by decide)) q4a q4c (g := (mkF m 133 #[.val (.int p1), .val (.ref b1), .val (.int (2 : Int32)), .val (.ref (w 2)), .val (.int (1 : Int32)), .val (.int (1 : Int32)), .unset] [(.ref (w 2))])) rfl (by rw [hml]; rfl) (Steps.refl _) (argsL := []) (rest := []) (lenOf pd_0 rfl) rfl (by show 2 * 0 + _ ≤ _; exact Nat.le_of_eq rfl) (hb hby at_133) (fun _ _ => ⟨rfl, e3, (by decide : 1 + 0 ≤ _), (by decide : 14 + 0 ≤ _)⟩)
  dsimp only [Pt.U, Pt.locs, Pt.cells, Pt.slots] at X4 l4 y4 z4 st4 hQ4
  subst l4 y4 z4
  obtain ⟨rfl, N4q, e4⟩ := hQ4
  have N4 := Fr.app N3 N4q
  refine own_step (W' := T4.setTop (mkF m 136 #[.val (.int p1), .val (.ref b1), .val (.int (2 : Int32)), .val (.ref (w 2)), .val (.int (1 : Int32)), .val (.int (1 : Int32)), .unset] [(.int (1 : Int32))])) (fun _ k => st4.trans k) ?_
  refine own_step (W' := T4.setTop (mkF m 138 #[.val (.int p1), .val (.ref b1), .val (.int (2 : Int32)), .val (.ref (w 2)), .val (.int (1 : Int32)), .val (.int (1 : Int32)), .val (.int (1 : Int32))] [])) (fun _ k => XS.istore X4.here hx rfl (hb hby at_136) rfl (l' := #[.val (.int p1), .val (.ref b1), .val (.int (2 : Int32)), .val (.ref (w 2)), .val (.int (1 : Int32)), .val (.int (1 : Int32)), .val (.int (1 : Int32))]) rfl k) ?_
  refine own_step (W' := T4.setTop (mkF m 140 #[.val (.int p1), .val (.ref b1), .val (.int (2 : Int32)), .val (.ref (w 2)), .val (.int (1 : Int32)), .val (.int (1 : Int32)), .val (.int (1 : Int32))] [(.int (1 : Int32))])) (fun _ k => XS.iload X4.here hx rfl (hb hby at_138) rfl k) ?_
  refine own_step (W' := T4.setTop (mkF m 142 #[.val (.int p1), .val (.ref b1), .val (.int (2 : Int32)), .val (.ref (w 2)), .val (.int (1 : Int32)), .val (.int (1 : Int32)), .val (.int (1 : Int32))] [(.int (1 : Int32)), (.int (1 : Int32))])) (fun _ k => XS.iload X4.here hx rfl (hb hby at_140) rfl k) ?_
  refine own_step (W' := T4.setTop (mkF m 145 #[.val (.int p1), .val (.ref b1), .val (.int (2 : Int32)), .val (.ref (w 2)), .val (.int (1 : Int32)), .val (.int (1 : Int32)), .val (.int (1 : Int32))] [])) (fun _ k => XS.icmpNo X4.here hx rfl (hb hby at_142) rfl (by decide) k) ?_
  refine own_step (W' := T4.setTop (mkF m 147 #[.val (.int p1), .val (.ref b1), .val (.int (2 : Int32)), .val (.ref (w 2)), .val (.int (1 : Int32)), .val (.int (1 : Int32)), .val (.int (1 : Int32))] [(.int (1 : Int32))])) (fun _ k => XS.iload X4.here hx rfl (hb hby at_145) rfl k) ?_
  refine own_step (W' := T4.setTop (mkF m 149 #[.val (.int p1), .val (.ref b1), .val (.int (2 : Int32)), .val (.ref (w 2)), .val (.int (1 : Int32)), .val (.int (1 : Int32)), .val (.int (1 : Int32))] [(.int (1 : Int32)), (.int (1 : Int32))])) (fun _ k => XS.iload X4.here hx rfl (hb hby at_147) rfl k) ?_
  refine own_step (W' := T4.setTop (mkF m 152 #[.val (.int p1), .val (.ref b1), .val (.int (2 : Int32)), .val (.ref (w 2)), .val (.int (1 : Int32)), .val (.int (1 : Int32)), .val (.int (1 : Int32))] [])) (fun _ k => XS.icmpNo X4.here hx rfl (hb hby at_149) rfl (by decide) k) ?_
  refine own_step (W' := T4.setTop (mkF m 153 #[.val (.int p1), .val (.ref b1), .val (.int (2 : Int32)), .val (.ref (w 2)), .val (.int (1 : Int32)), .val (.int (1 : Int32)), .val (.int (1 : Int32))] [(.int (1 : Int32))])) (fun _ k => XS.iconst X4.here hx rfl (hb hby at_152) k) ?_
  refine own_step (W' := T4.setTop (mkF m 157 #[.val (.int p1), .val (.ref b1), .val (.int (2 : Int32)), .val (.ref (w 2)), .val (.int (1 : Int32)), .val (.int (1 : Int32)), .val (.int (1 : Int32))] [(.int (1 : Int32))])) (fun _ k => XS.goto X4.here hx rfl (pc0 := 153) (pc' := 157) rfl (hb hby at_153) (by decide) (by decide) k) ?_
  exact own_ret X4 Bd.notSynchronized Bd.returns (v := (.int (1 : Int32))) (fun fs hr => retN X4 hx (t := .boolean) Bd.returns (by simp) (hb hby at_157) hr) ⟨rfl, N4⟩ (by decide) (by decide)
set_option maxRecDepth 65536 in
set_option maxHeartbeats 40000000 in
theorem rm1_w3 (l : Launch) (Z : State) (a0 : Array Value) (hw : ∀ d ∈ tables_1, d.before a0 Z = true) (ws : List Jvm.Cond) (w : Nat → Addr) (h0 : Heap) (n0 : Nat) (Z0 : n0 ≤ h0.size) (P : Pins Z h0 w) :
    MetFree l (⟨"com/example/featherstar/featherstar/condition/Operator", "takesOperand", "()Z"⟩ : MethodName) (head1 (Jvm.Cond.code (⟨"com/example/featherstar/featherstar/condition/Operator", "takesOperand", "()Z"⟩ : MethodName) prog_13_method_6_code 1 (some .boolean) :: ws) ({ frames := 0, cells := 0, slots := 0, locals := 0 } : Room)) (fun aA U => aA = #[(.ref (w 3))] ∧ Z.Warmed39 U.vm ∧ U.heap = h0) (fun _ _ _ _ _ => True) (fun _ U o U' => ∃ v L, o = .returned v ∧ own_QK (some (.int (1 : Int32))) h0 n0 v U'.heap L ∧ FrameEnd U o U' L ({ frames := 0, cells := 0, slots := 0, locals := 0 } : Room).cells ({ frames := 0, cells := 0, slots := 0, locals := 0 } : Room).slots) := by
  refine MetFree.of_bodySF (plainFor_of_name pn_com_example_featherstar_featherstar_condition_Operator) hisR ?_
  intro p e s m args below meth c s₁ Bd hml0 hP hK
  obtain ⟨rfl, hZ, hh⟩ := hP
  have hx := Bd.exec
  have hby := Bd.bytes
  have hml : c.maxLocals = 1 := hml0
  have hown : s.vm.findClass "com/example/featherstar/featherstar/condition/Operator" = some m.cls := findClass_of_methodNamed Bd.named
  have hnm := (name_of_methodNamed Bd.named Bd.method).1
  have X0 : Stand p l e ({ frames := 0, cells := 0, slots := 0, locals := 0 } : Room) s m #[(.ref (w 3))] below meth c s₁ [] 0 0 := Stand.of_body Bd
  have e0 : s₁.heap = h0 := by rw [← hh, Bd.state]; rfl
  have N0 := Fr.nil n0
  refine own_enter (ef_1_R m (w 3)) ?_
  refine own_step (W' := s₁.setTop (mkF m 1 #[.val (.ref (w 3))] [(.ref (w 3))])) (fun _ k => XS.aloadN X0.here hx rfl (hb hby d1_0) rfl rfl k) ?_
  obtain ⟨T1, X1, e1, st1⟩ := getS2 X0 hx hZ hown (host := "") (Or.inl (hw _ (List.mem_of_getElem? (i := 38) rfl))) Via.refl e0 (pin_S13 P) (g := (mkF m 1 #[.val (.ref (w 3))] [(.ref (w 3))])) rfl (hb hby d1_1)
  refine own_step (W' := T1.setTop (mkF m 4 #[.val (.ref (w 3))] [(.ref (w 13)), (.ref (w 3))])) (fun _ k => st1 _ k) ?_
  refine own_step (W' := T1.setTop (mkF m 7 #[.val (.ref (w 3))] [])) (fun _ k => Jvm.RoadKit.acmp (g := (mkF m 4 #[.val (.ref (w 3))] [(.ref (w 13)), (.ref (w 3))])) X1 hx rfl rfl rfl (pc0 := 4) (pc' := 7) (same := false) rfl (hb hby d1_4) rfl (decide_eq_false fun q => (Fld.ne (pin_F3_ordinal P) (pin_F13_ordinal P) (by decide)) (Value.ref.inj q)) (by decide) (by decide) k) ?_
  refine own_step (W' := T1.setTop (mkF m 8 #[.val (.ref (w 3))] [(.int (1 : Int32))])) (fun _ k => XS.iconst X1.here hx rfl (hb hby d1_7) k) ?_
  refine own_step (W' := T1.setTop (mkF m 12 #[.val (.ref (w 3))] [(.int (1 : Int32))])) (fun _ k => XS.goto X1.here hx rfl (pc0 := 8) (pc' := 12) rfl (hb hby d1_8) (by decide) (by decide) k) ?_
  exact own_ret X1 Bd.notSynchronized Bd.returns (v := (.int (1 : Int32))) (fun fs hr => retN X1 hx (t := .boolean) Bd.returns (by simp) (hb hby d1_12) hr) ⟨rfl, N0, e1⟩ (by decide) (by decide)
set_option maxRecDepth 65536 in
set_option maxHeartbeats 40000000 in
theorem rm2_w3 (l : Launch) (Z : State) (a0 : Array Value) (hw : ∀ d ∈ tables_1, d.before a0 Z = true) (ws : List Jvm.Cond) (w : Nat → Addr) (h0 : Heap) (n0 : Nat) (Z0 : n0 ≤ h0.size) (P : Pins Z h0 w) :
    MetFree l (⟨"com/example/featherstar/featherstar/condition/Operator", "positive", "()Lcom/example/featherstar/featherstar/condition/Operator;"⟩ : MethodName) (head1 (Jvm.Cond.code (⟨"com/example/featherstar/featherstar/condition/Operator", "positive", "()Lcom/example/featherstar/featherstar/condition/Operator;"⟩ : MethodName) prog_13_method_8_code 1 (some (.object "com/example/featherstar/featherstar/condition/Operator")) :: ws) ({ frames := 0, cells := 0, slots := 0, locals := 0 } : Room)) (fun aA U => aA = #[(.ref (w 3))] ∧ Z.Warmed39 U.vm ∧ U.heap = h0) (fun _ _ _ _ _ => True) (fun _ U o U' => ∃ v L, o = .returned v ∧ own_QK (some (.ref (w 3))) h0 n0 v U'.heap L ∧ FrameEnd U o U' L ({ frames := 0, cells := 0, slots := 0, locals := 0 } : Room).cells ({ frames := 0, cells := 0, slots := 0, locals := 0 } : Room).slots) := by
  refine MetFree.of_bodySF (plainFor_of_name pn_com_example_featherstar_featherstar_condition_Operator) hisR ?_
  intro p e s m args below meth c s₁ Bd hml0 hP hK
  obtain ⟨rfl, hZ, hh⟩ := hP
  have hx := Bd.exec
  have hby := Bd.bytes
  have hml : c.maxLocals = 1 := hml0
  have hown : s.vm.findClass "com/example/featherstar/featherstar/condition/Operator" = some m.cls := findClass_of_methodNamed Bd.named
  have hnm := (name_of_methodNamed Bd.named Bd.method).1
  have X0 : Stand p l e ({ frames := 0, cells := 0, slots := 0, locals := 0 } : Room) s m #[(.ref (w 3))] below meth c s₁ [] 0 0 := Stand.of_body Bd
  have e0 : s₁.heap = h0 := by rw [← hh, Bd.state]; rfl
  have N0 := Fr.nil n0
  refine own_enter (ef_2_R m (w 3)) ?_
  refine own_step (W' := s₁.setTop (mkF m 1 #[.val (.ref (w 3))] [(.ref (w 3))])) (fun _ k => XS.aloadN X0.here hx rfl (hb hby d2_0) rfl rfl k) ?_
  obtain ⟨T1, X1, e1, st1⟩ := getF X0 hx hZ hown (host := "") (Or.inl (hw _ (List.mem_of_getElem? (i := 44) rfl))) Via.refl e0 (pin_F3_negated P) (g := (mkF m 1 #[.val (.ref (w 3))] [(.ref (w 3))])) rfl rfl (hb hby d2_1)
  refine own_step (W' := T1.setTop (mkF m 4 #[.val (.ref (w 3))] [.null])) (fun _ k => st1 _ k) ?_
  refine own_step (W' := T1.setTop (mkF m 7 #[.val (.ref (w 3))] [])) (fun _ k => XS.ifnonnullNo X1.here hx rfl (hb hby d2_4) rfl k) ?_
  refine own_step (W' := T1.setTop (mkF m 8 #[.val (.ref (w 3))] [(.ref (w 3))])) (fun _ k => XS.aloadN X1.here hx rfl (hb hby d2_7) rfl rfl k) ?_
  refine own_step (W' := T1.setTop (mkF m 15 #[.val (.ref (w 3))] [(.ref (w 3))])) (fun _ k => XS.goto X1.here hx rfl (pc0 := 8) (pc' := 15) rfl (hb hby d2_8) (by decide) (by decide) k) ?_
  exact own_ret X1 Bd.notSynchronized Bd.returns (v := (.ref (w 3))) (fun fs hr => retOut X1 hx Bd.returns rfl (Or.inr (Or.inr (Or.inr (Or.inr ⟨rfl, rfl, rfl⟩)))) (hb hby d2_15) hr) ⟨rfl, N0, e1⟩ (by decide) (by decide)
set_option maxRecDepth 65536 in
set_option maxHeartbeats 40000000 in
theorem rm0_3 (l : Launch) (Z : State) (a0 : Array Value) (hw : ∀ d ∈ tables_1, d.before a0 Z = true) (ws : List Jvm.Cond) (p1 : Int32) (hk : ((p1 &&& (2147483647 : Int32)) % (14 : Int32)) = (3 : Int32)) (w : Nat → Addr) (h0 : Heap) (n0 : Nat) (Z0 : n0 ≤ h0.size) (P : Pins Z h0 w) :
    MetFree l x (head1 (Jvm.Cond.code x code maxLocals ret :: ws) room_1) (fun aA U => aA = #[(.int p1)] ∧ Z.Warmed39 U.vm ∧ U.heap = h0) (fun _ _ _ _ _ => True) (fun _ U o U' => ∃ v L, o = .returned v ∧ own_Q0 n0 v U'.heap L ∧ FrameEnd U o U' L room_1.cells room_1.slots) := by
  refine MetFree.of_bodySF (plainFor_of_name pn_com_example_featherstar_featherstar_condition_OperatorTakesOperandPinLaw) hisR ?_
  intro p e s m args below meth c s₁ Bd hml0 hP hK
  obtain ⟨rfl, hZ, hh⟩ := hP
  have hx := Bd.exec
  have hby := Bd.bytes
  have hml : c.maxLocals = 7 := hml0
  have hown : s.vm.findClass "com/example/featherstar/featherstar/condition/OperatorTakesOperandPinLaw" = some m.cls := findClass_of_methodNamed Bd.named
  have hnm := (name_of_methodNamed Bd.named Bd.method).1
  have X0 : Stand p l e room_1 s m #[(.int p1)] below meth c s₁ [] 0 0 := Stand.of_body Bd
  have e0 : s₁.heap = h0 := by rw [← hh, Bd.state]; rfl
  have N0 := Fr.nil n0
  refine own_enter (ef_0_I m p1) ?_
  refine own_fill p1 X0 hx hZ hw hby hml hown e0 N0 Z0 P ?_
  intro T1 h1 L1 k1 b1 X1 e1 E1 N1 V1
  have P1 : Pins Z h1 w := P.ext E1
  have Z1 : n0 ≤ h1.size := Nat.le_trans Z0 E1.1
  refine own_step (W' := T1.setTop (mkF m 98 #[.val (.int p1), .val (.ref b1), .unset, .unset, .unset, .unset, .unset] [])) (fun _ k => XS.astoreN X1.here hx rfl (hb hby at_97) rfl rfl (l' := #[.val (.int p1), .val (.ref b1), .unset, .unset, .unset, .unset, .unset]) rfl k) ?_
  refine own_step (W' := T1.setTop (mkF m 99 #[.val (.int p1), .val (.ref b1), .unset, .unset, .unset, .unset, .unset] [(.int p1)])) (fun _ k => XS.iloadN X1.here hx rfl (hb hby at_98) rfl k) ?_
  refine own_step (W' := T1.setTop (mkF m 101 #[.val (.int p1), .val (.ref b1), .unset, .unset, .unset, .unset, .unset] [(.int (2147483647 : Int32)), (.int p1)])) (fun _ k => X1.ldcInt hx hown (mvT hZ (hw _ (List.mem_of_getElem? (i := 32) rfl))) (g := (mkF m 99 #[.val (.int p1), .val (.ref b1), .unset, .unset, .unset, .unset, .unset] [(.int p1)])) rfl (hb hby at_99) _ k) ?_
  refine own_step (W' := T1.setTop (mkF m 102 #[.val (.int p1), .val (.ref b1), .unset, .unset, .unset, .unset, .unset] [(.int (p1 &&& (2147483647 : Int32)))])) (fun _ k => XS.iand X1.here hx rfl (hb hby at_101) rfl k) ?_
  refine own_step (W' := T1.setTop (mkF m 104 #[.val (.int p1), .val (.ref b1), .unset, .unset, .unset, .unset, .unset] [(.int (14 : Int32)), (.int (p1 &&& (2147483647 : Int32)))])) (fun _ k => XS.bipush X1.here hx rfl (hb hby at_102) k) ?_
  refine own_step (W' := T1.setTop (mkF m 105 #[.val (.int p1), .val (.ref b1), .unset, .unset, .unset, .unset, .unset] [(.int ((p1 &&& (2147483647 : Int32)) % (14 : Int32)))])) (fun _ k => iremM X1 hx rfl (hb hby at_104) rfl (by decide) k) ?_
  rw [hk]
  refine own_step (W' := T1.setTop (mkF m 106 #[.val (.int p1), .val (.ref b1), .val (.int (3 : Int32)), .unset, .unset, .unset, .unset] [])) (fun _ k => XS.istoreN X1.here hx rfl (hb hby at_105) rfl (l' := #[.val (.int p1), .val (.ref b1), .val (.int (3 : Int32)), .unset, .unset, .unset, .unset]) rfl k) ?_
  refine own_step (W' := T1.setTop (mkF m 107 #[.val (.int p1), .val (.ref b1), .val (.int (3 : Int32)), .unset, .unset, .unset, .unset] [(.ref b1)])) (fun _ k => XS.aloadN X1.here hx rfl (hb hby at_106) rfl rfl k) ?_
  refine own_step (W' := T1.setTop (mkF m 108 #[.val (.int p1), .val (.ref b1), .val (.int (3 : Int32)), .unset, .unset, .unset, .unset] [(.int (3 : Int32)), (.ref b1)])) (fun _ k => XS.iloadN X1.here hx rfl (hb hby at_107) rfl k) ?_
  refine own_step (W' := T1.setTop (mkF m 109 #[.val (.int p1), .val (.ref b1), .val (.int (3 : Int32)), .unset, .unset, .unset, .unset] [(.ref (w 3))])) (fun _ k => own_ldR X1 hx hZ e1 V1 (j := (3 : Int32)) (v := (.ref (w 3))) ⟨by decide, by decide⟩ rfl (g := (mkF m 108 #[.val (.int p1), .val (.ref b1), .val (.int (3 : Int32)), .unset, .unset, .unset, .unset] [(.int (3 : Int32)), (.ref b1)])) rfl rfl (hb hby at_108) _ k) ?_
  refine own_step (W' := T1.setTop (mkF m 110 #[.val (.int p1), .val (.ref b1), .val (.int (3 : Int32)), .val (.ref (w 3)), .unset, .unset, .unset] [])) (fun _ k => XS.astoreN X1.here hx rfl (hb hby at_109) rfl rfl (l' := #[.val (.int p1), .val (.ref b1), .val (.int (3 : Int32)), .val (.ref (w 3)), .unset, .unset, .unset]) rfl k) ?_
  refine own_step (W' := T1.setTop (mkF m 111 #[.val (.int p1), .val (.ref b1), .val (.int (3 : Int32)), .val (.ref (w 3)), .unset, .unset, .unset] [(.int (3 : Int32))])) (fun _ k => XS.iloadN X1.here hx rfl (hb hby at_110) rfl k) ?_
  refine own_step (W' := T1.setTop (mkF m 113 #[.val (.int p1), .val (.ref b1), .val (.int (3 : Int32)), .val (.ref (w 3)), .unset, .unset, .unset] [(.int (13 : Int32)), (.int (3 : Int32))])) (fun _ k => XS.bipush X1.here hx rfl (hb hby at_111) k) ?_
  refine own_step (W' := T1.setTop (mkF m 116 #[.val (.int p1), .val (.ref b1), .val (.int (3 : Int32)), .val (.ref (w 3)), .unset, .unset, .unset] [])) (fun _ k => XS.icmpNo X1.here hx rfl (hb hby at_113) rfl (by decide) k) ?_
  refine own_step (W' := T1.setTop (mkF m 117 #[.val (.int p1), .val (.ref b1), .val (.int (3 : Int32)), .val (.ref (w 3)), .unset, .unset, .unset] [(.int (1 : Int32))])) (fun _ k => XS.iconst X1.here hx rfl (hb hby at_116) k) ?_
  refine own_step (W' := T1.setTop (mkF m 121 #[.val (.int p1), .val (.ref b1), .val (.int (3 : Int32)), .val (.ref (w 3)), .unset, .unset, .unset] [(.int (1 : Int32))])) (fun _ k => XS.goto X1.here hx rfl (pc0 := 117) (pc' := 121) rfl (hb hby at_117) (by decide) (by decide) k) ?_
  refine own_step (W' := T1.setTop (mkF m 123 #[.val (.int p1), .val (.ref b1), .val (.int (3 : Int32)), .val (.ref (w 3)), .val (.int (1 : Int32)), .unset, .unset] [])) (fun _ k => XS.istore X1.here hx rfl (hb hby at_121) rfl (l' := #[.val (.int p1), .val (.ref b1), .val (.int (3 : Int32)), .val (.ref (w 3)), .val (.int (1 : Int32)), .unset, .unset]) rfl k) ?_
  refine own_step (W' := T1.setTop (mkF m 124 #[.val (.int p1), .val (.ref b1), .val (.int (3 : Int32)), .val (.ref (w 3)), .val (.int (1 : Int32)), .unset, .unset] [(.ref (w 3))])) (fun _ k => XS.aloadN X1.here hx rfl (hb hby at_123) rfl rfl k) ?_
  obtain ⟨cq2, kq2, q2a, q2b, q2c⟩ := isOf hZ e1 (pin_E3 P1)
  obtain ⟨_, _, ⟨T2, L2, k2, n2⟩, -, X2, ⟨Lc2, hQ2, l2, y2, z2⟩, st2⟩ := X1.virtualBack hx (y := (⟨"com/example/featherstar/featherstar/condition/Operator", "takesOperand", "()Z"⟩ : MethodName)) (z := (⟨"com/example/featherstar/featherstar/condition/Operator", "takesOperand", "()Z"⟩ : MethodName)) hown (mvT hZ (hw _ (List.mem_of_getElem? (i := 33) rfl))) (mvT hZ (hw _ (List.mem_of_getElem? (i := 34) rfl))) (notFace_of_selects (args := #[]) (mvT hZ (hw _ (List.mem_of_getElem? (i := 36) rfl)))) (mvT hZ (hw _ (List.mem_of_getElem? (i := 36) rfl))) (mvT hZ (hw _ (List.mem_of_getElem? (i := 35) rfl))) (by decide) (backOf (W := 0) (rm1_w3 l Z a0 hw [] w h1 n0 Z1 P1) hZ (hw _ (List.mem_of_getElem? (i := 37) rfl)) (hw _ (List.mem_of_getElem? (i := 3) rfl)) (by decide) (by decide)) q2a q2c (g := (mkF m 124 #[.val (.int p1), .val (.ref b1), .val (.int (3 : Int32)), .val (.ref (w 3)), .val (.int (1 : Int32)), .unset, .unset] [(.ref (w 3))])) rfl (by rw [hml]; rfl) (Steps.refl _) (argsL := []) (rest := []) (lenOf pd_0 rfl) rfl (by show 2 * 0 + _ ≤ _; exact Nat.le_of_eq rfl) (hb hby at_124) (fun _ _ => ⟨rfl, e1, (by decide : 1 + 0 ≤ _), (by decide : 14 + 0 ≤ _)⟩)
  dsimp only [Pt.U, Pt.locs, Pt.cells, Pt.slots] at X2 l2 y2 z2 st2 hQ2
  subst l2 y2 z2
  obtain ⟨rfl, N2q, e2⟩ := hQ2
  have N2 := Fr.app N1 N2q
  refine own_step (W' := T2.setTop (mkF m 127 #[.val (.int p1), .val (.ref b1), .val (.int (3 : Int32)), .val (.ref (w 3)), .val (.int (1 : Int32)), .unset, .unset] [(.int (1 : Int32))])) (fun _ k => st2.trans k) ?_
  refine own_step (W' := T2.setTop (mkF m 129 #[.val (.int p1), .val (.ref b1), .val (.int (3 : Int32)), .val (.ref (w 3)), .val (.int (1 : Int32)), .val (.int (1 : Int32)), .unset] [])) (fun _ k => XS.istore X2.here hx rfl (hb hby at_127) rfl (l' := #[.val (.int p1), .val (.ref b1), .val (.int (3 : Int32)), .val (.ref (w 3)), .val (.int (1 : Int32)), .val (.int (1 : Int32)), .unset]) rfl k) ?_
  refine own_step (W' := T2.setTop (mkF m 130 #[.val (.int p1), .val (.ref b1), .val (.int (3 : Int32)), .val (.ref (w 3)), .val (.int (1 : Int32)), .val (.int (1 : Int32)), .unset] [(.ref (w 3))])) (fun _ k => XS.aloadN X2.here hx rfl (hb hby at_129) rfl rfl k) ?_
  obtain ⟨cq3, kq3, q3a, q3b, q3c⟩ := isOf hZ e2 (pin_E3 P1)
  obtain ⟨_, _, ⟨T3, L3, k3, n3⟩, -, X3, ⟨Lc3, hQ3, l3, y3, z3⟩, st3⟩ := X2.virtualBack hx (y := (⟨"com/example/featherstar/featherstar/condition/Operator", "positive", "()Lcom/example/featherstar/featherstar/condition/Operator;"⟩ : MethodName)) (z := (⟨"com/example/featherstar/featherstar/condition/Operator", "positive", "()Lcom/example/featherstar/featherstar/condition/Operator;"⟩ : MethodName)) hown (mvT hZ (hw _ (List.mem_of_getElem? (i := 39) rfl))) (mvT hZ (hw _ (List.mem_of_getElem? (i := 40) rfl))) (notFace_of_selects (args := #[]) (mvT hZ (hw _ (List.mem_of_getElem? (i := 42) rfl)))) (mvT hZ (hw _ (List.mem_of_getElem? (i := 42) rfl))) (mvT hZ (hw _ (List.mem_of_getElem? (i := 41) rfl))) (by decide) (backOf (W := 0) (rm2_w3 l Z a0 hw [] w h1 n0 Z1 P1) hZ (hw _ (List.mem_of_getElem? (i := 43) rfl)) (hw _ (List.mem_of_getElem? (i := 3) rfl)) (by decide) (by decide)) q3a q3c (g := (mkF m 130 #[.val (.int p1), .val (.ref b1), .val (.int (3 : Int32)), .val (.ref (w 3)), .val (.int (1 : Int32)), .val (.int (1 : Int32)), .unset] [(.ref (w 3))])) rfl (by rw [hml]; rfl) (Steps.refl _) (argsL := []) (rest := []) (lenOf pd_1 rfl) rfl (by show 2 * 0 + _ ≤ _; exact Nat.le_of_eq rfl) (hb hby at_130) (fun _ _ => ⟨rfl, e2, (by decide : 1 + 0 ≤ _), (by decide : 14 + 0 ≤ _)⟩)
  dsimp only [Pt.U, Pt.locs, Pt.cells, Pt.slots] at X3 l3 y3 z3 st3 hQ3
  subst l3 y3 z3
  obtain ⟨rfl, N3q, e3⟩ := hQ3
  have N3 := Fr.app N2 N3q
  refine own_step (W' := T3.setTop (mkF m 133 #[.val (.int p1), .val (.ref b1), .val (.int (3 : Int32)), .val (.ref (w 3)), .val (.int (1 : Int32)), .val (.int (1 : Int32)), .unset] [(.ref (w 3))])) (fun _ k => st3.trans k) ?_
  obtain ⟨cq4, kq4, q4a, q4b, q4c⟩ := isOf hZ e3 (pin_E3 P1)
  obtain ⟨_, _, ⟨T4, L4, k4, n4⟩, -, X4, ⟨Lc4, hQ4, l4, y4, z4⟩, st4⟩ := X3.virtualBack hx (y := (⟨"com/example/featherstar/featherstar/condition/Operator", "takesOperand", "()Z"⟩ : MethodName)) (z := (⟨"com/example/featherstar/featherstar/condition/Operator", "takesOperand", "()Z"⟩ : MethodName)) hown (mvT hZ (hw _ (List.mem_of_getElem? (i := 33) rfl))) (mvT hZ (hw _ (List.mem_of_getElem? (i := 34) rfl))) (notFace_of_selects (args := #[]) (mvT hZ (hw _ (List.mem_of_getElem? (i := 36) rfl)))) (mvT hZ (hw _ (List.mem_of_getElem? (i := 36) rfl))) (mvT hZ (hw _ (List.mem_of_getElem? (i := 35) rfl))) (by decide) (backOf (W := 0) (rm1_w3 l Z a0 hw [] w h1 n0 Z1 P1) hZ (hw _ (List.mem_of_getElem? (i := 37) rfl)) (hw _ (List.mem_of_getElem? (i := 3) rfl)) (by decide) (by decide)) q4a q4c (g := (mkF m 133 #[.val (.int p1), .val (.ref b1), .val (.int (3 : Int32)), .val (.ref (w 3)), .val (.int (1 : Int32)), .val (.int (1 : Int32)), .unset] [(.ref (w 3))])) rfl (by rw [hml]; rfl) (Steps.refl _) (argsL := []) (rest := []) (lenOf pd_0 rfl) rfl (by show 2 * 0 + _ ≤ _; exact Nat.le_of_eq rfl) (hb hby at_133) (fun _ _ => ⟨rfl, e3, (by decide : 1 + 0 ≤ _), (by decide : 14 + 0 ≤ _)⟩)
  dsimp only [Pt.U, Pt.locs, Pt.cells, Pt.slots] at X4 l4 y4 z4 st4 hQ4
  subst l4 y4 z4
  obtain ⟨rfl, N4q, e4⟩ := hQ4
  have N4 := Fr.app N3 N4q
  refine own_step (W' := T4.setTop (mkF m 136 #[.val (.int p1), .val (.ref b1), .val (.int (3 : Int32)), .val (.ref (w 3)), .val (.int (1 : Int32)), .val (.int (1 : Int32)), .unset] [(.int (1 : Int32))])) (fun _ k => st4.trans k) ?_
  refine own_step (W' := T4.setTop (mkF m 138 #[.val (.int p1), .val (.ref b1), .val (.int (3 : Int32)), .val (.ref (w 3)), .val (.int (1 : Int32)), .val (.int (1 : Int32)), .val (.int (1 : Int32))] [])) (fun _ k => XS.istore X4.here hx rfl (hb hby at_136) rfl (l' := #[.val (.int p1), .val (.ref b1), .val (.int (3 : Int32)), .val (.ref (w 3)), .val (.int (1 : Int32)), .val (.int (1 : Int32)), .val (.int (1 : Int32))]) rfl k) ?_
  refine own_step (W' := T4.setTop (mkF m 140 #[.val (.int p1), .val (.ref b1), .val (.int (3 : Int32)), .val (.ref (w 3)), .val (.int (1 : Int32)), .val (.int (1 : Int32)), .val (.int (1 : Int32))] [(.int (1 : Int32))])) (fun _ k => XS.iload X4.here hx rfl (hb hby at_138) rfl k) ?_
  refine own_step (W' := T4.setTop (mkF m 142 #[.val (.int p1), .val (.ref b1), .val (.int (3 : Int32)), .val (.ref (w 3)), .val (.int (1 : Int32)), .val (.int (1 : Int32)), .val (.int (1 : Int32))] [(.int (1 : Int32)), (.int (1 : Int32))])) (fun _ k => XS.iload X4.here hx rfl (hb hby at_140) rfl k) ?_
  refine own_step (W' := T4.setTop (mkF m 145 #[.val (.int p1), .val (.ref b1), .val (.int (3 : Int32)), .val (.ref (w 3)), .val (.int (1 : Int32)), .val (.int (1 : Int32)), .val (.int (1 : Int32))] [])) (fun _ k => XS.icmpNo X4.here hx rfl (hb hby at_142) rfl (by decide) k) ?_
  refine own_step (W' := T4.setTop (mkF m 147 #[.val (.int p1), .val (.ref b1), .val (.int (3 : Int32)), .val (.ref (w 3)), .val (.int (1 : Int32)), .val (.int (1 : Int32)), .val (.int (1 : Int32))] [(.int (1 : Int32))])) (fun _ k => XS.iload X4.here hx rfl (hb hby at_145) rfl k) ?_
  refine own_step (W' := T4.setTop (mkF m 149 #[.val (.int p1), .val (.ref b1), .val (.int (3 : Int32)), .val (.ref (w 3)), .val (.int (1 : Int32)), .val (.int (1 : Int32)), .val (.int (1 : Int32))] [(.int (1 : Int32)), (.int (1 : Int32))])) (fun _ k => XS.iload X4.here hx rfl (hb hby at_147) rfl k) ?_
  refine own_step (W' := T4.setTop (mkF m 152 #[.val (.int p1), .val (.ref b1), .val (.int (3 : Int32)), .val (.ref (w 3)), .val (.int (1 : Int32)), .val (.int (1 : Int32)), .val (.int (1 : Int32))] [])) (fun _ k => XS.icmpNo X4.here hx rfl (hb hby at_149) rfl (by decide) k) ?_
  refine own_step (W' := T4.setTop (mkF m 153 #[.val (.int p1), .val (.ref b1), .val (.int (3 : Int32)), .val (.ref (w 3)), .val (.int (1 : Int32)), .val (.int (1 : Int32)), .val (.int (1 : Int32))] [(.int (1 : Int32))])) (fun _ k => XS.iconst X4.here hx rfl (hb hby at_152) k) ?_
  refine own_step (W' := T4.setTop (mkF m 157 #[.val (.int p1), .val (.ref b1), .val (.int (3 : Int32)), .val (.ref (w 3)), .val (.int (1 : Int32)), .val (.int (1 : Int32)), .val (.int (1 : Int32))] [(.int (1 : Int32))])) (fun _ k => XS.goto X4.here hx rfl (pc0 := 153) (pc' := 157) rfl (hb hby at_153) (by decide) (by decide) k) ?_
  exact own_ret X4 Bd.notSynchronized Bd.returns (v := (.int (1 : Int32))) (fun fs hr => retN X4 hx (t := .boolean) Bd.returns (by simp) (hb hby at_157) hr) ⟨rfl, N4⟩ (by decide) (by decide)
set_option maxRecDepth 65536 in
set_option maxHeartbeats 40000000 in
theorem rm1_w4 (l : Launch) (Z : State) (a0 : Array Value) (hw : ∀ d ∈ tables_1, d.before a0 Z = true) (ws : List Jvm.Cond) (w : Nat → Addr) (h0 : Heap) (n0 : Nat) (Z0 : n0 ≤ h0.size) (P : Pins Z h0 w) :
    MetFree l (⟨"com/example/featherstar/featherstar/condition/Operator", "takesOperand", "()Z"⟩ : MethodName) (head1 (Jvm.Cond.code (⟨"com/example/featherstar/featherstar/condition/Operator", "takesOperand", "()Z"⟩ : MethodName) prog_13_method_6_code 1 (some .boolean) :: ws) ({ frames := 0, cells := 0, slots := 0, locals := 0 } : Room)) (fun aA U => aA = #[(.ref (w 4))] ∧ Z.Warmed39 U.vm ∧ U.heap = h0) (fun _ _ _ _ _ => True) (fun _ U o U' => ∃ v L, o = .returned v ∧ own_QK (some (.int (1 : Int32))) h0 n0 v U'.heap L ∧ FrameEnd U o U' L ({ frames := 0, cells := 0, slots := 0, locals := 0 } : Room).cells ({ frames := 0, cells := 0, slots := 0, locals := 0 } : Room).slots) := by
  refine MetFree.of_bodySF (plainFor_of_name pn_com_example_featherstar_featherstar_condition_Operator) hisR ?_
  intro p e s m args below meth c s₁ Bd hml0 hP hK
  obtain ⟨rfl, hZ, hh⟩ := hP
  have hx := Bd.exec
  have hby := Bd.bytes
  have hml : c.maxLocals = 1 := hml0
  have hown : s.vm.findClass "com/example/featherstar/featherstar/condition/Operator" = some m.cls := findClass_of_methodNamed Bd.named
  have hnm := (name_of_methodNamed Bd.named Bd.method).1
  have X0 : Stand p l e ({ frames := 0, cells := 0, slots := 0, locals := 0 } : Room) s m #[(.ref (w 4))] below meth c s₁ [] 0 0 := Stand.of_body Bd
  have e0 : s₁.heap = h0 := by rw [← hh, Bd.state]; rfl
  have N0 := Fr.nil n0
  refine own_enter (ef_1_R m (w 4)) ?_
  refine own_step (W' := s₁.setTop (mkF m 1 #[.val (.ref (w 4))] [(.ref (w 4))])) (fun _ k => XS.aloadN X0.here hx rfl (hb hby d1_0) rfl rfl k) ?_
  obtain ⟨T1, X1, e1, st1⟩ := getS2 X0 hx hZ hown (host := "") (Or.inl (hw _ (List.mem_of_getElem? (i := 38) rfl))) Via.refl e0 (pin_S13 P) (g := (mkF m 1 #[.val (.ref (w 4))] [(.ref (w 4))])) rfl (hb hby d1_1)
  refine own_step (W' := T1.setTop (mkF m 4 #[.val (.ref (w 4))] [(.ref (w 13)), (.ref (w 4))])) (fun _ k => st1 _ k) ?_
  refine own_step (W' := T1.setTop (mkF m 7 #[.val (.ref (w 4))] [])) (fun _ k => Jvm.RoadKit.acmp (g := (mkF m 4 #[.val (.ref (w 4))] [(.ref (w 13)), (.ref (w 4))])) X1 hx rfl rfl rfl (pc0 := 4) (pc' := 7) (same := false) rfl (hb hby d1_4) rfl (decide_eq_false fun q => (Fld.ne (pin_F4_ordinal P) (pin_F13_ordinal P) (by decide)) (Value.ref.inj q)) (by decide) (by decide) k) ?_
  refine own_step (W' := T1.setTop (mkF m 8 #[.val (.ref (w 4))] [(.int (1 : Int32))])) (fun _ k => XS.iconst X1.here hx rfl (hb hby d1_7) k) ?_
  refine own_step (W' := T1.setTop (mkF m 12 #[.val (.ref (w 4))] [(.int (1 : Int32))])) (fun _ k => XS.goto X1.here hx rfl (pc0 := 8) (pc' := 12) rfl (hb hby d1_8) (by decide) (by decide) k) ?_
  exact own_ret X1 Bd.notSynchronized Bd.returns (v := (.int (1 : Int32))) (fun fs hr => retN X1 hx (t := .boolean) Bd.returns (by simp) (hb hby d1_12) hr) ⟨rfl, N0, e1⟩ (by decide) (by decide)
set_option maxRecDepth 65536 in
set_option maxHeartbeats 40000000 in
theorem rm2_w4 (l : Launch) (Z : State) (a0 : Array Value) (hw : ∀ d ∈ tables_1, d.before a0 Z = true) (ws : List Jvm.Cond) (w : Nat → Addr) (h0 : Heap) (n0 : Nat) (Z0 : n0 ≤ h0.size) (P : Pins Z h0 w) :
    MetFree l (⟨"com/example/featherstar/featherstar/condition/Operator", "positive", "()Lcom/example/featherstar/featherstar/condition/Operator;"⟩ : MethodName) (head1 (Jvm.Cond.code (⟨"com/example/featherstar/featherstar/condition/Operator", "positive", "()Lcom/example/featherstar/featherstar/condition/Operator;"⟩ : MethodName) prog_13_method_8_code 1 (some (.object "com/example/featherstar/featherstar/condition/Operator")) :: ws) ({ frames := 0, cells := 0, slots := 0, locals := 0 } : Room)) (fun aA U => aA = #[(.ref (w 4))] ∧ Z.Warmed39 U.vm ∧ U.heap = h0) (fun _ _ _ _ _ => True) (fun _ U o U' => ∃ v L, o = .returned v ∧ own_QK (some (.ref (w 4))) h0 n0 v U'.heap L ∧ FrameEnd U o U' L ({ frames := 0, cells := 0, slots := 0, locals := 0 } : Room).cells ({ frames := 0, cells := 0, slots := 0, locals := 0 } : Room).slots) := by
  refine MetFree.of_bodySF (plainFor_of_name pn_com_example_featherstar_featherstar_condition_Operator) hisR ?_
  intro p e s m args below meth c s₁ Bd hml0 hP hK
  obtain ⟨rfl, hZ, hh⟩ := hP
  have hx := Bd.exec
  have hby := Bd.bytes
  have hml : c.maxLocals = 1 := hml0
  have hown : s.vm.findClass "com/example/featherstar/featherstar/condition/Operator" = some m.cls := findClass_of_methodNamed Bd.named
  have hnm := (name_of_methodNamed Bd.named Bd.method).1
  have X0 : Stand p l e ({ frames := 0, cells := 0, slots := 0, locals := 0 } : Room) s m #[(.ref (w 4))] below meth c s₁ [] 0 0 := Stand.of_body Bd
  have e0 : s₁.heap = h0 := by rw [← hh, Bd.state]; rfl
  have N0 := Fr.nil n0
  refine own_enter (ef_2_R m (w 4)) ?_
  refine own_step (W' := s₁.setTop (mkF m 1 #[.val (.ref (w 4))] [(.ref (w 4))])) (fun _ k => XS.aloadN X0.here hx rfl (hb hby d2_0) rfl rfl k) ?_
  obtain ⟨T1, X1, e1, st1⟩ := getF X0 hx hZ hown (host := "") (Or.inl (hw _ (List.mem_of_getElem? (i := 44) rfl))) Via.refl e0 (pin_F4_negated P) (g := (mkF m 1 #[.val (.ref (w 4))] [(.ref (w 4))])) rfl rfl (hb hby d2_1)
  refine own_step (W' := T1.setTop (mkF m 4 #[.val (.ref (w 4))] [.null])) (fun _ k => st1 _ k) ?_
  refine own_step (W' := T1.setTop (mkF m 7 #[.val (.ref (w 4))] [])) (fun _ k => XS.ifnonnullNo X1.here hx rfl (hb hby d2_4) rfl k) ?_
  refine own_step (W' := T1.setTop (mkF m 8 #[.val (.ref (w 4))] [(.ref (w 4))])) (fun _ k => XS.aloadN X1.here hx rfl (hb hby d2_7) rfl rfl k) ?_
  refine own_step (W' := T1.setTop (mkF m 15 #[.val (.ref (w 4))] [(.ref (w 4))])) (fun _ k => XS.goto X1.here hx rfl (pc0 := 8) (pc' := 15) rfl (hb hby d2_8) (by decide) (by decide) k) ?_
  exact own_ret X1 Bd.notSynchronized Bd.returns (v := (.ref (w 4))) (fun fs hr => retOut X1 hx Bd.returns rfl (Or.inr (Or.inr (Or.inr (Or.inr ⟨rfl, rfl, rfl⟩)))) (hb hby d2_15) hr) ⟨rfl, N0, e1⟩ (by decide) (by decide)
set_option maxRecDepth 65536 in
set_option maxHeartbeats 40000000 in
theorem rm0_4 (l : Launch) (Z : State) (a0 : Array Value) (hw : ∀ d ∈ tables_1, d.before a0 Z = true) (ws : List Jvm.Cond) (p1 : Int32) (hk : ((p1 &&& (2147483647 : Int32)) % (14 : Int32)) = (4 : Int32)) (w : Nat → Addr) (h0 : Heap) (n0 : Nat) (Z0 : n0 ≤ h0.size) (P : Pins Z h0 w) :
    MetFree l x (head1 (Jvm.Cond.code x code maxLocals ret :: ws) room_1) (fun aA U => aA = #[(.int p1)] ∧ Z.Warmed39 U.vm ∧ U.heap = h0) (fun _ _ _ _ _ => True) (fun _ U o U' => ∃ v L, o = .returned v ∧ own_Q0 n0 v U'.heap L ∧ FrameEnd U o U' L room_1.cells room_1.slots) := by
  refine MetFree.of_bodySF (plainFor_of_name pn_com_example_featherstar_featherstar_condition_OperatorTakesOperandPinLaw) hisR ?_
  intro p e s m args below meth c s₁ Bd hml0 hP hK
  obtain ⟨rfl, hZ, hh⟩ := hP
  have hx := Bd.exec
  have hby := Bd.bytes
  have hml : c.maxLocals = 7 := hml0
  have hown : s.vm.findClass "com/example/featherstar/featherstar/condition/OperatorTakesOperandPinLaw" = some m.cls := findClass_of_methodNamed Bd.named
  have hnm := (name_of_methodNamed Bd.named Bd.method).1
  have X0 : Stand p l e room_1 s m #[(.int p1)] below meth c s₁ [] 0 0 := Stand.of_body Bd
  have e0 : s₁.heap = h0 := by rw [← hh, Bd.state]; rfl
  have N0 := Fr.nil n0
  refine own_enter (ef_0_I m p1) ?_
  refine own_fill p1 X0 hx hZ hw hby hml hown e0 N0 Z0 P ?_
  intro T1 h1 L1 k1 b1 X1 e1 E1 N1 V1
  have P1 : Pins Z h1 w := P.ext E1
  have Z1 : n0 ≤ h1.size := Nat.le_trans Z0 E1.1
  refine own_step (W' := T1.setTop (mkF m 98 #[.val (.int p1), .val (.ref b1), .unset, .unset, .unset, .unset, .unset] [])) (fun _ k => XS.astoreN X1.here hx rfl (hb hby at_97) rfl rfl (l' := #[.val (.int p1), .val (.ref b1), .unset, .unset, .unset, .unset, .unset]) rfl k) ?_
  refine own_step (W' := T1.setTop (mkF m 99 #[.val (.int p1), .val (.ref b1), .unset, .unset, .unset, .unset, .unset] [(.int p1)])) (fun _ k => XS.iloadN X1.here hx rfl (hb hby at_98) rfl k) ?_
  refine own_step (W' := T1.setTop (mkF m 101 #[.val (.int p1), .val (.ref b1), .unset, .unset, .unset, .unset, .unset] [(.int (2147483647 : Int32)), (.int p1)])) (fun _ k => X1.ldcInt hx hown (mvT hZ (hw _ (List.mem_of_getElem? (i := 32) rfl))) (g := (mkF m 99 #[.val (.int p1), .val (.ref b1), .unset, .unset, .unset, .unset, .unset] [(.int p1)])) rfl (hb hby at_99) _ k) ?_
  refine own_step (W' := T1.setTop (mkF m 102 #[.val (.int p1), .val (.ref b1), .unset, .unset, .unset, .unset, .unset] [(.int (p1 &&& (2147483647 : Int32)))])) (fun _ k => XS.iand X1.here hx rfl (hb hby at_101) rfl k) ?_
  refine own_step (W' := T1.setTop (mkF m 104 #[.val (.int p1), .val (.ref b1), .unset, .unset, .unset, .unset, .unset] [(.int (14 : Int32)), (.int (p1 &&& (2147483647 : Int32)))])) (fun _ k => XS.bipush X1.here hx rfl (hb hby at_102) k) ?_
  refine own_step (W' := T1.setTop (mkF m 105 #[.val (.int p1), .val (.ref b1), .unset, .unset, .unset, .unset, .unset] [(.int ((p1 &&& (2147483647 : Int32)) % (14 : Int32)))])) (fun _ k => iremM X1 hx rfl (hb hby at_104) rfl (by decide) k) ?_
  rw [hk]
  refine own_step (W' := T1.setTop (mkF m 106 #[.val (.int p1), .val (.ref b1), .val (.int (4 : Int32)), .unset, .unset, .unset, .unset] [])) (fun _ k => XS.istoreN X1.here hx rfl (hb hby at_105) rfl (l' := #[.val (.int p1), .val (.ref b1), .val (.int (4 : Int32)), .unset, .unset, .unset, .unset]) rfl k) ?_
  refine own_step (W' := T1.setTop (mkF m 107 #[.val (.int p1), .val (.ref b1), .val (.int (4 : Int32)), .unset, .unset, .unset, .unset] [(.ref b1)])) (fun _ k => XS.aloadN X1.here hx rfl (hb hby at_106) rfl rfl k) ?_
  refine own_step (W' := T1.setTop (mkF m 108 #[.val (.int p1), .val (.ref b1), .val (.int (4 : Int32)), .unset, .unset, .unset, .unset] [(.int (4 : Int32)), (.ref b1)])) (fun _ k => XS.iloadN X1.here hx rfl (hb hby at_107) rfl k) ?_
  refine own_step (W' := T1.setTop (mkF m 109 #[.val (.int p1), .val (.ref b1), .val (.int (4 : Int32)), .unset, .unset, .unset, .unset] [(.ref (w 4))])) (fun _ k => own_ldR X1 hx hZ e1 V1 (j := (4 : Int32)) (v := (.ref (w 4))) ⟨by decide, by decide⟩ rfl (g := (mkF m 108 #[.val (.int p1), .val (.ref b1), .val (.int (4 : Int32)), .unset, .unset, .unset, .unset] [(.int (4 : Int32)), (.ref b1)])) rfl rfl (hb hby at_108) _ k) ?_
  refine own_step (W' := T1.setTop (mkF m 110 #[.val (.int p1), .val (.ref b1), .val (.int (4 : Int32)), .val (.ref (w 4)), .unset, .unset, .unset] [])) (fun _ k => XS.astoreN X1.here hx rfl (hb hby at_109) rfl rfl (l' := #[.val (.int p1), .val (.ref b1), .val (.int (4 : Int32)), .val (.ref (w 4)), .unset, .unset, .unset]) rfl k) ?_
  refine own_step (W' := T1.setTop (mkF m 111 #[.val (.int p1), .val (.ref b1), .val (.int (4 : Int32)), .val (.ref (w 4)), .unset, .unset, .unset] [(.int (4 : Int32))])) (fun _ k => XS.iloadN X1.here hx rfl (hb hby at_110) rfl k) ?_
  refine own_step (W' := T1.setTop (mkF m 113 #[.val (.int p1), .val (.ref b1), .val (.int (4 : Int32)), .val (.ref (w 4)), .unset, .unset, .unset] [(.int (13 : Int32)), (.int (4 : Int32))])) (fun _ k => XS.bipush X1.here hx rfl (hb hby at_111) k) ?_
  refine own_step (W' := T1.setTop (mkF m 116 #[.val (.int p1), .val (.ref b1), .val (.int (4 : Int32)), .val (.ref (w 4)), .unset, .unset, .unset] [])) (fun _ k => XS.icmpNo X1.here hx rfl (hb hby at_113) rfl (by decide) k) ?_
  refine own_step (W' := T1.setTop (mkF m 117 #[.val (.int p1), .val (.ref b1), .val (.int (4 : Int32)), .val (.ref (w 4)), .unset, .unset, .unset] [(.int (1 : Int32))])) (fun _ k => XS.iconst X1.here hx rfl (hb hby at_116) k) ?_
  refine own_step (W' := T1.setTop (mkF m 121 #[.val (.int p1), .val (.ref b1), .val (.int (4 : Int32)), .val (.ref (w 4)), .unset, .unset, .unset] [(.int (1 : Int32))])) (fun _ k => XS.goto X1.here hx rfl (pc0 := 117) (pc' := 121) rfl (hb hby at_117) (by decide) (by decide) k) ?_
  refine own_step (W' := T1.setTop (mkF m 123 #[.val (.int p1), .val (.ref b1), .val (.int (4 : Int32)), .val (.ref (w 4)), .val (.int (1 : Int32)), .unset, .unset] [])) (fun _ k => XS.istore X1.here hx rfl (hb hby at_121) rfl (l' := #[.val (.int p1), .val (.ref b1), .val (.int (4 : Int32)), .val (.ref (w 4)), .val (.int (1 : Int32)), .unset, .unset]) rfl k) ?_
  refine own_step (W' := T1.setTop (mkF m 124 #[.val (.int p1), .val (.ref b1), .val (.int (4 : Int32)), .val (.ref (w 4)), .val (.int (1 : Int32)), .unset, .unset] [(.ref (w 4))])) (fun _ k => XS.aloadN X1.here hx rfl (hb hby at_123) rfl rfl k) ?_
  obtain ⟨cq2, kq2, q2a, q2b, q2c⟩ := isOf hZ e1 (pin_E4 P1)
  obtain ⟨_, _, ⟨T2, L2, k2, n2⟩, -, X2, ⟨Lc2, hQ2, l2, y2, z2⟩, st2⟩ := X1.virtualBack hx (y := (⟨"com/example/featherstar/featherstar/condition/Operator", "takesOperand", "()Z"⟩ : MethodName)) (z := (⟨"com/example/featherstar/featherstar/condition/Operator", "takesOperand", "()Z"⟩ : MethodName)) hown (mvT hZ (hw _ (List.mem_of_getElem? (i := 33) rfl))) (mvT hZ (hw _ (List.mem_of_getElem? (i := 34) rfl))) (notFace_of_selects (args := #[]) (mvT hZ (hw _ (List.mem_of_getElem? (i := 36) rfl)))) (mvT hZ (hw _ (List.mem_of_getElem? (i := 36) rfl))) (mvT hZ (hw _ (List.mem_of_getElem? (i := 35) rfl))) (by decide) (backOf (W := 0) (rm1_w4 l Z a0 hw [] w h1 n0 Z1 P1) hZ (hw _ (List.mem_of_getElem? (i := 37) rfl)) (hw _ (List.mem_of_getElem? (i := 3) rfl)) (by decide) (by decide)) q2a q2c (g := (mkF m 124 #[.val (.int p1), .val (.ref b1), .val (.int (4 : Int32)), .val (.ref (w 4)), .val (.int (1 : Int32)), .unset, .unset] [(.ref (w 4))])) rfl (by rw [hml]; rfl) (Steps.refl _) (argsL := []) (rest := []) (lenOf pd_0 rfl) rfl (by show 2 * 0 + _ ≤ _; exact Nat.le_of_eq rfl) (hb hby at_124) (fun _ _ => ⟨rfl, e1, (by decide : 1 + 0 ≤ _), (by decide : 14 + 0 ≤ _)⟩)
  dsimp only [Pt.U, Pt.locs, Pt.cells, Pt.slots] at X2 l2 y2 z2 st2 hQ2
  subst l2 y2 z2
  obtain ⟨rfl, N2q, e2⟩ := hQ2
  have N2 := Fr.app N1 N2q
  refine own_step (W' := T2.setTop (mkF m 127 #[.val (.int p1), .val (.ref b1), .val (.int (4 : Int32)), .val (.ref (w 4)), .val (.int (1 : Int32)), .unset, .unset] [(.int (1 : Int32))])) (fun _ k => st2.trans k) ?_
  refine own_step (W' := T2.setTop (mkF m 129 #[.val (.int p1), .val (.ref b1), .val (.int (4 : Int32)), .val (.ref (w 4)), .val (.int (1 : Int32)), .val (.int (1 : Int32)), .unset] [])) (fun _ k => XS.istore X2.here hx rfl (hb hby at_127) rfl (l' := #[.val (.int p1), .val (.ref b1), .val (.int (4 : Int32)), .val (.ref (w 4)), .val (.int (1 : Int32)), .val (.int (1 : Int32)), .unset]) rfl k) ?_
  refine own_step (W' := T2.setTop (mkF m 130 #[.val (.int p1), .val (.ref b1), .val (.int (4 : Int32)), .val (.ref (w 4)), .val (.int (1 : Int32)), .val (.int (1 : Int32)), .unset] [(.ref (w 4))])) (fun _ k => XS.aloadN X2.here hx rfl (hb hby at_129) rfl rfl k) ?_
  obtain ⟨cq3, kq3, q3a, q3b, q3c⟩ := isOf hZ e2 (pin_E4 P1)
  obtain ⟨_, _, ⟨T3, L3, k3, n3⟩, -, X3, ⟨Lc3, hQ3, l3, y3, z3⟩, st3⟩ := X2.virtualBack hx (y := (⟨"com/example/featherstar/featherstar/condition/Operator", "positive", "()Lcom/example/featherstar/featherstar/condition/Operator;"⟩ : MethodName)) (z := (⟨"com/example/featherstar/featherstar/condition/Operator", "positive", "()Lcom/example/featherstar/featherstar/condition/Operator;"⟩ : MethodName)) hown (mvT hZ (hw _ (List.mem_of_getElem? (i := 39) rfl))) (mvT hZ (hw _ (List.mem_of_getElem? (i := 40) rfl))) (notFace_of_selects (args := #[]) (mvT hZ (hw _ (List.mem_of_getElem? (i := 42) rfl)))) (mvT hZ (hw _ (List.mem_of_getElem? (i := 42) rfl))) (mvT hZ (hw _ (List.mem_of_getElem? (i := 41) rfl))) (by decide) (backOf (W := 0) (rm2_w4 l Z a0 hw [] w h1 n0 Z1 P1) hZ (hw _ (List.mem_of_getElem? (i := 43) rfl)) (hw _ (List.mem_of_getElem? (i := 3) rfl)) (by decide) (by decide)) q3a q3c (g := (mkF m 130 #[.val (.int p1), .val (.ref b1), .val (.int (4 : Int32)), .val (.ref (w 4)), .val (.int (1 : Int32)), .val (.int (1 : Int32)), .unset] [(.ref (w 4))])) rfl (by rw [hml]; rfl) (Steps.refl _) (argsL := []) (rest := []) (lenOf pd_1 rfl) rfl (by show 2 * 0 + _ ≤ _; exact Nat.le_of_eq rfl) (hb hby at_130) (fun _ _ => ⟨rfl, e2, (by decide : 1 + 0 ≤ _), (by decide : 14 + 0 ≤ _)⟩)
  dsimp only [Pt.U, Pt.locs, Pt.cells, Pt.slots] at X3 l3 y3 z3 st3 hQ3
  subst l3 y3 z3
  obtain ⟨rfl, N3q, e3⟩ := hQ3
  have N3 := Fr.app N2 N3q
  refine own_step (W' := T3.setTop (mkF m 133 #[.val (.int p1), .val (.ref b1), .val (.int (4 : Int32)), .val (.ref (w 4)), .val (.int (1 : Int32)), .val (.int (1 : Int32)), .unset] [(.ref (w 4))])) (fun _ k => st3.trans k) ?_
  obtain ⟨cq4, kq4, q4a, q4b, q4c⟩ := isOf hZ e3 (pin_E4 P1)
  obtain ⟨_, _, ⟨T4, L4, k4, n4⟩, -, X4, ⟨Lc4, hQ4, l4, y4, z4⟩, st4⟩ := X3.virtualBack hx (y := (⟨"com/example/featherstar/featherstar/condition/Operator", "takesOperand", "()Z"⟩ : MethodName)) (z := (⟨"com/example/featherstar/featherstar/condition/Operator", "takesOperand", "()Z"⟩ : MethodName)) hown (mvT hZ (hw _ (List.mem_of_getElem? (i := 33) rfl))) (mvT hZ (hw _ (List.mem_of_getElem? (i := 34) rfl))) (notFace_of_selects (args := #[]) (mvT hZ (hw _ (List.mem_of_getElem? (i := 36) rfl)))) (mvT hZ (hw _ (List.mem_of_getElem? (i := 36) rfl))) (mvT hZ (hw _ (List.mem_of_getElem? (i := 35) rfl))) (by decide) (backOf (W := 0) (rm1_w4 l Z a0 hw [] w h1 n0 Z1 P1) hZ (hw _ (List.mem_of_getElem? (i := 37) rfl)) (hw _ (List.mem_of_getElem? (i := 3) rfl)) (by decide) (by decide)) q4a q4c (g := (mkF m 133 #[.val (.int p1), .val (.ref b1), .val (.int (4 : Int32)), .val (.ref (w 4)), .val (.int (1 : Int32)), .val (.int (1 : Int32)), .unset] [(.ref (w 4))])) rfl (by rw [hml]; rfl) (Steps.refl _) (argsL := []) (rest := []) (lenOf pd_0 rfl) rfl (by show 2 * 0 + _ ≤ _; exact Nat.le_of_eq rfl) (hb hby at_133) (fun _ _ => ⟨rfl, e3, (by decide : 1 + 0 ≤ _), (by decide : 14 + 0 ≤ _)⟩)
  dsimp only [Pt.U, Pt.locs, Pt.cells, Pt.slots] at X4 l4 y4 z4 st4 hQ4
  subst l4 y4 z4
  obtain ⟨rfl, N4q, e4⟩ := hQ4
  have N4 := Fr.app N3 N4q
  refine own_step (W' := T4.setTop (mkF m 136 #[.val (.int p1), .val (.ref b1), .val (.int (4 : Int32)), .val (.ref (w 4)), .val (.int (1 : Int32)), .val (.int (1 : Int32)), .unset] [(.int (1 : Int32))])) (fun _ k => st4.trans k) ?_
  refine own_step (W' := T4.setTop (mkF m 138 #[.val (.int p1), .val (.ref b1), .val (.int (4 : Int32)), .val (.ref (w 4)), .val (.int (1 : Int32)), .val (.int (1 : Int32)), .val (.int (1 : Int32))] [])) (fun _ k => XS.istore X4.here hx rfl (hb hby at_136) rfl (l' := #[.val (.int p1), .val (.ref b1), .val (.int (4 : Int32)), .val (.ref (w 4)), .val (.int (1 : Int32)), .val (.int (1 : Int32)), .val (.int (1 : Int32))]) rfl k) ?_
  refine own_step (W' := T4.setTop (mkF m 140 #[.val (.int p1), .val (.ref b1), .val (.int (4 : Int32)), .val (.ref (w 4)), .val (.int (1 : Int32)), .val (.int (1 : Int32)), .val (.int (1 : Int32))] [(.int (1 : Int32))])) (fun _ k => XS.iload X4.here hx rfl (hb hby at_138) rfl k) ?_
  refine own_step (W' := T4.setTop (mkF m 142 #[.val (.int p1), .val (.ref b1), .val (.int (4 : Int32)), .val (.ref (w 4)), .val (.int (1 : Int32)), .val (.int (1 : Int32)), .val (.int (1 : Int32))] [(.int (1 : Int32)), (.int (1 : Int32))])) (fun _ k => XS.iload X4.here hx rfl (hb hby at_140) rfl k) ?_
  refine own_step (W' := T4.setTop (mkF m 145 #[.val (.int p1), .val (.ref b1), .val (.int (4 : Int32)), .val (.ref (w 4)), .val (.int (1 : Int32)), .val (.int (1 : Int32)), .val (.int (1 : Int32))] [])) (fun _ k => XS.icmpNo X4.here hx rfl (hb hby at_142) rfl (by decide) k) ?_
  refine own_step (W' := T4.setTop (mkF m 147 #[.val (.int p1), .val (.ref b1), .val (.int (4 : Int32)), .val (.ref (w 4)), .val (.int (1 : Int32)), .val (.int (1 : Int32)), .val (.int (1 : Int32))] [(.int (1 : Int32))])) (fun _ k => XS.iload X4.here hx rfl (hb hby at_145) rfl k) ?_
  refine own_step (W' := T4.setTop (mkF m 149 #[.val (.int p1), .val (.ref b1), .val (.int (4 : Int32)), .val (.ref (w 4)), .val (.int (1 : Int32)), .val (.int (1 : Int32)), .val (.int (1 : Int32))] [(.int (1 : Int32)), (.int (1 : Int32))])) (fun _ k => XS.iload X4.here hx rfl (hb hby at_147) rfl k) ?_
  refine own_step (W' := T4.setTop (mkF m 152 #[.val (.int p1), .val (.ref b1), .val (.int (4 : Int32)), .val (.ref (w 4)), .val (.int (1 : Int32)), .val (.int (1 : Int32)), .val (.int (1 : Int32))] [])) (fun _ k => XS.icmpNo X4.here hx rfl (hb hby at_149) rfl (by decide) k) ?_
  refine own_step (W' := T4.setTop (mkF m 153 #[.val (.int p1), .val (.ref b1), .val (.int (4 : Int32)), .val (.ref (w 4)), .val (.int (1 : Int32)), .val (.int (1 : Int32)), .val (.int (1 : Int32))] [(.int (1 : Int32))])) (fun _ k => XS.iconst X4.here hx rfl (hb hby at_152) k) ?_
  refine own_step (W' := T4.setTop (mkF m 157 #[.val (.int p1), .val (.ref b1), .val (.int (4 : Int32)), .val (.ref (w 4)), .val (.int (1 : Int32)), .val (.int (1 : Int32)), .val (.int (1 : Int32))] [(.int (1 : Int32))])) (fun _ k => XS.goto X4.here hx rfl (pc0 := 153) (pc' := 157) rfl (hb hby at_153) (by decide) (by decide) k) ?_
  exact own_ret X4 Bd.notSynchronized Bd.returns (v := (.int (1 : Int32))) (fun fs hr => retN X4 hx (t := .boolean) Bd.returns (by simp) (hb hby at_157) hr) ⟨rfl, N4⟩ (by decide) (by decide)
set_option maxRecDepth 65536 in
set_option maxHeartbeats 40000000 in
theorem rm1_w5 (l : Launch) (Z : State) (a0 : Array Value) (hw : ∀ d ∈ tables_1, d.before a0 Z = true) (ws : List Jvm.Cond) (w : Nat → Addr) (h0 : Heap) (n0 : Nat) (Z0 : n0 ≤ h0.size) (P : Pins Z h0 w) :
    MetFree l (⟨"com/example/featherstar/featherstar/condition/Operator", "takesOperand", "()Z"⟩ : MethodName) (head1 (Jvm.Cond.code (⟨"com/example/featherstar/featherstar/condition/Operator", "takesOperand", "()Z"⟩ : MethodName) prog_13_method_6_code 1 (some .boolean) :: ws) ({ frames := 0, cells := 0, slots := 0, locals := 0 } : Room)) (fun aA U => aA = #[(.ref (w 5))] ∧ Z.Warmed39 U.vm ∧ U.heap = h0) (fun _ _ _ _ _ => True) (fun _ U o U' => ∃ v L, o = .returned v ∧ own_QK (some (.int (1 : Int32))) h0 n0 v U'.heap L ∧ FrameEnd U o U' L ({ frames := 0, cells := 0, slots := 0, locals := 0 } : Room).cells ({ frames := 0, cells := 0, slots := 0, locals := 0 } : Room).slots) := by
  refine MetFree.of_bodySF (plainFor_of_name pn_com_example_featherstar_featherstar_condition_Operator) hisR ?_
  intro p e s m args below meth c s₁ Bd hml0 hP hK
  obtain ⟨rfl, hZ, hh⟩ := hP
  have hx := Bd.exec
  have hby := Bd.bytes
  have hml : c.maxLocals = 1 := hml0
  have hown : s.vm.findClass "com/example/featherstar/featherstar/condition/Operator" = some m.cls := findClass_of_methodNamed Bd.named
  have hnm := (name_of_methodNamed Bd.named Bd.method).1
  have X0 : Stand p l e ({ frames := 0, cells := 0, slots := 0, locals := 0 } : Room) s m #[(.ref (w 5))] below meth c s₁ [] 0 0 := Stand.of_body Bd
  have e0 : s₁.heap = h0 := by rw [← hh, Bd.state]; rfl
  have N0 := Fr.nil n0
  refine own_enter (ef_1_R m (w 5)) ?_
  refine own_step (W' := s₁.setTop (mkF m 1 #[.val (.ref (w 5))] [(.ref (w 5))])) (fun _ k => XS.aloadN X0.here hx rfl (hb hby d1_0) rfl rfl k) ?_
  obtain ⟨T1, X1, e1, st1⟩ := getS2 X0 hx hZ hown (host := "") (Or.inl (hw _ (List.mem_of_getElem? (i := 38) rfl))) Via.refl e0 (pin_S13 P) (g := (mkF m 1 #[.val (.ref (w 5))] [(.ref (w 5))])) rfl (hb hby d1_1)
  refine own_step (W' := T1.setTop (mkF m 4 #[.val (.ref (w 5))] [(.ref (w 13)), (.ref (w 5))])) (fun _ k => st1 _ k) ?_
  refine own_step (W' := T1.setTop (mkF m 7 #[.val (.ref (w 5))] [])) (fun _ k => Jvm.RoadKit.acmp (g := (mkF m 4 #[.val (.ref (w 5))] [(.ref (w 13)), (.ref (w 5))])) X1 hx rfl rfl rfl (pc0 := 4) (pc' := 7) (same := false) rfl (hb hby d1_4) rfl (decide_eq_false fun q => (Fld.ne (pin_F5_ordinal P) (pin_F13_ordinal P) (by decide)) (Value.ref.inj q)) (by decide) (by decide) k) ?_
  refine own_step (W' := T1.setTop (mkF m 8 #[.val (.ref (w 5))] [(.int (1 : Int32))])) (fun _ k => XS.iconst X1.here hx rfl (hb hby d1_7) k) ?_
  refine own_step (W' := T1.setTop (mkF m 12 #[.val (.ref (w 5))] [(.int (1 : Int32))])) (fun _ k => XS.goto X1.here hx rfl (pc0 := 8) (pc' := 12) rfl (hb hby d1_8) (by decide) (by decide) k) ?_
  exact own_ret X1 Bd.notSynchronized Bd.returns (v := (.int (1 : Int32))) (fun fs hr => retN X1 hx (t := .boolean) Bd.returns (by simp) (hb hby d1_12) hr) ⟨rfl, N0, e1⟩ (by decide) (by decide)
set_option maxRecDepth 65536 in
set_option maxHeartbeats 40000000 in
theorem rm2_w5 (l : Launch) (Z : State) (a0 : Array Value) (hw : ∀ d ∈ tables_1, d.before a0 Z = true) (ws : List Jvm.Cond) (w : Nat → Addr) (h0 : Heap) (n0 : Nat) (Z0 : n0 ≤ h0.size) (P : Pins Z h0 w) :
    MetFree l (⟨"com/example/featherstar/featherstar/condition/Operator", "positive", "()Lcom/example/featherstar/featherstar/condition/Operator;"⟩ : MethodName) (head1 (Jvm.Cond.code (⟨"com/example/featherstar/featherstar/condition/Operator", "positive", "()Lcom/example/featherstar/featherstar/condition/Operator;"⟩ : MethodName) prog_13_method_8_code 1 (some (.object "com/example/featherstar/featherstar/condition/Operator")) :: ws) ({ frames := 0, cells := 0, slots := 0, locals := 0 } : Room)) (fun aA U => aA = #[(.ref (w 5))] ∧ Z.Warmed39 U.vm ∧ U.heap = h0) (fun _ _ _ _ _ => True) (fun _ U o U' => ∃ v L, o = .returned v ∧ own_QK (some (.ref (w 5))) h0 n0 v U'.heap L ∧ FrameEnd U o U' L ({ frames := 0, cells := 0, slots := 0, locals := 0 } : Room).cells ({ frames := 0, cells := 0, slots := 0, locals := 0 } : Room).slots) := by
  refine MetFree.of_bodySF (plainFor_of_name pn_com_example_featherstar_featherstar_condition_Operator) hisR ?_
  intro p e s m args below meth c s₁ Bd hml0 hP hK
  obtain ⟨rfl, hZ, hh⟩ := hP
  have hx := Bd.exec
  have hby := Bd.bytes
  have hml : c.maxLocals = 1 := hml0
  have hown : s.vm.findClass "com/example/featherstar/featherstar/condition/Operator" = some m.cls := findClass_of_methodNamed Bd.named
  have hnm := (name_of_methodNamed Bd.named Bd.method).1
  have X0 : Stand p l e ({ frames := 0, cells := 0, slots := 0, locals := 0 } : Room) s m #[(.ref (w 5))] below meth c s₁ [] 0 0 := Stand.of_body Bd
  have e0 : s₁.heap = h0 := by rw [← hh, Bd.state]; rfl
  have N0 := Fr.nil n0
  refine own_enter (ef_2_R m (w 5)) ?_
  refine own_step (W' := s₁.setTop (mkF m 1 #[.val (.ref (w 5))] [(.ref (w 5))])) (fun _ k => XS.aloadN X0.here hx rfl (hb hby d2_0) rfl rfl k) ?_
  obtain ⟨T1, X1, e1, st1⟩ := getF X0 hx hZ hown (host := "") (Or.inl (hw _ (List.mem_of_getElem? (i := 44) rfl))) Via.refl e0 (pin_F5_negated P) (g := (mkF m 1 #[.val (.ref (w 5))] [(.ref (w 5))])) rfl rfl (hb hby d2_1)
  refine own_step (W' := T1.setTop (mkF m 4 #[.val (.ref (w 5))] [.null])) (fun _ k => st1 _ k) ?_
  refine own_step (W' := T1.setTop (mkF m 7 #[.val (.ref (w 5))] [])) (fun _ k => XS.ifnonnullNo X1.here hx rfl (hb hby d2_4) rfl k) ?_
  refine own_step (W' := T1.setTop (mkF m 8 #[.val (.ref (w 5))] [(.ref (w 5))])) (fun _ k => XS.aloadN X1.here hx rfl (hb hby d2_7) rfl rfl k) ?_
  refine own_step (W' := T1.setTop (mkF m 15 #[.val (.ref (w 5))] [(.ref (w 5))])) (fun _ k => XS.goto X1.here hx rfl (pc0 := 8) (pc' := 15) rfl (hb hby d2_8) (by decide) (by decide) k) ?_
  exact own_ret X1 Bd.notSynchronized Bd.returns (v := (.ref (w 5))) (fun fs hr => retOut X1 hx Bd.returns rfl (Or.inr (Or.inr (Or.inr (Or.inr ⟨rfl, rfl, rfl⟩)))) (hb hby d2_15) hr) ⟨rfl, N0, e1⟩ (by decide) (by decide)
set_option maxRecDepth 65536 in
set_option maxHeartbeats 40000000 in
theorem rm0_5 (l : Launch) (Z : State) (a0 : Array Value) (hw : ∀ d ∈ tables_1, d.before a0 Z = true) (ws : List Jvm.Cond) (p1 : Int32) (hk : ((p1 &&& (2147483647 : Int32)) % (14 : Int32)) = (5 : Int32)) (w : Nat → Addr) (h0 : Heap) (n0 : Nat) (Z0 : n0 ≤ h0.size) (P : Pins Z h0 w) :
    MetFree l x (head1 (Jvm.Cond.code x code maxLocals ret :: ws) room_1) (fun aA U => aA = #[(.int p1)] ∧ Z.Warmed39 U.vm ∧ U.heap = h0) (fun _ _ _ _ _ => True) (fun _ U o U' => ∃ v L, o = .returned v ∧ own_Q0 n0 v U'.heap L ∧ FrameEnd U o U' L room_1.cells room_1.slots) := by
  refine MetFree.of_bodySF (plainFor_of_name pn_com_example_featherstar_featherstar_condition_OperatorTakesOperandPinLaw) hisR ?_
  intro p e s m args below meth c s₁ Bd hml0 hP hK
  obtain ⟨rfl, hZ, hh⟩ := hP
  have hx := Bd.exec
  have hby := Bd.bytes
  have hml : c.maxLocals = 7 := hml0
  have hown : s.vm.findClass "com/example/featherstar/featherstar/condition/OperatorTakesOperandPinLaw" = some m.cls := findClass_of_methodNamed Bd.named
  have hnm := (name_of_methodNamed Bd.named Bd.method).1
  have X0 : Stand p l e room_1 s m #[(.int p1)] below meth c s₁ [] 0 0 := Stand.of_body Bd
  have e0 : s₁.heap = h0 := by rw [← hh, Bd.state]; rfl
  have N0 := Fr.nil n0
  refine own_enter (ef_0_I m p1) ?_
  refine own_fill p1 X0 hx hZ hw hby hml hown e0 N0 Z0 P ?_
  intro T1 h1 L1 k1 b1 X1 e1 E1 N1 V1
  have P1 : Pins Z h1 w := P.ext E1
  have Z1 : n0 ≤ h1.size := Nat.le_trans Z0 E1.1
  refine own_step (W' := T1.setTop (mkF m 98 #[.val (.int p1), .val (.ref b1), .unset, .unset, .unset, .unset, .unset] [])) (fun _ k => XS.astoreN X1.here hx rfl (hb hby at_97) rfl rfl (l' := #[.val (.int p1), .val (.ref b1), .unset, .unset, .unset, .unset, .unset]) rfl k) ?_
  refine own_step (W' := T1.setTop (mkF m 99 #[.val (.int p1), .val (.ref b1), .unset, .unset, .unset, .unset, .unset] [(.int p1)])) (fun _ k => XS.iloadN X1.here hx rfl (hb hby at_98) rfl k) ?_
  refine own_step (W' := T1.setTop (mkF m 101 #[.val (.int p1), .val (.ref b1), .unset, .unset, .unset, .unset, .unset] [(.int (2147483647 : Int32)), (.int p1)])) (fun _ k => X1.ldcInt hx hown (mvT hZ (hw _ (List.mem_of_getElem? (i := 32) rfl))) (g := (mkF m 99 #[.val (.int p1), .val (.ref b1), .unset, .unset, .unset, .unset, .unset] [(.int p1)])) rfl (hb hby at_99) _ k) ?_
  refine own_step (W' := T1.setTop (mkF m 102 #[.val (.int p1), .val (.ref b1), .unset, .unset, .unset, .unset, .unset] [(.int (p1 &&& (2147483647 : Int32)))])) (fun _ k => XS.iand X1.here hx rfl (hb hby at_101) rfl k) ?_
  refine own_step (W' := T1.setTop (mkF m 104 #[.val (.int p1), .val (.ref b1), .unset, .unset, .unset, .unset, .unset] [(.int (14 : Int32)), (.int (p1 &&& (2147483647 : Int32)))])) (fun _ k => XS.bipush X1.here hx rfl (hb hby at_102) k) ?_
  refine own_step (W' := T1.setTop (mkF m 105 #[.val (.int p1), .val (.ref b1), .unset, .unset, .unset, .unset, .unset] [(.int ((p1 &&& (2147483647 : Int32)) % (14 : Int32)))])) (fun _ k => iremM X1 hx rfl (hb hby at_104) rfl (by decide) k) ?_
  rw [hk]
  refine own_step (W' := T1.setTop (mkF m 106 #[.val (.int p1), .val (.ref b1), .val (.int (5 : Int32)), .unset, .unset, .unset, .unset] [])) (fun _ k => XS.istoreN X1.here hx rfl (hb hby at_105) rfl (l' := #[.val (.int p1), .val (.ref b1), .val (.int (5 : Int32)), .unset, .unset, .unset, .unset]) rfl k) ?_
  refine own_step (W' := T1.setTop (mkF m 107 #[.val (.int p1), .val (.ref b1), .val (.int (5 : Int32)), .unset, .unset, .unset, .unset] [(.ref b1)])) (fun _ k => XS.aloadN X1.here hx rfl (hb hby at_106) rfl rfl k) ?_
  refine own_step (W' := T1.setTop (mkF m 108 #[.val (.int p1), .val (.ref b1), .val (.int (5 : Int32)), .unset, .unset, .unset, .unset] [(.int (5 : Int32)), (.ref b1)])) (fun _ k => XS.iloadN X1.here hx rfl (hb hby at_107) rfl k) ?_
  refine own_step (W' := T1.setTop (mkF m 109 #[.val (.int p1), .val (.ref b1), .val (.int (5 : Int32)), .unset, .unset, .unset, .unset] [(.ref (w 5))])) (fun _ k => own_ldR X1 hx hZ e1 V1 (j := (5 : Int32)) (v := (.ref (w 5))) ⟨by decide, by decide⟩ rfl (g := (mkF m 108 #[.val (.int p1), .val (.ref b1), .val (.int (5 : Int32)), .unset, .unset, .unset, .unset] [(.int (5 : Int32)), (.ref b1)])) rfl rfl (hb hby at_108) _ k) ?_
  refine own_step (W' := T1.setTop (mkF m 110 #[.val (.int p1), .val (.ref b1), .val (.int (5 : Int32)), .val (.ref (w 5)), .unset, .unset, .unset] [])) (fun _ k => XS.astoreN X1.here hx rfl (hb hby at_109) rfl rfl (l' := #[.val (.int p1), .val (.ref b1), .val (.int (5 : Int32)), .val (.ref (w 5)), .unset, .unset, .unset]) rfl k) ?_
  refine own_step (W' := T1.setTop (mkF m 111 #[.val (.int p1), .val (.ref b1), .val (.int (5 : Int32)), .val (.ref (w 5)), .unset, .unset, .unset] [(.int (5 : Int32))])) (fun _ k => XS.iloadN X1.here hx rfl (hb hby at_110) rfl k) ?_
  refine own_step (W' := T1.setTop (mkF m 113 #[.val (.int p1), .val (.ref b1), .val (.int (5 : Int32)), .val (.ref (w 5)), .unset, .unset, .unset] [(.int (13 : Int32)), (.int (5 : Int32))])) (fun _ k => XS.bipush X1.here hx rfl (hb hby at_111) k) ?_
  refine own_step (W' := T1.setTop (mkF m 116 #[.val (.int p1), .val (.ref b1), .val (.int (5 : Int32)), .val (.ref (w 5)), .unset, .unset, .unset] [])) (fun _ k => XS.icmpNo X1.here hx rfl (hb hby at_113) rfl (by decide) k) ?_
  refine own_step (W' := T1.setTop (mkF m 117 #[.val (.int p1), .val (.ref b1), .val (.int (5 : Int32)), .val (.ref (w 5)), .unset, .unset, .unset] [(.int (1 : Int32))])) (fun _ k => XS.iconst X1.here hx rfl (hb hby at_116) k) ?_
  refine own_step (W' := T1.setTop (mkF m 121 #[.val (.int p1), .val (.ref b1), .val (.int (5 : Int32)), .val (.ref (w 5)), .unset, .unset, .unset] [(.int (1 : Int32))])) (fun _ k => XS.goto X1.here hx rfl (pc0 := 117) (pc' := 121) rfl (hb hby at_117) (by decide) (by decide) k) ?_
  refine own_step (W' := T1.setTop (mkF m 123 #[.val (.int p1), .val (.ref b1), .val (.int (5 : Int32)), .val (.ref (w 5)), .val (.int (1 : Int32)), .unset, .unset] [])) (fun _ k => XS.istore X1.here hx rfl (hb hby at_121) rfl (l' := #[.val (.int p1), .val (.ref b1), .val (.int (5 : Int32)), .val (.ref (w 5)), .val (.int (1 : Int32)), .unset, .unset]) rfl k) ?_
  refine own_step (W' := T1.setTop (mkF m 124 #[.val (.int p1), .val (.ref b1), .val (.int (5 : Int32)), .val (.ref (w 5)), .val (.int (1 : Int32)), .unset, .unset] [(.ref (w 5))])) (fun _ k => XS.aloadN X1.here hx rfl (hb hby at_123) rfl rfl k) ?_
  obtain ⟨cq2, kq2, q2a, q2b, q2c⟩ := isOf hZ e1 (pin_E5 P1)
  obtain ⟨_, _, ⟨T2, L2, k2, n2⟩, -, X2, ⟨Lc2, hQ2, l2, y2, z2⟩, st2⟩ := X1.virtualBack hx (y := (⟨"com/example/featherstar/featherstar/condition/Operator", "takesOperand", "()Z"⟩ : MethodName)) (z := (⟨"com/example/featherstar/featherstar/condition/Operator", "takesOperand", "()Z"⟩ : MethodName)) hown (mvT hZ (hw _ (List.mem_of_getElem? (i := 33) rfl))) (mvT hZ (hw _ (List.mem_of_getElem? (i := 34) rfl))) (notFace_of_selects (args := #[]) (mvT hZ (hw _ (List.mem_of_getElem? (i := 36) rfl)))) (mvT hZ (hw _ (List.mem_of_getElem? (i := 36) rfl))) (mvT hZ (hw _ (List.mem_of_getElem? (i := 35) rfl))) (by decide) (backOf (W := 0) (rm1_w5 l Z a0 hw [] w h1 n0 Z1 P1) hZ (hw _ (List.mem_of_getElem? (i := 37) rfl)) (hw _ (List.mem_of_getElem? (i := 3) rfl)) (by decide) (by decide)) q2a q2c (g := (mkF m 124 #[.val (.int p1), .val (.ref b1), .val (.int (5 : Int32)), .val (.ref (w 5)), .val (.int (1 : Int32)), .unset, .unset] [(.ref (w 5))])) rfl (by rw [hml]; rfl) (Steps.refl _) (argsL := []) (rest := []) (lenOf pd_0 rfl) rfl (by show 2 * 0 + _ ≤ _; exact Nat.le_of_eq rfl) (hb hby at_124) (fun _ _ => ⟨rfl, e1, (by decide : 1 + 0 ≤ _), (by decide : 14 + 0 ≤ _)⟩)
  dsimp only [Pt.U, Pt.locs, Pt.cells, Pt.slots] at X2 l2 y2 z2 st2 hQ2
  subst l2 y2 z2
  obtain ⟨rfl, N2q, e2⟩ := hQ2
  have N2 := Fr.app N1 N2q
  refine own_step (W' := T2.setTop (mkF m 127 #[.val (.int p1), .val (.ref b1), .val (.int (5 : Int32)), .val (.ref (w 5)), .val (.int (1 : Int32)), .unset, .unset] [(.int (1 : Int32))])) (fun _ k => st2.trans k) ?_
  refine own_step (W' := T2.setTop (mkF m 129 #[.val (.int p1), .val (.ref b1), .val (.int (5 : Int32)), .val (.ref (w 5)), .val (.int (1 : Int32)), .val (.int (1 : Int32)), .unset] [])) (fun _ k => XS.istore X2.here hx rfl (hb hby at_127) rfl (l' := #[.val (.int p1), .val (.ref b1), .val (.int (5 : Int32)), .val (.ref (w 5)), .val (.int (1 : Int32)), .val (.int (1 : Int32)), .unset]) rfl k) ?_
  refine own_step (W' := T2.setTop (mkF m 130 #[.val (.int p1), .val (.ref b1), .val (.int (5 : Int32)), .val (.ref (w 5)), .val (.int (1 : Int32)), .val (.int (1 : Int32)), .unset] [(.ref (w 5))])) (fun _ k => XS.aloadN X2.here hx rfl (hb hby at_129) rfl rfl k) ?_
  obtain ⟨cq3, kq3, q3a, q3b, q3c⟩ := isOf hZ e2 (pin_E5 P1)
  obtain ⟨_, _, ⟨T3, L3, k3, n3⟩, -, X3, ⟨Lc3, hQ3, l3, y3, z3⟩, st3⟩ := X2.virtualBack hx (y := (⟨"com/example/featherstar/featherstar/condition/Operator", "positive", "()Lcom/example/featherstar/featherstar/condition/Operator;"⟩ : MethodName)) (z := (⟨"com/example/featherstar/featherstar/condition/Operator", "positive", "()Lcom/example/featherstar/featherstar/condition/Operator;"⟩ : MethodName)) hown (mvT hZ (hw _ (List.mem_of_getElem? (i := 39) rfl))) (mvT hZ (hw _ (List.mem_of_getElem? (i := 40) rfl))) (notFace_of_selects (args := #[]) (mvT hZ (hw _ (List.mem_of_getElem? (i := 42) rfl)))) (mvT hZ (hw _ (List.mem_of_getElem? (i := 42) rfl))) (mvT hZ (hw _ (List.mem_of_getElem? (i := 41) rfl))) (by decide) (backOf (W := 0) (rm2_w5 l Z a0 hw [] w h1 n0 Z1 P1) hZ (hw _ (List.mem_of_getElem? (i := 43) rfl)) (hw _ (List.mem_of_getElem? (i := 3) rfl)) (by decide) (by decide)) q3a q3c (g := (mkF m 130 #[.val (.int p1), .val (.ref b1), .val (.int (5 : Int32)), .val (.ref (w 5)), .val (.int (1 : Int32)), .val (.int (1 : Int32)), .unset] [(.ref (w 5))])) rfl (by rw [hml]; rfl) (Steps.refl _) (argsL := []) (rest := []) (lenOf pd_1 rfl) rfl (by show 2 * 0 + _ ≤ _; exact Nat.le_of_eq rfl) (hb hby at_130) (fun _ _ => ⟨rfl, e2, (by decide : 1 + 0 ≤ _), (by decide : 14 + 0 ≤ _)⟩)
  dsimp only [Pt.U, Pt.locs, Pt.cells, Pt.slots] at X3 l3 y3 z3 st3 hQ3
  subst l3 y3 z3
  obtain ⟨rfl, N3q, e3⟩ := hQ3
  have N3 := Fr.app N2 N3q
  refine own_step (W' := T3.setTop (mkF m 133 #[.val (.int p1), .val (.ref b1), .val (.int (5 : Int32)), .val (.ref (w 5)), .val (.int (1 : Int32)), .val (.int (1 : Int32)), .unset] [(.ref (w 5))])) (fun _ k => st3.trans k) ?_
  obtain ⟨cq4, kq4, q4a, q4b, q4c⟩ := isOf hZ e3 (pin_E5 P1)
  obtain ⟨_, _, ⟨T4, L4, k4, n4⟩, -, X4, ⟨Lc4, hQ4, l4, y4, z4⟩, st4⟩ := X3.virtualBack hx (y := (⟨"com/example/featherstar/featherstar/condition/Operator", "takesOperand", "()Z"⟩ : MethodName)) (z := (⟨"com/example/featherstar/featherstar/condition/Operator", "takesOperand", "()Z"⟩ : MethodName)) hown (mvT hZ (hw _ (List.mem_of_getElem? (i := 33) rfl))) (mvT hZ (hw _ (List.mem_of_getElem? (i := 34) rfl))) (notFace_of_selects (args := #[]) (mvT hZ (hw _ (List.mem_of_getElem? (i := 36) rfl)))) (mvT hZ (hw _ (List.mem_of_getElem? (i := 36) rfl))) (mvT hZ (hw _ (List.mem_of_getElem? (i := 35) rfl))) (by decide) (backOf (W := 0) (rm1_w5 l Z a0 hw [] w h1 n0 Z1 P1) hZ (hw _ (List.mem_of_getElem? (i := 37) rfl)) (hw _ (List.mem_of_getElem? (i := 3) rfl)) (by decide) (by decide)) q4a q4c (g := (mkF m 133 #[.val (.int p1), .val (.ref b1), .val (.int (5 : Int32)), .val (.ref (w 5)), .val (.int (1 : Int32)), .val (.int (1 : Int32)), .unset] [(.ref (w 5))])) rfl (by rw [hml]; rfl) (Steps.refl _) (argsL := []) (rest := []) (lenOf pd_0 rfl) rfl (by show 2 * 0 + _ ≤ _; exact Nat.le_of_eq rfl) (hb hby at_133) (fun _ _ => ⟨rfl, e3, (by decide : 1 + 0 ≤ _), (by decide : 14 + 0 ≤ _)⟩)
  dsimp only [Pt.U, Pt.locs, Pt.cells, Pt.slots] at X4 l4 y4 z4 st4 hQ4
  subst l4 y4 z4
  obtain ⟨rfl, N4q, e4⟩ := hQ4
  have N4 := Fr.app N3 N4q
  refine own_step (W' := T4.setTop (mkF m 136 #[.val (.int p1), .val (.ref b1), .val (.int (5 : Int32)), .val (.ref (w 5)), .val (.int (1 : Int32)), .val (.int (1 : Int32)), .unset] [(.int (1 : Int32))])) (fun _ k => st4.trans k) ?_
  refine own_step (W' := T4.setTop (mkF m 138 #[.val (.int p1), .val (.ref b1), .val (.int (5 : Int32)), .val (.ref (w 5)), .val (.int (1 : Int32)), .val (.int (1 : Int32)), .val (.int (1 : Int32))] [])) (fun _ k => XS.istore X4.here hx rfl (hb hby at_136) rfl (l' := #[.val (.int p1), .val (.ref b1), .val (.int (5 : Int32)), .val (.ref (w 5)), .val (.int (1 : Int32)), .val (.int (1 : Int32)), .val (.int (1 : Int32))]) rfl k) ?_
  refine own_step (W' := T4.setTop (mkF m 140 #[.val (.int p1), .val (.ref b1), .val (.int (5 : Int32)), .val (.ref (w 5)), .val (.int (1 : Int32)), .val (.int (1 : Int32)), .val (.int (1 : Int32))] [(.int (1 : Int32))])) (fun _ k => XS.iload X4.here hx rfl (hb hby at_138) rfl k) ?_
  refine own_step (W' := T4.setTop (mkF m 142 #[.val (.int p1), .val (.ref b1), .val (.int (5 : Int32)), .val (.ref (w 5)), .val (.int (1 : Int32)), .val (.int (1 : Int32)), .val (.int (1 : Int32))] [(.int (1 : Int32)), (.int (1 : Int32))])) (fun _ k => XS.iload X4.here hx rfl (hb hby at_140) rfl k) ?_
  refine own_step (W' := T4.setTop (mkF m 145 #[.val (.int p1), .val (.ref b1), .val (.int (5 : Int32)), .val (.ref (w 5)), .val (.int (1 : Int32)), .val (.int (1 : Int32)), .val (.int (1 : Int32))] [])) (fun _ k => XS.icmpNo X4.here hx rfl (hb hby at_142) rfl (by decide) k) ?_
  refine own_step (W' := T4.setTop (mkF m 147 #[.val (.int p1), .val (.ref b1), .val (.int (5 : Int32)), .val (.ref (w 5)), .val (.int (1 : Int32)), .val (.int (1 : Int32)), .val (.int (1 : Int32))] [(.int (1 : Int32))])) (fun _ k => XS.iload X4.here hx rfl (hb hby at_145) rfl k) ?_
  refine own_step (W' := T4.setTop (mkF m 149 #[.val (.int p1), .val (.ref b1), .val (.int (5 : Int32)), .val (.ref (w 5)), .val (.int (1 : Int32)), .val (.int (1 : Int32)), .val (.int (1 : Int32))] [(.int (1 : Int32)), (.int (1 : Int32))])) (fun _ k => XS.iload X4.here hx rfl (hb hby at_147) rfl k) ?_
  refine own_step (W' := T4.setTop (mkF m 152 #[.val (.int p1), .val (.ref b1), .val (.int (5 : Int32)), .val (.ref (w 5)), .val (.int (1 : Int32)), .val (.int (1 : Int32)), .val (.int (1 : Int32))] [])) (fun _ k => XS.icmpNo X4.here hx rfl (hb hby at_149) rfl (by decide) k) ?_
  refine own_step (W' := T4.setTop (mkF m 153 #[.val (.int p1), .val (.ref b1), .val (.int (5 : Int32)), .val (.ref (w 5)), .val (.int (1 : Int32)), .val (.int (1 : Int32)), .val (.int (1 : Int32))] [(.int (1 : Int32))])) (fun _ k => XS.iconst X4.here hx rfl (hb hby at_152) k) ?_
  refine own_step (W' := T4.setTop (mkF m 157 #[.val (.int p1), .val (.ref b1), .val (.int (5 : Int32)), .val (.ref (w 5)), .val (.int (1 : Int32)), .val (.int (1 : Int32)), .val (.int (1 : Int32))] [(.int (1 : Int32))])) (fun _ k => XS.goto X4.here hx rfl (pc0 := 153) (pc' := 157) rfl (hb hby at_153) (by decide) (by decide) k) ?_
  exact own_ret X4 Bd.notSynchronized Bd.returns (v := (.int (1 : Int32))) (fun fs hr => retN X4 hx (t := .boolean) Bd.returns (by simp) (hb hby at_157) hr) ⟨rfl, N4⟩ (by decide) (by decide)
set_option maxRecDepth 65536 in
set_option maxHeartbeats 40000000 in
theorem rm1_w6 (l : Launch) (Z : State) (a0 : Array Value) (hw : ∀ d ∈ tables_1, d.before a0 Z = true) (ws : List Jvm.Cond) (w : Nat → Addr) (h0 : Heap) (n0 : Nat) (Z0 : n0 ≤ h0.size) (P : Pins Z h0 w) :
    MetFree l (⟨"com/example/featherstar/featherstar/condition/Operator", "takesOperand", "()Z"⟩ : MethodName) (head1 (Jvm.Cond.code (⟨"com/example/featherstar/featherstar/condition/Operator", "takesOperand", "()Z"⟩ : MethodName) prog_13_method_6_code 1 (some .boolean) :: ws) ({ frames := 0, cells := 0, slots := 0, locals := 0 } : Room)) (fun aA U => aA = #[(.ref (w 6))] ∧ Z.Warmed39 U.vm ∧ U.heap = h0) (fun _ _ _ _ _ => True) (fun _ U o U' => ∃ v L, o = .returned v ∧ own_QK (some (.int (1 : Int32))) h0 n0 v U'.heap L ∧ FrameEnd U o U' L ({ frames := 0, cells := 0, slots := 0, locals := 0 } : Room).cells ({ frames := 0, cells := 0, slots := 0, locals := 0 } : Room).slots) := by
  refine MetFree.of_bodySF (plainFor_of_name pn_com_example_featherstar_featherstar_condition_Operator) hisR ?_
  intro p e s m args below meth c s₁ Bd hml0 hP hK
  obtain ⟨rfl, hZ, hh⟩ := hP
  have hx := Bd.exec
  have hby := Bd.bytes
  have hml : c.maxLocals = 1 := hml0
  have hown : s.vm.findClass "com/example/featherstar/featherstar/condition/Operator" = some m.cls := findClass_of_methodNamed Bd.named
  have hnm := (name_of_methodNamed Bd.named Bd.method).1
  have X0 : Stand p l e ({ frames := 0, cells := 0, slots := 0, locals := 0 } : Room) s m #[(.ref (w 6))] below meth c s₁ [] 0 0 := Stand.of_body Bd
  have e0 : s₁.heap = h0 := by rw [← hh, Bd.state]; rfl
  have N0 := Fr.nil n0
  refine own_enter (ef_1_R m (w 6)) ?_
  refine own_step (W' := s₁.setTop (mkF m 1 #[.val (.ref (w 6))] [(.ref (w 6))])) (fun _ k => XS.aloadN X0.here hx rfl (hb hby d1_0) rfl rfl k) ?_
  obtain ⟨T1, X1, e1, st1⟩ := getS2 X0 hx hZ hown (host := "") (Or.inl (hw _ (List.mem_of_getElem? (i := 38) rfl))) Via.refl e0 (pin_S13 P) (g := (mkF m 1 #[.val (.ref (w 6))] [(.ref (w 6))])) rfl (hb hby d1_1)
  refine own_step (W' := T1.setTop (mkF m 4 #[.val (.ref (w 6))] [(.ref (w 13)), (.ref (w 6))])) (fun _ k => st1 _ k) ?_
  refine own_step (W' := T1.setTop (mkF m 7 #[.val (.ref (w 6))] [])) (fun _ k => Jvm.RoadKit.acmp (g := (mkF m 4 #[.val (.ref (w 6))] [(.ref (w 13)), (.ref (w 6))])) X1 hx rfl rfl rfl (pc0 := 4) (pc' := 7) (same := false) rfl (hb hby d1_4) rfl (decide_eq_false fun q => (Fld.ne (pin_F6_ordinal P) (pin_F13_ordinal P) (by decide)) (Value.ref.inj q)) (by decide) (by decide) k) ?_
  refine own_step (W' := T1.setTop (mkF m 8 #[.val (.ref (w 6))] [(.int (1 : Int32))])) (fun _ k => XS.iconst X1.here hx rfl (hb hby d1_7) k) ?_
  refine own_step (W' := T1.setTop (mkF m 12 #[.val (.ref (w 6))] [(.int (1 : Int32))])) (fun _ k => XS.goto X1.here hx rfl (pc0 := 8) (pc' := 12) rfl (hb hby d1_8) (by decide) (by decide) k) ?_
  exact own_ret X1 Bd.notSynchronized Bd.returns (v := (.int (1 : Int32))) (fun fs hr => retN X1 hx (t := .boolean) Bd.returns (by simp) (hb hby d1_12) hr) ⟨rfl, N0, e1⟩ (by decide) (by decide)
set_option maxRecDepth 65536 in
set_option maxHeartbeats 40000000 in
theorem rm2_w6 (l : Launch) (Z : State) (a0 : Array Value) (hw : ∀ d ∈ tables_1, d.before a0 Z = true) (ws : List Jvm.Cond) (w : Nat → Addr) (h0 : Heap) (n0 : Nat) (Z0 : n0 ≤ h0.size) (P : Pins Z h0 w) :
    MetFree l (⟨"com/example/featherstar/featherstar/condition/Operator", "positive", "()Lcom/example/featherstar/featherstar/condition/Operator;"⟩ : MethodName) (head1 (Jvm.Cond.code (⟨"com/example/featherstar/featherstar/condition/Operator", "positive", "()Lcom/example/featherstar/featherstar/condition/Operator;"⟩ : MethodName) prog_13_method_8_code 1 (some (.object "com/example/featherstar/featherstar/condition/Operator")) :: ws) ({ frames := 0, cells := 0, slots := 0, locals := 0 } : Room)) (fun aA U => aA = #[(.ref (w 6))] ∧ Z.Warmed39 U.vm ∧ U.heap = h0) (fun _ _ _ _ _ => True) (fun _ U o U' => ∃ v L, o = .returned v ∧ own_QK (some (.ref (w 6))) h0 n0 v U'.heap L ∧ FrameEnd U o U' L ({ frames := 0, cells := 0, slots := 0, locals := 0 } : Room).cells ({ frames := 0, cells := 0, slots := 0, locals := 0 } : Room).slots) := by
  refine MetFree.of_bodySF (plainFor_of_name pn_com_example_featherstar_featherstar_condition_Operator) hisR ?_
  intro p e s m args below meth c s₁ Bd hml0 hP hK
  obtain ⟨rfl, hZ, hh⟩ := hP
  have hx := Bd.exec
  have hby := Bd.bytes
  have hml : c.maxLocals = 1 := hml0
  have hown : s.vm.findClass "com/example/featherstar/featherstar/condition/Operator" = some m.cls := findClass_of_methodNamed Bd.named
  have hnm := (name_of_methodNamed Bd.named Bd.method).1
  have X0 : Stand p l e ({ frames := 0, cells := 0, slots := 0, locals := 0 } : Room) s m #[(.ref (w 6))] below meth c s₁ [] 0 0 := Stand.of_body Bd
  have e0 : s₁.heap = h0 := by rw [← hh, Bd.state]; rfl
  have N0 := Fr.nil n0
  refine own_enter (ef_2_R m (w 6)) ?_
  refine own_step (W' := s₁.setTop (mkF m 1 #[.val (.ref (w 6))] [(.ref (w 6))])) (fun _ k => XS.aloadN X0.here hx rfl (hb hby d2_0) rfl rfl k) ?_
  obtain ⟨T1, X1, e1, st1⟩ := getF X0 hx hZ hown (host := "") (Or.inl (hw _ (List.mem_of_getElem? (i := 44) rfl))) Via.refl e0 (pin_F6_negated P) (g := (mkF m 1 #[.val (.ref (w 6))] [(.ref (w 6))])) rfl rfl (hb hby d2_1)
  refine own_step (W' := T1.setTop (mkF m 4 #[.val (.ref (w 6))] [.null])) (fun _ k => st1 _ k) ?_
  refine own_step (W' := T1.setTop (mkF m 7 #[.val (.ref (w 6))] [])) (fun _ k => XS.ifnonnullNo X1.here hx rfl (hb hby d2_4) rfl k) ?_
  refine own_step (W' := T1.setTop (mkF m 8 #[.val (.ref (w 6))] [(.ref (w 6))])) (fun _ k => XS.aloadN X1.here hx rfl (hb hby d2_7) rfl rfl k) ?_
  refine own_step (W' := T1.setTop (mkF m 15 #[.val (.ref (w 6))] [(.ref (w 6))])) (fun _ k => XS.goto X1.here hx rfl (pc0 := 8) (pc' := 15) rfl (hb hby d2_8) (by decide) (by decide) k) ?_
  exact own_ret X1 Bd.notSynchronized Bd.returns (v := (.ref (w 6))) (fun fs hr => retOut X1 hx Bd.returns rfl (Or.inr (Or.inr (Or.inr (Or.inr ⟨rfl, rfl, rfl⟩)))) (hb hby d2_15) hr) ⟨rfl, N0, e1⟩ (by decide) (by decide)
set_option maxRecDepth 65536 in
set_option maxHeartbeats 40000000 in
theorem rm0_6 (l : Launch) (Z : State) (a0 : Array Value) (hw : ∀ d ∈ tables_1, d.before a0 Z = true) (ws : List Jvm.Cond) (p1 : Int32) (hk : ((p1 &&& (2147483647 : Int32)) % (14 : Int32)) = (6 : Int32)) (w : Nat → Addr) (h0 : Heap) (n0 : Nat) (Z0 : n0 ≤ h0.size) (P : Pins Z h0 w) :
    MetFree l x (head1 (Jvm.Cond.code x code maxLocals ret :: ws) room_1) (fun aA U => aA = #[(.int p1)] ∧ Z.Warmed39 U.vm ∧ U.heap = h0) (fun _ _ _ _ _ => True) (fun _ U o U' => ∃ v L, o = .returned v ∧ own_Q0 n0 v U'.heap L ∧ FrameEnd U o U' L room_1.cells room_1.slots) := by
  refine MetFree.of_bodySF (plainFor_of_name pn_com_example_featherstar_featherstar_condition_OperatorTakesOperandPinLaw) hisR ?_
  intro p e s m args below meth c s₁ Bd hml0 hP hK
  obtain ⟨rfl, hZ, hh⟩ := hP
  have hx := Bd.exec
  have hby := Bd.bytes
  have hml : c.maxLocals = 7 := hml0
  have hown : s.vm.findClass "com/example/featherstar/featherstar/condition/OperatorTakesOperandPinLaw" = some m.cls := findClass_of_methodNamed Bd.named
  have hnm := (name_of_methodNamed Bd.named Bd.method).1
  have X0 : Stand p l e room_1 s m #[(.int p1)] below meth c s₁ [] 0 0 := Stand.of_body Bd
  have e0 : s₁.heap = h0 := by rw [← hh, Bd.state]; rfl
  have N0 := Fr.nil n0
  refine own_enter (ef_0_I m p1) ?_
  refine own_fill p1 X0 hx hZ hw hby hml hown e0 N0 Z0 P ?_
  intro T1 h1 L1 k1 b1 X1 e1 E1 N1 V1
  have P1 : Pins Z h1 w := P.ext E1
  have Z1 : n0 ≤ h1.size := Nat.le_trans Z0 E1.1
  refine own_step (W' := T1.setTop (mkF m 98 #[.val (.int p1), .val (.ref b1), .unset, .unset, .unset, .unset, .unset] [])) (fun _ k => XS.astoreN X1.here hx rfl (hb hby at_97) rfl rfl (l' := #[.val (.int p1), .val (.ref b1), .unset, .unset, .unset, .unset, .unset]) rfl k) ?_
  refine own_step (W' := T1.setTop (mkF m 99 #[.val (.int p1), .val (.ref b1), .unset, .unset, .unset, .unset, .unset] [(.int p1)])) (fun _ k => XS.iloadN X1.here hx rfl (hb hby at_98) rfl k) ?_
  refine own_step (W' := T1.setTop (mkF m 101 #[.val (.int p1), .val (.ref b1), .unset, .unset, .unset, .unset, .unset] [(.int (2147483647 : Int32)), (.int p1)])) (fun _ k => X1.ldcInt hx hown (mvT hZ (hw _ (List.mem_of_getElem? (i := 32) rfl))) (g := (mkF m 99 #[.val (.int p1), .val (.ref b1), .unset, .unset, .unset, .unset, .unset] [(.int p1)])) rfl (hb hby at_99) _ k) ?_
  refine own_step (W' := T1.setTop (mkF m 102 #[.val (.int p1), .val (.ref b1), .unset, .unset, .unset, .unset, .unset] [(.int (p1 &&& (2147483647 : Int32)))])) (fun _ k => XS.iand X1.here hx rfl (hb hby at_101) rfl k) ?_
  refine own_step (W' := T1.setTop (mkF m 104 #[.val (.int p1), .val (.ref b1), .unset, .unset, .unset, .unset, .unset] [(.int (14 : Int32)), (.int (p1 &&& (2147483647 : Int32)))])) (fun _ k => XS.bipush X1.here hx rfl (hb hby at_102) k) ?_
  refine own_step (W' := T1.setTop (mkF m 105 #[.val (.int p1), .val (.ref b1), .unset, .unset, .unset, .unset, .unset] [(.int ((p1 &&& (2147483647 : Int32)) % (14 : Int32)))])) (fun _ k => iremM X1 hx rfl (hb hby at_104) rfl (by decide) k) ?_
  rw [hk]
  refine own_step (W' := T1.setTop (mkF m 106 #[.val (.int p1), .val (.ref b1), .val (.int (6 : Int32)), .unset, .unset, .unset, .unset] [])) (fun _ k => XS.istoreN X1.here hx rfl (hb hby at_105) rfl (l' := #[.val (.int p1), .val (.ref b1), .val (.int (6 : Int32)), .unset, .unset, .unset, .unset]) rfl k) ?_
  refine own_step (W' := T1.setTop (mkF m 107 #[.val (.int p1), .val (.ref b1), .val (.int (6 : Int32)), .unset, .unset, .unset, .unset] [(.ref b1)])) (fun _ k => XS.aloadN X1.here hx rfl (hb hby at_106) rfl rfl k) ?_
  refine own_step (W' := T1.setTop (mkF m 108 #[.val (.int p1), .val (.ref b1), .val (.int (6 : Int32)), .unset, .unset, .unset, .unset] [(.int (6 : Int32)), (.ref b1)])) (fun _ k => XS.iloadN X1.here hx rfl (hb hby at_107) rfl k) ?_
  refine own_step (W' := T1.setTop (mkF m 109 #[.val (.int p1), .val (.ref b1), .val (.int (6 : Int32)), .unset, .unset, .unset, .unset] [(.ref (w 6))])) (fun _ k => own_ldR X1 hx hZ e1 V1 (j := (6 : Int32)) (v := (.ref (w 6))) ⟨by decide, by decide⟩ rfl (g := (mkF m 108 #[.val (.int p1), .val (.ref b1), .val (.int (6 : Int32)), .unset, .unset, .unset, .unset] [(.int (6 : Int32)), (.ref b1)])) rfl rfl (hb hby at_108) _ k) ?_
  refine own_step (W' := T1.setTop (mkF m 110 #[.val (.int p1), .val (.ref b1), .val (.int (6 : Int32)), .val (.ref (w 6)), .unset, .unset, .unset] [])) (fun _ k => XS.astoreN X1.here hx rfl (hb hby at_109) rfl rfl (l' := #[.val (.int p1), .val (.ref b1), .val (.int (6 : Int32)), .val (.ref (w 6)), .unset, .unset, .unset]) rfl k) ?_
  refine own_step (W' := T1.setTop (mkF m 111 #[.val (.int p1), .val (.ref b1), .val (.int (6 : Int32)), .val (.ref (w 6)), .unset, .unset, .unset] [(.int (6 : Int32))])) (fun _ k => XS.iloadN X1.here hx rfl (hb hby at_110) rfl k) ?_
  refine own_step (W' := T1.setTop (mkF m 113 #[.val (.int p1), .val (.ref b1), .val (.int (6 : Int32)), .val (.ref (w 6)), .unset, .unset, .unset] [(.int (13 : Int32)), (.int (6 : Int32))])) (fun _ k => XS.bipush X1.here hx rfl (hb hby at_111) k) ?_
  refine own_step (W' := T1.setTop (mkF m 116 #[.val (.int p1), .val (.ref b1), .val (.int (6 : Int32)), .val (.ref (w 6)), .unset, .unset, .unset] [])) (fun _ k => XS.icmpNo X1.here hx rfl (hb hby at_113) rfl (by decide) k) ?_
  refine own_step (W' := T1.setTop (mkF m 117 #[.val (.int p1), .val (.ref b1), .val (.int (6 : Int32)), .val (.ref (w 6)), .unset, .unset, .unset] [(.int (1 : Int32))])) (fun _ k => XS.iconst X1.here hx rfl (hb hby at_116) k) ?_
  refine own_step (W' := T1.setTop (mkF m 121 #[.val (.int p1), .val (.ref b1), .val (.int (6 : Int32)), .val (.ref (w 6)), .unset, .unset, .unset] [(.int (1 : Int32))])) (fun _ k => XS.goto X1.here hx rfl (pc0 := 117) (pc' := 121) rfl (hb hby at_117) (by decide) (by decide) k) ?_
  refine own_step (W' := T1.setTop (mkF m 123 #[.val (.int p1), .val (.ref b1), .val (.int (6 : Int32)), .val (.ref (w 6)), .val (.int (1 : Int32)), .unset, .unset] [])) (fun _ k => XS.istore X1.here hx rfl (hb hby at_121) rfl (l' := #[.val (.int p1), .val (.ref b1), .val (.int (6 : Int32)), .val (.ref (w 6)), .val (.int (1 : Int32)), .unset, .unset]) rfl k) ?_
  refine own_step (W' := T1.setTop (mkF m 124 #[.val (.int p1), .val (.ref b1), .val (.int (6 : Int32)), .val (.ref (w 6)), .val (.int (1 : Int32)), .unset, .unset] [(.ref (w 6))])) (fun _ k => XS.aloadN X1.here hx rfl (hb hby at_123) rfl rfl k) ?_
  obtain ⟨cq2, kq2, q2a, q2b, q2c⟩ := isOf hZ e1 (pin_E6 P1)
  obtain ⟨_, _, ⟨T2, L2, k2, n2⟩, -, X2, ⟨Lc2, hQ2, l2, y2, z2⟩, st2⟩ := X1.virtualBack hx (y := (⟨"com/example/featherstar/featherstar/condition/Operator", "takesOperand", "()Z"⟩ : MethodName)) (z := (⟨"com/example/featherstar/featherstar/condition/Operator", "takesOperand", "()Z"⟩ : MethodName)) hown (mvT hZ (hw _ (List.mem_of_getElem? (i := 33) rfl))) (mvT hZ (hw _ (List.mem_of_getElem? (i := 34) rfl))) (notFace_of_selects (args := #[]) (mvT hZ (hw _ (List.mem_of_getElem? (i := 36) rfl)))) (mvT hZ (hw _ (List.mem_of_getElem? (i := 36) rfl))) (mvT hZ (hw _ (List.mem_of_getElem? (i := 35) rfl))) (by decide) (backOf (W := 0) (rm1_w6 l Z a0 hw [] w h1 n0 Z1 P1) hZ (hw _ (List.mem_of_getElem? (i := 37) rfl)) (hw _ (List.mem_of_getElem? (i := 3) rfl)) (by decide) (by decide)) q2a q2c (g := (mkF m 124 #[.val (.int p1), .val (.ref b1), .val (.int (6 : Int32)), .val (.ref (w 6)), .val (.int (1 : Int32)), .unset, .unset] [(.ref (w 6))])) rfl (by rw [hml]; rfl) (Steps.refl _) (argsL := []) (rest := []) (lenOf pd_0 rfl) rfl (by show 2 * 0 + _ ≤ _; exact Nat.le_of_eq rfl) (hb hby at_124) (fun _ _ => ⟨rfl, e1, (by decide : 1 + 0 ≤ _), (by decide : 14 + 0 ≤ _)⟩)
  dsimp only [Pt.U, Pt.locs, Pt.cells, Pt.slots] at X2 l2 y2 z2 st2 hQ2
  subst l2 y2 z2
  obtain ⟨rfl, N2q, e2⟩ := hQ2
  have N2 := Fr.app N1 N2q
  refine own_step (W' := T2.setTop (mkF m 127 #[.val (.int p1), .val (.ref b1), .val (.int (6 : Int32)), .val (.ref (w 6)), .val (.int (1 : Int32)), .unset, .unset] [(.int (1 : Int32))])) (fun _ k => st2.trans k) ?_
  refine own_step (W' := T2.setTop (mkF m 129 #[.val (.int p1), .val (.ref b1), .val (.int (6 : Int32)), .val (.ref (w 6)), .val (.int (1 : Int32)), .val (.int (1 : Int32)), .unset] [])) (fun _ k => XS.istore X2.here hx rfl (hb hby at_127) rfl (l' := #[.val (.int p1), .val (.ref b1), .val (.int (6 : Int32)), .val (.ref (w 6)), .val (.int (1 : Int32)), .val (.int (1 : Int32)), .unset]) rfl k) ?_
  refine own_step (W' := T2.setTop (mkF m 130 #[.val (.int p1), .val (.ref b1), .val (.int (6 : Int32)), .val (.ref (w 6)), .val (.int (1 : Int32)), .val (.int (1 : Int32)), .unset] [(.ref (w 6))])) (fun _ k => XS.aloadN X2.here hx rfl (hb hby at_129) rfl rfl k) ?_
  obtain ⟨cq3, kq3, q3a, q3b, q3c⟩ := isOf hZ e2 (pin_E6 P1)
  obtain ⟨_, _, ⟨T3, L3, k3, n3⟩, -, X3, ⟨Lc3, hQ3, l3, y3, z3⟩, st3⟩ := X2.virtualBack hx (y := (⟨"com/example/featherstar/featherstar/condition/Operator", "positive", "()Lcom/example/featherstar/featherstar/condition/Operator;"⟩ : MethodName)) (z := (⟨"com/example/featherstar/featherstar/condition/Operator", "positive", "()Lcom/example/featherstar/featherstar/condition/Operator;"⟩ : MethodName)) hown (mvT hZ (hw _ (List.mem_of_getElem? (i := 39) rfl))) (mvT hZ (hw _ (List.mem_of_getElem? (i := 40) rfl))) (notFace_of_selects (args := #[]) (mvT hZ (hw _ (List.mem_of_getElem? (i := 42) rfl)))) (mvT hZ (hw _ (List.mem_of_getElem? (i := 42) rfl))) (mvT hZ (hw _ (List.mem_of_getElem? (i := 41) rfl))) (by decide) (backOf (W := 0) (rm2_w6 l Z a0 hw [] w h1 n0 Z1 P1) hZ (hw _ (List.mem_of_getElem? (i := 43) rfl)) (hw _ (List.mem_of_getElem? (i := 3) rfl)) (by decide) (by decide)) q3a q3c (g := (mkF m 130 #[.val (.int p1), .val (.ref b1), .val (.int (6 : Int32)), .val (.ref (w 6)), .val (.int (1 : Int32)), .val (.int (1 : Int32)), .unset] [(.ref (w 6))])) rfl (by rw [hml]; rfl) (Steps.refl _) (argsL := []) (rest := []) (lenOf pd_1 rfl) rfl (by show 2 * 0 + _ ≤ _; exact Nat.le_of_eq rfl) (hb hby at_130) (fun _ _ => ⟨rfl, e2, (by decide : 1 + 0 ≤ _), (by decide : 14 + 0 ≤ _)⟩)
  dsimp only [Pt.U, Pt.locs, Pt.cells, Pt.slots] at X3 l3 y3 z3 st3 hQ3
  subst l3 y3 z3
  obtain ⟨rfl, N3q, e3⟩ := hQ3
  have N3 := Fr.app N2 N3q
  refine own_step (W' := T3.setTop (mkF m 133 #[.val (.int p1), .val (.ref b1), .val (.int (6 : Int32)), .val (.ref (w 6)), .val (.int (1 : Int32)), .val (.int (1 : Int32)), .unset] [(.ref (w 6))])) (fun _ k => st3.trans k) ?_
  obtain ⟨cq4, kq4, q4a, q4b, q4c⟩ := isOf hZ e3 (pin_E6 P1)
  obtain ⟨_, _, ⟨T4, L4, k4, n4⟩, -, X4, ⟨Lc4, hQ4, l4, y4, z4⟩, st4⟩ := X3.virtualBack hx (y := (⟨"com/example/featherstar/featherstar/condition/Operator", "takesOperand", "()Z"⟩ : MethodName)) (z := (⟨"com/example/featherstar/featherstar/condition/Operator", "takesOperand", "()Z"⟩ : MethodName)) hown (mvT hZ (hw _ (List.mem_of_getElem? (i := 33) rfl))) (mvT hZ (hw _ (List.mem_of_getElem? (i := 34) rfl))) (notFace_of_selects (args := #[]) (mvT hZ (hw _ (List.mem_of_getElem? (i := 36) rfl)))) (mvT hZ (hw _ (List.mem_of_getElem? (i := 36) rfl))) (mvT hZ (hw _ (List.mem_of_getElem? (i := 35) rfl))) (by decide) (backOf (W := 0) (rm1_w6 l Z a0 hw [] w h1 n0 Z1 P1) hZ (hw _ (List.mem_of_getElem? (i := 37) rfl)) (hw _ (List.mem_of_getElem? (i := 3) rfl)) (by decide) (by decide)) q4a q4c (g := (mkF m 133 #[.val (.int p1), .val (.ref b1), .val (.int (6 : Int32)), .val (.ref (w 6)), .val (.int (1 : Int32)), .val (.int (1 : Int32)), .unset] [(.ref (w 6))])) rfl (by rw [hml]; rfl) (Steps.refl _) (argsL := []) (rest := []) (lenOf pd_0 rfl) rfl (by show 2 * 0 + _ ≤ _; exact Nat.le_of_eq rfl) (hb hby at_133) (fun _ _ => ⟨rfl, e3, (by decide : 1 + 0 ≤ _), (by decide : 14 + 0 ≤ _)⟩)
  dsimp only [Pt.U, Pt.locs, Pt.cells, Pt.slots] at X4 l4 y4 z4 st4 hQ4
  subst l4 y4 z4
  obtain ⟨rfl, N4q, e4⟩ := hQ4
  have N4 := Fr.app N3 N4q
  refine own_step (W' := T4.setTop (mkF m 136 #[.val (.int p1), .val (.ref b1), .val (.int (6 : Int32)), .val (.ref (w 6)), .val (.int (1 : Int32)), .val (.int (1 : Int32)), .unset] [(.int (1 : Int32))])) (fun _ k => st4.trans k) ?_
  refine own_step (W' := T4.setTop (mkF m 138 #[.val (.int p1), .val (.ref b1), .val (.int (6 : Int32)), .val (.ref (w 6)), .val (.int (1 : Int32)), .val (.int (1 : Int32)), .val (.int (1 : Int32))] [])) (fun _ k => XS.istore X4.here hx rfl (hb hby at_136) rfl (l' := #[.val (.int p1), .val (.ref b1), .val (.int (6 : Int32)), .val (.ref (w 6)), .val (.int (1 : Int32)), .val (.int (1 : Int32)), .val (.int (1 : Int32))]) rfl k) ?_
  refine own_step (W' := T4.setTop (mkF m 140 #[.val (.int p1), .val (.ref b1), .val (.int (6 : Int32)), .val (.ref (w 6)), .val (.int (1 : Int32)), .val (.int (1 : Int32)), .val (.int (1 : Int32))] [(.int (1 : Int32))])) (fun _ k => XS.iload X4.here hx rfl (hb hby at_138) rfl k) ?_
  refine own_step (W' := T4.setTop (mkF m 142 #[.val (.int p1), .val (.ref b1), .val (.int (6 : Int32)), .val (.ref (w 6)), .val (.int (1 : Int32)), .val (.int (1 : Int32)), .val (.int (1 : Int32))] [(.int (1 : Int32)), (.int (1 : Int32))])) (fun _ k => XS.iload X4.here hx rfl (hb hby at_140) rfl k) ?_
  refine own_step (W' := T4.setTop (mkF m 145 #[.val (.int p1), .val (.ref b1), .val (.int (6 : Int32)), .val (.ref (w 6)), .val (.int (1 : Int32)), .val (.int (1 : Int32)), .val (.int (1 : Int32))] [])) (fun _ k => XS.icmpNo X4.here hx rfl (hb hby at_142) rfl (by decide) k) ?_
  refine own_step (W' := T4.setTop (mkF m 147 #[.val (.int p1), .val (.ref b1), .val (.int (6 : Int32)), .val (.ref (w 6)), .val (.int (1 : Int32)), .val (.int (1 : Int32)), .val (.int (1 : Int32))] [(.int (1 : Int32))])) (fun _ k => XS.iload X4.here hx rfl (hb hby at_145) rfl k) ?_
  refine own_step (W' := T4.setTop (mkF m 149 #[.val (.int p1), .val (.ref b1), .val (.int (6 : Int32)), .val (.ref (w 6)), .val (.int (1 : Int32)), .val (.int (1 : Int32)), .val (.int (1 : Int32))] [(.int (1 : Int32)), (.int (1 : Int32))])) (fun _ k => XS.iload X4.here hx rfl (hb hby at_147) rfl k) ?_
  refine own_step (W' := T4.setTop (mkF m 152 #[.val (.int p1), .val (.ref b1), .val (.int (6 : Int32)), .val (.ref (w 6)), .val (.int (1 : Int32)), .val (.int (1 : Int32)), .val (.int (1 : Int32))] [])) (fun _ k => XS.icmpNo X4.here hx rfl (hb hby at_149) rfl (by decide) k) ?_
  refine own_step (W' := T4.setTop (mkF m 153 #[.val (.int p1), .val (.ref b1), .val (.int (6 : Int32)), .val (.ref (w 6)), .val (.int (1 : Int32)), .val (.int (1 : Int32)), .val (.int (1 : Int32))] [(.int (1 : Int32))])) (fun _ k => XS.iconst X4.here hx rfl (hb hby at_152) k) ?_
  refine own_step (W' := T4.setTop (mkF m 157 #[.val (.int p1), .val (.ref b1), .val (.int (6 : Int32)), .val (.ref (w 6)), .val (.int (1 : Int32)), .val (.int (1 : Int32)), .val (.int (1 : Int32))] [(.int (1 : Int32))])) (fun _ k => XS.goto X4.here hx rfl (pc0 := 153) (pc' := 157) rfl (hb hby at_153) (by decide) (by decide) k) ?_
  exact own_ret X4 Bd.notSynchronized Bd.returns (v := (.int (1 : Int32))) (fun fs hr => retN X4 hx (t := .boolean) Bd.returns (by simp) (hb hby at_157) hr) ⟨rfl, N4⟩ (by decide) (by decide)
set_option maxRecDepth 65536 in
set_option maxHeartbeats 40000000 in
theorem rm1_w7 (l : Launch) (Z : State) (a0 : Array Value) (hw : ∀ d ∈ tables_1, d.before a0 Z = true) (ws : List Jvm.Cond) (w : Nat → Addr) (h0 : Heap) (n0 : Nat) (Z0 : n0 ≤ h0.size) (P : Pins Z h0 w) :
    MetFree l (⟨"com/example/featherstar/featherstar/condition/Operator", "takesOperand", "()Z"⟩ : MethodName) (head1 (Jvm.Cond.code (⟨"com/example/featherstar/featherstar/condition/Operator", "takesOperand", "()Z"⟩ : MethodName) prog_13_method_6_code 1 (some .boolean) :: ws) ({ frames := 0, cells := 0, slots := 0, locals := 0 } : Room)) (fun aA U => aA = #[(.ref (w 7))] ∧ Z.Warmed39 U.vm ∧ U.heap = h0) (fun _ _ _ _ _ => True) (fun _ U o U' => ∃ v L, o = .returned v ∧ own_QK (some (.int (1 : Int32))) h0 n0 v U'.heap L ∧ FrameEnd U o U' L ({ frames := 0, cells := 0, slots := 0, locals := 0 } : Room).cells ({ frames := 0, cells := 0, slots := 0, locals := 0 } : Room).slots) := by
  refine MetFree.of_bodySF (plainFor_of_name pn_com_example_featherstar_featherstar_condition_Operator) hisR ?_
  intro p e s m args below meth c s₁ Bd hml0 hP hK
  obtain ⟨rfl, hZ, hh⟩ := hP
  have hx := Bd.exec
  have hby := Bd.bytes
  have hml : c.maxLocals = 1 := hml0
  have hown : s.vm.findClass "com/example/featherstar/featherstar/condition/Operator" = some m.cls := findClass_of_methodNamed Bd.named
  have hnm := (name_of_methodNamed Bd.named Bd.method).1
  have X0 : Stand p l e ({ frames := 0, cells := 0, slots := 0, locals := 0 } : Room) s m #[(.ref (w 7))] below meth c s₁ [] 0 0 := Stand.of_body Bd
  have e0 : s₁.heap = h0 := by rw [← hh, Bd.state]; rfl
  have N0 := Fr.nil n0
  refine own_enter (ef_1_R m (w 7)) ?_
  refine own_step (W' := s₁.setTop (mkF m 1 #[.val (.ref (w 7))] [(.ref (w 7))])) (fun _ k => XS.aloadN X0.here hx rfl (hb hby d1_0) rfl rfl k) ?_
  obtain ⟨T1, X1, e1, st1⟩ := getS2 X0 hx hZ hown (host := "") (Or.inl (hw _ (List.mem_of_getElem? (i := 38) rfl))) Via.refl e0 (pin_S13 P) (g := (mkF m 1 #[.val (.ref (w 7))] [(.ref (w 7))])) rfl (hb hby d1_1)
  refine own_step (W' := T1.setTop (mkF m 4 #[.val (.ref (w 7))] [(.ref (w 13)), (.ref (w 7))])) (fun _ k => st1 _ k) ?_
  refine own_step (W' := T1.setTop (mkF m 7 #[.val (.ref (w 7))] [])) (fun _ k => Jvm.RoadKit.acmp (g := (mkF m 4 #[.val (.ref (w 7))] [(.ref (w 13)), (.ref (w 7))])) X1 hx rfl rfl rfl (pc0 := 4) (pc' := 7) (same := false) rfl (hb hby d1_4) rfl (decide_eq_false fun q => (Fld.ne (pin_F7_ordinal P) (pin_F13_ordinal P) (by decide)) (Value.ref.inj q)) (by decide) (by decide) k) ?_
  refine own_step (W' := T1.setTop (mkF m 8 #[.val (.ref (w 7))] [(.int (1 : Int32))])) (fun _ k => XS.iconst X1.here hx rfl (hb hby d1_7) k) ?_
  refine own_step (W' := T1.setTop (mkF m 12 #[.val (.ref (w 7))] [(.int (1 : Int32))])) (fun _ k => XS.goto X1.here hx rfl (pc0 := 8) (pc' := 12) rfl (hb hby d1_8) (by decide) (by decide) k) ?_
  exact own_ret X1 Bd.notSynchronized Bd.returns (v := (.int (1 : Int32))) (fun fs hr => retN X1 hx (t := .boolean) Bd.returns (by simp) (hb hby d1_12) hr) ⟨rfl, N0, e1⟩ (by decide) (by decide)
set_option maxRecDepth 65536 in
set_option maxHeartbeats 40000000 in
theorem rm2_w7 (l : Launch) (Z : State) (a0 : Array Value) (hw : ∀ d ∈ tables_1, d.before a0 Z = true) (ws : List Jvm.Cond) (w : Nat → Addr) (h0 : Heap) (n0 : Nat) (Z0 : n0 ≤ h0.size) (P : Pins Z h0 w) :
    MetFree l (⟨"com/example/featherstar/featherstar/condition/Operator", "positive", "()Lcom/example/featherstar/featherstar/condition/Operator;"⟩ : MethodName) (head1 (Jvm.Cond.code (⟨"com/example/featherstar/featherstar/condition/Operator", "positive", "()Lcom/example/featherstar/featherstar/condition/Operator;"⟩ : MethodName) prog_13_method_8_code 1 (some (.object "com/example/featherstar/featherstar/condition/Operator")) :: ws) ({ frames := 0, cells := 0, slots := 0, locals := 0 } : Room)) (fun aA U => aA = #[(.ref (w 7))] ∧ Z.Warmed39 U.vm ∧ U.heap = h0) (fun _ _ _ _ _ => True) (fun _ U o U' => ∃ v L, o = .returned v ∧ own_QK (some (.ref (w 6))) h0 n0 v U'.heap L ∧ FrameEnd U o U' L ({ frames := 0, cells := 0, slots := 0, locals := 0 } : Room).cells ({ frames := 0, cells := 0, slots := 0, locals := 0 } : Room).slots) := by
  refine MetFree.of_bodySF (plainFor_of_name pn_com_example_featherstar_featherstar_condition_Operator) hisR ?_
  intro p e s m args below meth c s₁ Bd hml0 hP hK
  obtain ⟨rfl, hZ, hh⟩ := hP
  have hx := Bd.exec
  have hby := Bd.bytes
  have hml : c.maxLocals = 1 := hml0
  have hown : s.vm.findClass "com/example/featherstar/featherstar/condition/Operator" = some m.cls := findClass_of_methodNamed Bd.named
  have hnm := (name_of_methodNamed Bd.named Bd.method).1
  have X0 : Stand p l e ({ frames := 0, cells := 0, slots := 0, locals := 0 } : Room) s m #[(.ref (w 7))] below meth c s₁ [] 0 0 := Stand.of_body Bd
  have e0 : s₁.heap = h0 := by rw [← hh, Bd.state]; rfl
  have N0 := Fr.nil n0
  refine own_enter (ef_2_R m (w 7)) ?_
  refine own_step (W' := s₁.setTop (mkF m 1 #[.val (.ref (w 7))] [(.ref (w 7))])) (fun _ k => XS.aloadN X0.here hx rfl (hb hby d2_0) rfl rfl k) ?_
  obtain ⟨T1, X1, e1, st1⟩ := getF X0 hx hZ hown (host := "") (Or.inl (hw _ (List.mem_of_getElem? (i := 44) rfl))) Via.refl e0 (pin_F7_negated P) (g := (mkF m 1 #[.val (.ref (w 7))] [(.ref (w 7))])) rfl rfl (hb hby d2_1)
  refine own_step (W' := T1.setTop (mkF m 4 #[.val (.ref (w 7))] [(.ref (w 6))])) (fun _ k => st1 _ k) ?_
  refine own_step (W' := T1.setTop (mkF m 11 #[.val (.ref (w 7))] [])) (fun _ k => XS.ifnonnullYes X1.here hx rfl (pc0 := 4) (pc' := 11) rfl (hb hby d2_4) rfl (by decide) (by decide) k) ?_
  refine own_step (W' := T1.setTop (mkF m 12 #[.val (.ref (w 7))] [(.ref (w 7))])) (fun _ k => XS.aloadN X1.here hx rfl (hb hby d2_11) rfl rfl k) ?_
  obtain ⟨T2, X2, e2, st2⟩ := getF X1 hx hZ hown (host := "") (Or.inl (hw _ (List.mem_of_getElem? (i := 44) rfl))) Via.refl e1 (pin_F7_negated P) (g := (mkF m 12 #[.val (.ref (w 7))] [(.ref (w 7))])) rfl rfl (hb hby d2_12)
  refine own_step (W' := T2.setTop (mkF m 15 #[.val (.ref (w 7))] [(.ref (w 6))])) (fun _ k => st2 _ k) ?_
  exact own_ret X2 Bd.notSynchronized Bd.returns (v := (.ref (w 6))) (fun fs hr => retOut X2 hx Bd.returns rfl (Or.inr (Or.inr (Or.inr (Or.inr ⟨rfl, rfl, rfl⟩)))) (hb hby d2_15) hr) ⟨rfl, N0, e2⟩ (by decide) (by decide)
set_option maxRecDepth 65536 in
set_option maxHeartbeats 40000000 in
theorem rm0_7 (l : Launch) (Z : State) (a0 : Array Value) (hw : ∀ d ∈ tables_1, d.before a0 Z = true) (ws : List Jvm.Cond) (p1 : Int32) (hk : ((p1 &&& (2147483647 : Int32)) % (14 : Int32)) = (7 : Int32)) (w : Nat → Addr) (h0 : Heap) (n0 : Nat) (Z0 : n0 ≤ h0.size) (P : Pins Z h0 w) :
    MetFree l x (head1 (Jvm.Cond.code x code maxLocals ret :: ws) room_1) (fun aA U => aA = #[(.int p1)] ∧ Z.Warmed39 U.vm ∧ U.heap = h0) (fun _ _ _ _ _ => True) (fun _ U o U' => ∃ v L, o = .returned v ∧ own_Q0 n0 v U'.heap L ∧ FrameEnd U o U' L room_1.cells room_1.slots) := by
  refine MetFree.of_bodySF (plainFor_of_name pn_com_example_featherstar_featherstar_condition_OperatorTakesOperandPinLaw) hisR ?_
  intro p e s m args below meth c s₁ Bd hml0 hP hK
  obtain ⟨rfl, hZ, hh⟩ := hP
  have hx := Bd.exec
  have hby := Bd.bytes
  have hml : c.maxLocals = 7 := hml0
  have hown : s.vm.findClass "com/example/featherstar/featherstar/condition/OperatorTakesOperandPinLaw" = some m.cls := findClass_of_methodNamed Bd.named
  have hnm := (name_of_methodNamed Bd.named Bd.method).1
  have X0 : Stand p l e room_1 s m #[(.int p1)] below meth c s₁ [] 0 0 := Stand.of_body Bd
  have e0 : s₁.heap = h0 := by rw [← hh, Bd.state]; rfl
  have N0 := Fr.nil n0
  refine own_enter (ef_0_I m p1) ?_
  refine own_fill p1 X0 hx hZ hw hby hml hown e0 N0 Z0 P ?_
  intro T1 h1 L1 k1 b1 X1 e1 E1 N1 V1
  have P1 : Pins Z h1 w := P.ext E1
  have Z1 : n0 ≤ h1.size := Nat.le_trans Z0 E1.1
  refine own_step (W' := T1.setTop (mkF m 98 #[.val (.int p1), .val (.ref b1), .unset, .unset, .unset, .unset, .unset] [])) (fun _ k => XS.astoreN X1.here hx rfl (hb hby at_97) rfl rfl (l' := #[.val (.int p1), .val (.ref b1), .unset, .unset, .unset, .unset, .unset]) rfl k) ?_
  refine own_step (W' := T1.setTop (mkF m 99 #[.val (.int p1), .val (.ref b1), .unset, .unset, .unset, .unset, .unset] [(.int p1)])) (fun _ k => XS.iloadN X1.here hx rfl (hb hby at_98) rfl k) ?_
  refine own_step (W' := T1.setTop (mkF m 101 #[.val (.int p1), .val (.ref b1), .unset, .unset, .unset, .unset, .unset] [(.int (2147483647 : Int32)), (.int p1)])) (fun _ k => X1.ldcInt hx hown (mvT hZ (hw _ (List.mem_of_getElem? (i := 32) rfl))) (g := (mkF m 99 #[.val (.int p1), .val (.ref b1), .unset, .unset, .unset, .unset, .unset] [(.int p1)])) rfl (hb hby at_99) _ k) ?_
  refine own_step (W' := T1.setTop (mkF m 102 #[.val (.int p1), .val (.ref b1), .unset, .unset, .unset, .unset, .unset] [(.int (p1 &&& (2147483647 : Int32)))])) (fun _ k => XS.iand X1.here hx rfl (hb hby at_101) rfl k) ?_
  refine own_step (W' := T1.setTop (mkF m 104 #[.val (.int p1), .val (.ref b1), .unset, .unset, .unset, .unset, .unset] [(.int (14 : Int32)), (.int (p1 &&& (2147483647 : Int32)))])) (fun _ k => XS.bipush X1.here hx rfl (hb hby at_102) k) ?_
  refine own_step (W' := T1.setTop (mkF m 105 #[.val (.int p1), .val (.ref b1), .unset, .unset, .unset, .unset, .unset] [(.int ((p1 &&& (2147483647 : Int32)) % (14 : Int32)))])) (fun _ k => iremM X1 hx rfl (hb hby at_104) rfl (by decide) k) ?_
  rw [hk]
  refine own_step (W' := T1.setTop (mkF m 106 #[.val (.int p1), .val (.ref b1), .val (.int (7 : Int32)), .unset, .unset, .unset, .unset] [])) (fun _ k => XS.istoreN X1.here hx rfl (hb hby at_105) rfl (l' := #[.val (.int p1), .val (.ref b1), .val (.int (7 : Int32)), .unset, .unset, .unset, .unset]) rfl k) ?_
  refine own_step (W' := T1.setTop (mkF m 107 #[.val (.int p1), .val (.ref b1), .val (.int (7 : Int32)), .unset, .unset, .unset, .unset] [(.ref b1)])) (fun _ k => XS.aloadN X1.here hx rfl (hb hby at_106) rfl rfl k) ?_
  refine own_step (W' := T1.setTop (mkF m 108 #[.val (.int p1), .val (.ref b1), .val (.int (7 : Int32)), .unset, .unset, .unset, .unset] [(.int (7 : Int32)), (.ref b1)])) (fun _ k => XS.iloadN X1.here hx rfl (hb hby at_107) rfl k) ?_
  refine own_step (W' := T1.setTop (mkF m 109 #[.val (.int p1), .val (.ref b1), .val (.int (7 : Int32)), .unset, .unset, .unset, .unset] [(.ref (w 7))])) (fun _ k => own_ldR X1 hx hZ e1 V1 (j := (7 : Int32)) (v := (.ref (w 7))) ⟨by decide, by decide⟩ rfl (g := (mkF m 108 #[.val (.int p1), .val (.ref b1), .val (.int (7 : Int32)), .unset, .unset, .unset, .unset] [(.int (7 : Int32)), (.ref b1)])) rfl rfl (hb hby at_108) _ k) ?_
  refine own_step (W' := T1.setTop (mkF m 110 #[.val (.int p1), .val (.ref b1), .val (.int (7 : Int32)), .val (.ref (w 7)), .unset, .unset, .unset] [])) (fun _ k => XS.astoreN X1.here hx rfl (hb hby at_109) rfl rfl (l' := #[.val (.int p1), .val (.ref b1), .val (.int (7 : Int32)), .val (.ref (w 7)), .unset, .unset, .unset]) rfl k) ?_
  refine own_step (W' := T1.setTop (mkF m 111 #[.val (.int p1), .val (.ref b1), .val (.int (7 : Int32)), .val (.ref (w 7)), .unset, .unset, .unset] [(.int (7 : Int32))])) (fun _ k => XS.iloadN X1.here hx rfl (hb hby at_110) rfl k) ?_
  refine own_step (W' := T1.setTop (mkF m 113 #[.val (.int p1), .val (.ref b1), .val (.int (7 : Int32)), .val (.ref (w 7)), .unset, .unset, .unset] [(.int (13 : Int32)), (.int (7 : Int32))])) (fun _ k => XS.bipush X1.here hx rfl (hb hby at_111) k) ?_
  refine own_step (W' := T1.setTop (mkF m 116 #[.val (.int p1), .val (.ref b1), .val (.int (7 : Int32)), .val (.ref (w 7)), .unset, .unset, .unset] [])) (fun _ k => XS.icmpNo X1.here hx rfl (hb hby at_113) rfl (by decide) k) ?_
  refine own_step (W' := T1.setTop (mkF m 117 #[.val (.int p1), .val (.ref b1), .val (.int (7 : Int32)), .val (.ref (w 7)), .unset, .unset, .unset] [(.int (1 : Int32))])) (fun _ k => XS.iconst X1.here hx rfl (hb hby at_116) k) ?_
  refine own_step (W' := T1.setTop (mkF m 121 #[.val (.int p1), .val (.ref b1), .val (.int (7 : Int32)), .val (.ref (w 7)), .unset, .unset, .unset] [(.int (1 : Int32))])) (fun _ k => XS.goto X1.here hx rfl (pc0 := 117) (pc' := 121) rfl (hb hby at_117) (by decide) (by decide) k) ?_
  refine own_step (W' := T1.setTop (mkF m 123 #[.val (.int p1), .val (.ref b1), .val (.int (7 : Int32)), .val (.ref (w 7)), .val (.int (1 : Int32)), .unset, .unset] [])) (fun _ k => XS.istore X1.here hx rfl (hb hby at_121) rfl (l' := #[.val (.int p1), .val (.ref b1), .val (.int (7 : Int32)), .val (.ref (w 7)), .val (.int (1 : Int32)), .unset, .unset]) rfl k) ?_
  refine own_step (W' := T1.setTop (mkF m 124 #[.val (.int p1), .val (.ref b1), .val (.int (7 : Int32)), .val (.ref (w 7)), .val (.int (1 : Int32)), .unset, .unset] [(.ref (w 7))])) (fun _ k => XS.aloadN X1.here hx rfl (hb hby at_123) rfl rfl k) ?_
  obtain ⟨cq2, kq2, q2a, q2b, q2c⟩ := isOf hZ e1 (pin_E7 P1)
  obtain ⟨_, _, ⟨T2, L2, k2, n2⟩, -, X2, ⟨Lc2, hQ2, l2, y2, z2⟩, st2⟩ := X1.virtualBack hx (y := (⟨"com/example/featherstar/featherstar/condition/Operator", "takesOperand", "()Z"⟩ : MethodName)) (z := (⟨"com/example/featherstar/featherstar/condition/Operator", "takesOperand", "()Z"⟩ : MethodName)) hown (mvT hZ (hw _ (List.mem_of_getElem? (i := 33) rfl))) (mvT hZ (hw _ (List.mem_of_getElem? (i := 34) rfl))) (notFace_of_selects (args := #[]) (mvT hZ (hw _ (List.mem_of_getElem? (i := 36) rfl)))) (mvT hZ (hw _ (List.mem_of_getElem? (i := 36) rfl))) (mvT hZ (hw _ (List.mem_of_getElem? (i := 35) rfl))) (by decide) (backOf (W := 0) (rm1_w7 l Z a0 hw [] w h1 n0 Z1 P1) hZ (hw _ (List.mem_of_getElem? (i := 37) rfl)) (hw _ (List.mem_of_getElem? (i := 3) rfl)) (by decide) (by decide)) q2a q2c (g := (mkF m 124 #[.val (.int p1), .val (.ref b1), .val (.int (7 : Int32)), .val (.ref (w 7)), .val (.int (1 : Int32)), .unset, .unset] [(.ref (w 7))])) rfl (by rw [hml]; rfl) (Steps.refl _) (argsL := []) (rest := []) (lenOf pd_0 rfl) rfl (by show 2 * 0 + _ ≤ _; exact Nat.le_of_eq rfl) (hb hby at_124) (fun _ _ => ⟨rfl, e1, (by decide : 1 + 0 ≤ _), (by decide : 14 + 0 ≤ _)⟩)
  dsimp only [Pt.U, Pt.locs, Pt.cells, Pt.slots] at X2 l2 y2 z2 st2 hQ2
  subst l2 y2 z2
  obtain ⟨rfl, N2q, e2⟩ := hQ2
  have N2 := Fr.app N1 N2q
  refine own_step (W' := T2.setTop (mkF m 127 #[.val (.int p1), .val (.ref b1), .val (.int (7 : Int32)), .val (.ref (w 7)), .val (.int (1 : Int32)), .unset, .unset] [(.int (1 : Int32))])) (fun _ k => st2.trans k) ?_
  refine own_step (W' := T2.setTop (mkF m 129 #[.val (.int p1), .val (.ref b1), .val (.int (7 : Int32)), .val (.ref (w 7)), .val (.int (1 : Int32)), .val (.int (1 : Int32)), .unset] [])) (fun _ k => XS.istore X2.here hx rfl (hb hby at_127) rfl (l' := #[.val (.int p1), .val (.ref b1), .val (.int (7 : Int32)), .val (.ref (w 7)), .val (.int (1 : Int32)), .val (.int (1 : Int32)), .unset]) rfl k) ?_
  refine own_step (W' := T2.setTop (mkF m 130 #[.val (.int p1), .val (.ref b1), .val (.int (7 : Int32)), .val (.ref (w 7)), .val (.int (1 : Int32)), .val (.int (1 : Int32)), .unset] [(.ref (w 7))])) (fun _ k => XS.aloadN X2.here hx rfl (hb hby at_129) rfl rfl k) ?_
  obtain ⟨cq3, kq3, q3a, q3b, q3c⟩ := isOf hZ e2 (pin_E7 P1)
  obtain ⟨_, _, ⟨T3, L3, k3, n3⟩, -, X3, ⟨Lc3, hQ3, l3, y3, z3⟩, st3⟩ := X2.virtualBack hx (y := (⟨"com/example/featherstar/featherstar/condition/Operator", "positive", "()Lcom/example/featherstar/featherstar/condition/Operator;"⟩ : MethodName)) (z := (⟨"com/example/featherstar/featherstar/condition/Operator", "positive", "()Lcom/example/featherstar/featherstar/condition/Operator;"⟩ : MethodName)) hown (mvT hZ (hw _ (List.mem_of_getElem? (i := 39) rfl))) (mvT hZ (hw _ (List.mem_of_getElem? (i := 40) rfl))) (notFace_of_selects (args := #[]) (mvT hZ (hw _ (List.mem_of_getElem? (i := 42) rfl)))) (mvT hZ (hw _ (List.mem_of_getElem? (i := 42) rfl))) (mvT hZ (hw _ (List.mem_of_getElem? (i := 41) rfl))) (by decide) (backOf (W := 0) (rm2_w7 l Z a0 hw [] w h1 n0 Z1 P1) hZ (hw _ (List.mem_of_getElem? (i := 43) rfl)) (hw _ (List.mem_of_getElem? (i := 3) rfl)) (by decide) (by decide)) q3a q3c (g := (mkF m 130 #[.val (.int p1), .val (.ref b1), .val (.int (7 : Int32)), .val (.ref (w 7)), .val (.int (1 : Int32)), .val (.int (1 : Int32)), .unset] [(.ref (w 7))])) rfl (by rw [hml]; rfl) (Steps.refl _) (argsL := []) (rest := []) (lenOf pd_1 rfl) rfl (by show 2 * 0 + _ ≤ _; exact Nat.le_of_eq rfl) (hb hby at_130) (fun _ _ => ⟨rfl, e2, (by decide : 1 + 0 ≤ _), (by decide : 14 + 0 ≤ _)⟩)
  dsimp only [Pt.U, Pt.locs, Pt.cells, Pt.slots] at X3 l3 y3 z3 st3 hQ3
  subst l3 y3 z3
  obtain ⟨rfl, N3q, e3⟩ := hQ3
  have N3 := Fr.app N2 N3q
  refine own_step (W' := T3.setTop (mkF m 133 #[.val (.int p1), .val (.ref b1), .val (.int (7 : Int32)), .val (.ref (w 7)), .val (.int (1 : Int32)), .val (.int (1 : Int32)), .unset] [(.ref (w 6))])) (fun _ k => st3.trans k) ?_
  obtain ⟨cq4, kq4, q4a, q4b, q4c⟩ := isOf hZ e3 (pin_E6 P1)
  obtain ⟨_, _, ⟨T4, L4, k4, n4⟩, -, X4, ⟨Lc4, hQ4, l4, y4, z4⟩, st4⟩ := X3.virtualBack hx (y := (⟨"com/example/featherstar/featherstar/condition/Operator", "takesOperand", "()Z"⟩ : MethodName)) (z := (⟨"com/example/featherstar/featherstar/condition/Operator", "takesOperand", "()Z"⟩ : MethodName)) hown (mvT hZ (hw _ (List.mem_of_getElem? (i := 33) rfl))) (mvT hZ (hw _ (List.mem_of_getElem? (i := 34) rfl))) (notFace_of_selects (args := #[]) (mvT hZ (hw _ (List.mem_of_getElem? (i := 36) rfl)))) (mvT hZ (hw _ (List.mem_of_getElem? (i := 36) rfl))) (mvT hZ (hw _ (List.mem_of_getElem? (i := 35) rfl))) (by decide) (backOf (W := 0) (rm1_w6 l Z a0 hw [] w h1 n0 Z1 P1) hZ (hw _ (List.mem_of_getElem? (i := 37) rfl)) (hw _ (List.mem_of_getElem? (i := 3) rfl)) (by decide) (by decide)) q4a q4c (g := (mkF m 133 #[.val (.int p1), .val (.ref b1), .val (.int (7 : Int32)), .val (.ref (w 7)), .val (.int (1 : Int32)), .val (.int (1 : Int32)), .unset] [(.ref (w 6))])) rfl (by rw [hml]; rfl) (Steps.refl _) (argsL := []) (rest := []) (lenOf pd_0 rfl) rfl (by show 2 * 0 + _ ≤ _; exact Nat.le_of_eq rfl) (hb hby at_133) (fun _ _ => ⟨rfl, e3, (by decide : 1 + 0 ≤ _), (by decide : 14 + 0 ≤ _)⟩)
  dsimp only [Pt.U, Pt.locs, Pt.cells, Pt.slots] at X4 l4 y4 z4 st4 hQ4
  subst l4 y4 z4
  obtain ⟨rfl, N4q, e4⟩ := hQ4
  have N4 := Fr.app N3 N4q
  refine own_step (W' := T4.setTop (mkF m 136 #[.val (.int p1), .val (.ref b1), .val (.int (7 : Int32)), .val (.ref (w 7)), .val (.int (1 : Int32)), .val (.int (1 : Int32)), .unset] [(.int (1 : Int32))])) (fun _ k => st4.trans k) ?_
  refine own_step (W' := T4.setTop (mkF m 138 #[.val (.int p1), .val (.ref b1), .val (.int (7 : Int32)), .val (.ref (w 7)), .val (.int (1 : Int32)), .val (.int (1 : Int32)), .val (.int (1 : Int32))] [])) (fun _ k => XS.istore X4.here hx rfl (hb hby at_136) rfl (l' := #[.val (.int p1), .val (.ref b1), .val (.int (7 : Int32)), .val (.ref (w 7)), .val (.int (1 : Int32)), .val (.int (1 : Int32)), .val (.int (1 : Int32))]) rfl k) ?_
  refine own_step (W' := T4.setTop (mkF m 140 #[.val (.int p1), .val (.ref b1), .val (.int (7 : Int32)), .val (.ref (w 7)), .val (.int (1 : Int32)), .val (.int (1 : Int32)), .val (.int (1 : Int32))] [(.int (1 : Int32))])) (fun _ k => XS.iload X4.here hx rfl (hb hby at_138) rfl k) ?_
  refine own_step (W' := T4.setTop (mkF m 142 #[.val (.int p1), .val (.ref b1), .val (.int (7 : Int32)), .val (.ref (w 7)), .val (.int (1 : Int32)), .val (.int (1 : Int32)), .val (.int (1 : Int32))] [(.int (1 : Int32)), (.int (1 : Int32))])) (fun _ k => XS.iload X4.here hx rfl (hb hby at_140) rfl k) ?_
  refine own_step (W' := T4.setTop (mkF m 145 #[.val (.int p1), .val (.ref b1), .val (.int (7 : Int32)), .val (.ref (w 7)), .val (.int (1 : Int32)), .val (.int (1 : Int32)), .val (.int (1 : Int32))] [])) (fun _ k => XS.icmpNo X4.here hx rfl (hb hby at_142) rfl (by decide) k) ?_
  refine own_step (W' := T4.setTop (mkF m 147 #[.val (.int p1), .val (.ref b1), .val (.int (7 : Int32)), .val (.ref (w 7)), .val (.int (1 : Int32)), .val (.int (1 : Int32)), .val (.int (1 : Int32))] [(.int (1 : Int32))])) (fun _ k => XS.iload X4.here hx rfl (hb hby at_145) rfl k) ?_
  refine own_step (W' := T4.setTop (mkF m 149 #[.val (.int p1), .val (.ref b1), .val (.int (7 : Int32)), .val (.ref (w 7)), .val (.int (1 : Int32)), .val (.int (1 : Int32)), .val (.int (1 : Int32))] [(.int (1 : Int32)), (.int (1 : Int32))])) (fun _ k => XS.iload X4.here hx rfl (hb hby at_147) rfl k) ?_
  refine own_step (W' := T4.setTop (mkF m 152 #[.val (.int p1), .val (.ref b1), .val (.int (7 : Int32)), .val (.ref (w 7)), .val (.int (1 : Int32)), .val (.int (1 : Int32)), .val (.int (1 : Int32))] [])) (fun _ k => XS.icmpNo X4.here hx rfl (hb hby at_149) rfl (by decide) k) ?_
  refine own_step (W' := T4.setTop (mkF m 153 #[.val (.int p1), .val (.ref b1), .val (.int (7 : Int32)), .val (.ref (w 7)), .val (.int (1 : Int32)), .val (.int (1 : Int32)), .val (.int (1 : Int32))] [(.int (1 : Int32))])) (fun _ k => XS.iconst X4.here hx rfl (hb hby at_152) k) ?_
  refine own_step (W' := T4.setTop (mkF m 157 #[.val (.int p1), .val (.ref b1), .val (.int (7 : Int32)), .val (.ref (w 7)), .val (.int (1 : Int32)), .val (.int (1 : Int32)), .val (.int (1 : Int32))] [(.int (1 : Int32))])) (fun _ k => XS.goto X4.here hx rfl (pc0 := 153) (pc' := 157) rfl (hb hby at_153) (by decide) (by decide) k) ?_
  exact own_ret X4 Bd.notSynchronized Bd.returns (v := (.int (1 : Int32))) (fun fs hr => retN X4 hx (t := .boolean) Bd.returns (by simp) (hb hby at_157) hr) ⟨rfl, N4⟩ (by decide) (by decide)
set_option maxRecDepth 65536 in
set_option maxHeartbeats 40000000 in
theorem rm1_w8 (l : Launch) (Z : State) (a0 : Array Value) (hw : ∀ d ∈ tables_1, d.before a0 Z = true) (ws : List Jvm.Cond) (w : Nat → Addr) (h0 : Heap) (n0 : Nat) (Z0 : n0 ≤ h0.size) (P : Pins Z h0 w) :
    MetFree l (⟨"com/example/featherstar/featherstar/condition/Operator", "takesOperand", "()Z"⟩ : MethodName) (head1 (Jvm.Cond.code (⟨"com/example/featherstar/featherstar/condition/Operator", "takesOperand", "()Z"⟩ : MethodName) prog_13_method_6_code 1 (some .boolean) :: ws) ({ frames := 0, cells := 0, slots := 0, locals := 0 } : Room)) (fun aA U => aA = #[(.ref (w 8))] ∧ Z.Warmed39 U.vm ∧ U.heap = h0) (fun _ _ _ _ _ => True) (fun _ U o U' => ∃ v L, o = .returned v ∧ own_QK (some (.int (1 : Int32))) h0 n0 v U'.heap L ∧ FrameEnd U o U' L ({ frames := 0, cells := 0, slots := 0, locals := 0 } : Room).cells ({ frames := 0, cells := 0, slots := 0, locals := 0 } : Room).slots) := by
  refine MetFree.of_bodySF (plainFor_of_name pn_com_example_featherstar_featherstar_condition_Operator) hisR ?_
  intro p e s m args below meth c s₁ Bd hml0 hP hK
  obtain ⟨rfl, hZ, hh⟩ := hP
  have hx := Bd.exec
  have hby := Bd.bytes
  have hml : c.maxLocals = 1 := hml0
  have hown : s.vm.findClass "com/example/featherstar/featherstar/condition/Operator" = some m.cls := findClass_of_methodNamed Bd.named
  have hnm := (name_of_methodNamed Bd.named Bd.method).1
  have X0 : Stand p l e ({ frames := 0, cells := 0, slots := 0, locals := 0 } : Room) s m #[(.ref (w 8))] below meth c s₁ [] 0 0 := Stand.of_body Bd
  have e0 : s₁.heap = h0 := by rw [← hh, Bd.state]; rfl
  have N0 := Fr.nil n0
  refine own_enter (ef_1_R m (w 8)) ?_
  refine own_step (W' := s₁.setTop (mkF m 1 #[.val (.ref (w 8))] [(.ref (w 8))])) (fun _ k => XS.aloadN X0.here hx rfl (hb hby d1_0) rfl rfl k) ?_
  obtain ⟨T1, X1, e1, st1⟩ := getS2 X0 hx hZ hown (host := "") (Or.inl (hw _ (List.mem_of_getElem? (i := 38) rfl))) Via.refl e0 (pin_S13 P) (g := (mkF m 1 #[.val (.ref (w 8))] [(.ref (w 8))])) rfl (hb hby d1_1)
  refine own_step (W' := T1.setTop (mkF m 4 #[.val (.ref (w 8))] [(.ref (w 13)), (.ref (w 8))])) (fun _ k => st1 _ k) ?_
  refine own_step (W' := T1.setTop (mkF m 7 #[.val (.ref (w 8))] [])) (fun _ k => Jvm.RoadKit.acmp (g := (mkF m 4 #[.val (.ref (w 8))] [(.ref (w 13)), (.ref (w 8))])) X1 hx rfl rfl rfl (pc0 := 4) (pc' := 7) (same := false) rfl (hb hby d1_4) rfl (decide_eq_false fun q => (Fld.ne (pin_F8_ordinal P) (pin_F13_ordinal P) (by decide)) (Value.ref.inj q)) (by decide) (by decide) k) ?_
  refine own_step (W' := T1.setTop (mkF m 8 #[.val (.ref (w 8))] [(.int (1 : Int32))])) (fun _ k => XS.iconst X1.here hx rfl (hb hby d1_7) k) ?_
  refine own_step (W' := T1.setTop (mkF m 12 #[.val (.ref (w 8))] [(.int (1 : Int32))])) (fun _ k => XS.goto X1.here hx rfl (pc0 := 8) (pc' := 12) rfl (hb hby d1_8) (by decide) (by decide) k) ?_
  exact own_ret X1 Bd.notSynchronized Bd.returns (v := (.int (1 : Int32))) (fun fs hr => retN X1 hx (t := .boolean) Bd.returns (by simp) (hb hby d1_12) hr) ⟨rfl, N0, e1⟩ (by decide) (by decide)
set_option maxRecDepth 65536 in
set_option maxHeartbeats 40000000 in
theorem rm2_w8 (l : Launch) (Z : State) (a0 : Array Value) (hw : ∀ d ∈ tables_1, d.before a0 Z = true) (ws : List Jvm.Cond) (w : Nat → Addr) (h0 : Heap) (n0 : Nat) (Z0 : n0 ≤ h0.size) (P : Pins Z h0 w) :
    MetFree l (⟨"com/example/featherstar/featherstar/condition/Operator", "positive", "()Lcom/example/featherstar/featherstar/condition/Operator;"⟩ : MethodName) (head1 (Jvm.Cond.code (⟨"com/example/featherstar/featherstar/condition/Operator", "positive", "()Lcom/example/featherstar/featherstar/condition/Operator;"⟩ : MethodName) prog_13_method_8_code 1 (some (.object "com/example/featherstar/featherstar/condition/Operator")) :: ws) ({ frames := 0, cells := 0, slots := 0, locals := 0 } : Room)) (fun aA U => aA = #[(.ref (w 8))] ∧ Z.Warmed39 U.vm ∧ U.heap = h0) (fun _ _ _ _ _ => True) (fun _ U o U' => ∃ v L, o = .returned v ∧ own_QK (some (.ref (w 8))) h0 n0 v U'.heap L ∧ FrameEnd U o U' L ({ frames := 0, cells := 0, slots := 0, locals := 0 } : Room).cells ({ frames := 0, cells := 0, slots := 0, locals := 0 } : Room).slots) := by
  refine MetFree.of_bodySF (plainFor_of_name pn_com_example_featherstar_featherstar_condition_Operator) hisR ?_
  intro p e s m args below meth c s₁ Bd hml0 hP hK
  obtain ⟨rfl, hZ, hh⟩ := hP
  have hx := Bd.exec
  have hby := Bd.bytes
  have hml : c.maxLocals = 1 := hml0
  have hown : s.vm.findClass "com/example/featherstar/featherstar/condition/Operator" = some m.cls := findClass_of_methodNamed Bd.named
  have hnm := (name_of_methodNamed Bd.named Bd.method).1
  have X0 : Stand p l e ({ frames := 0, cells := 0, slots := 0, locals := 0 } : Room) s m #[(.ref (w 8))] below meth c s₁ [] 0 0 := Stand.of_body Bd
  have e0 : s₁.heap = h0 := by rw [← hh, Bd.state]; rfl
  have N0 := Fr.nil n0
  refine own_enter (ef_2_R m (w 8)) ?_
  refine own_step (W' := s₁.setTop (mkF m 1 #[.val (.ref (w 8))] [(.ref (w 8))])) (fun _ k => XS.aloadN X0.here hx rfl (hb hby d2_0) rfl rfl k) ?_
  obtain ⟨T1, X1, e1, st1⟩ := getF X0 hx hZ hown (host := "") (Or.inl (hw _ (List.mem_of_getElem? (i := 44) rfl))) Via.refl e0 (pin_F8_negated P) (g := (mkF m 1 #[.val (.ref (w 8))] [(.ref (w 8))])) rfl rfl (hb hby d2_1)
  refine own_step (W' := T1.setTop (mkF m 4 #[.val (.ref (w 8))] [.null])) (fun _ k => st1 _ k) ?_
  refine own_step (W' := T1.setTop (mkF m 7 #[.val (.ref (w 8))] [])) (fun _ k => XS.ifnonnullNo X1.here hx rfl (hb hby d2_4) rfl k) ?_
  refine own_step (W' := T1.setTop (mkF m 8 #[.val (.ref (w 8))] [(.ref (w 8))])) (fun _ k => XS.aloadN X1.here hx rfl (hb hby d2_7) rfl rfl k) ?_
  refine own_step (W' := T1.setTop (mkF m 15 #[.val (.ref (w 8))] [(.ref (w 8))])) (fun _ k => XS.goto X1.here hx rfl (pc0 := 8) (pc' := 15) rfl (hb hby d2_8) (by decide) (by decide) k) ?_
  exact own_ret X1 Bd.notSynchronized Bd.returns (v := (.ref (w 8))) (fun fs hr => retOut X1 hx Bd.returns rfl (Or.inr (Or.inr (Or.inr (Or.inr ⟨rfl, rfl, rfl⟩)))) (hb hby d2_15) hr) ⟨rfl, N0, e1⟩ (by decide) (by decide)
set_option maxRecDepth 65536 in
set_option maxHeartbeats 40000000 in
theorem rm0_8 (l : Launch) (Z : State) (a0 : Array Value) (hw : ∀ d ∈ tables_1, d.before a0 Z = true) (ws : List Jvm.Cond) (p1 : Int32) (hk : ((p1 &&& (2147483647 : Int32)) % (14 : Int32)) = (8 : Int32)) (w : Nat → Addr) (h0 : Heap) (n0 : Nat) (Z0 : n0 ≤ h0.size) (P : Pins Z h0 w) :
    MetFree l x (head1 (Jvm.Cond.code x code maxLocals ret :: ws) room_1) (fun aA U => aA = #[(.int p1)] ∧ Z.Warmed39 U.vm ∧ U.heap = h0) (fun _ _ _ _ _ => True) (fun _ U o U' => ∃ v L, o = .returned v ∧ own_Q0 n0 v U'.heap L ∧ FrameEnd U o U' L room_1.cells room_1.slots) := by
  refine MetFree.of_bodySF (plainFor_of_name pn_com_example_featherstar_featherstar_condition_OperatorTakesOperandPinLaw) hisR ?_
  intro p e s m args below meth c s₁ Bd hml0 hP hK
  obtain ⟨rfl, hZ, hh⟩ := hP
  have hx := Bd.exec
  have hby := Bd.bytes
  have hml : c.maxLocals = 7 := hml0
  have hown : s.vm.findClass "com/example/featherstar/featherstar/condition/OperatorTakesOperandPinLaw" = some m.cls := findClass_of_methodNamed Bd.named
  have hnm := (name_of_methodNamed Bd.named Bd.method).1
  have X0 : Stand p l e room_1 s m #[(.int p1)] below meth c s₁ [] 0 0 := Stand.of_body Bd
  have e0 : s₁.heap = h0 := by rw [← hh, Bd.state]; rfl
  have N0 := Fr.nil n0
  refine own_enter (ef_0_I m p1) ?_
  refine own_fill p1 X0 hx hZ hw hby hml hown e0 N0 Z0 P ?_
  intro T1 h1 L1 k1 b1 X1 e1 E1 N1 V1
  have P1 : Pins Z h1 w := P.ext E1
  have Z1 : n0 ≤ h1.size := Nat.le_trans Z0 E1.1
  refine own_step (W' := T1.setTop (mkF m 98 #[.val (.int p1), .val (.ref b1), .unset, .unset, .unset, .unset, .unset] [])) (fun _ k => XS.astoreN X1.here hx rfl (hb hby at_97) rfl rfl (l' := #[.val (.int p1), .val (.ref b1), .unset, .unset, .unset, .unset, .unset]) rfl k) ?_
  refine own_step (W' := T1.setTop (mkF m 99 #[.val (.int p1), .val (.ref b1), .unset, .unset, .unset, .unset, .unset] [(.int p1)])) (fun _ k => XS.iloadN X1.here hx rfl (hb hby at_98) rfl k) ?_
  refine own_step (W' := T1.setTop (mkF m 101 #[.val (.int p1), .val (.ref b1), .unset, .unset, .unset, .unset, .unset] [(.int (2147483647 : Int32)), (.int p1)])) (fun _ k => X1.ldcInt hx hown (mvT hZ (hw _ (List.mem_of_getElem? (i := 32) rfl))) (g := (mkF m 99 #[.val (.int p1), .val (.ref b1), .unset, .unset, .unset, .unset, .unset] [(.int p1)])) rfl (hb hby at_99) _ k) ?_
  refine own_step (W' := T1.setTop (mkF m 102 #[.val (.int p1), .val (.ref b1), .unset, .unset, .unset, .unset, .unset] [(.int (p1 &&& (2147483647 : Int32)))])) (fun _ k => XS.iand X1.here hx rfl (hb hby at_101) rfl k) ?_
  refine own_step (W' := T1.setTop (mkF m 104 #[.val (.int p1), .val (.ref b1), .unset, .unset, .unset, .unset, .unset] [(.int (14 : Int32)), (.int (p1 &&& (2147483647 : Int32)))])) (fun _ k => XS.bipush X1.here hx rfl (hb hby at_102) k) ?_
  refine own_step (W' := T1.setTop (mkF m 105 #[.val (.int p1), .val (.ref b1), .unset, .unset, .unset, .unset, .unset] [(.int ((p1 &&& (2147483647 : Int32)) % (14 : Int32)))])) (fun _ k => iremM X1 hx rfl (hb hby at_104) rfl (by decide) k) ?_
  rw [hk]
  refine own_step (W' := T1.setTop (mkF m 106 #[.val (.int p1), .val (.ref b1), .val (.int (8 : Int32)), .unset, .unset, .unset, .unset] [])) (fun _ k => XS.istoreN X1.here hx rfl (hb hby at_105) rfl (l' := #[.val (.int p1), .val (.ref b1), .val (.int (8 : Int32)), .unset, .unset, .unset, .unset]) rfl k) ?_
  refine own_step (W' := T1.setTop (mkF m 107 #[.val (.int p1), .val (.ref b1), .val (.int (8 : Int32)), .unset, .unset, .unset, .unset] [(.ref b1)])) (fun _ k => XS.aloadN X1.here hx rfl (hb hby at_106) rfl rfl k) ?_
  refine own_step (W' := T1.setTop (mkF m 108 #[.val (.int p1), .val (.ref b1), .val (.int (8 : Int32)), .unset, .unset, .unset, .unset] [(.int (8 : Int32)), (.ref b1)])) (fun _ k => XS.iloadN X1.here hx rfl (hb hby at_107) rfl k) ?_
  refine own_step (W' := T1.setTop (mkF m 109 #[.val (.int p1), .val (.ref b1), .val (.int (8 : Int32)), .unset, .unset, .unset, .unset] [(.ref (w 8))])) (fun _ k => own_ldR X1 hx hZ e1 V1 (j := (8 : Int32)) (v := (.ref (w 8))) ⟨by decide, by decide⟩ rfl (g := (mkF m 108 #[.val (.int p1), .val (.ref b1), .val (.int (8 : Int32)), .unset, .unset, .unset, .unset] [(.int (8 : Int32)), (.ref b1)])) rfl rfl (hb hby at_108) _ k) ?_
  refine own_step (W' := T1.setTop (mkF m 110 #[.val (.int p1), .val (.ref b1), .val (.int (8 : Int32)), .val (.ref (w 8)), .unset, .unset, .unset] [])) (fun _ k => XS.astoreN X1.here hx rfl (hb hby at_109) rfl rfl (l' := #[.val (.int p1), .val (.ref b1), .val (.int (8 : Int32)), .val (.ref (w 8)), .unset, .unset, .unset]) rfl k) ?_
  refine own_step (W' := T1.setTop (mkF m 111 #[.val (.int p1), .val (.ref b1), .val (.int (8 : Int32)), .val (.ref (w 8)), .unset, .unset, .unset] [(.int (8 : Int32))])) (fun _ k => XS.iloadN X1.here hx rfl (hb hby at_110) rfl k) ?_
  refine own_step (W' := T1.setTop (mkF m 113 #[.val (.int p1), .val (.ref b1), .val (.int (8 : Int32)), .val (.ref (w 8)), .unset, .unset, .unset] [(.int (13 : Int32)), (.int (8 : Int32))])) (fun _ k => XS.bipush X1.here hx rfl (hb hby at_111) k) ?_
  refine own_step (W' := T1.setTop (mkF m 116 #[.val (.int p1), .val (.ref b1), .val (.int (8 : Int32)), .val (.ref (w 8)), .unset, .unset, .unset] [])) (fun _ k => XS.icmpNo X1.here hx rfl (hb hby at_113) rfl (by decide) k) ?_
  refine own_step (W' := T1.setTop (mkF m 117 #[.val (.int p1), .val (.ref b1), .val (.int (8 : Int32)), .val (.ref (w 8)), .unset, .unset, .unset] [(.int (1 : Int32))])) (fun _ k => XS.iconst X1.here hx rfl (hb hby at_116) k) ?_
  refine own_step (W' := T1.setTop (mkF m 121 #[.val (.int p1), .val (.ref b1), .val (.int (8 : Int32)), .val (.ref (w 8)), .unset, .unset, .unset] [(.int (1 : Int32))])) (fun _ k => XS.goto X1.here hx rfl (pc0 := 117) (pc' := 121) rfl (hb hby at_117) (by decide) (by decide) k) ?_
  refine own_step (W' := T1.setTop (mkF m 123 #[.val (.int p1), .val (.ref b1), .val (.int (8 : Int32)), .val (.ref (w 8)), .val (.int (1 : Int32)), .unset, .unset] [])) (fun _ k => XS.istore X1.here hx rfl (hb hby at_121) rfl (l' := #[.val (.int p1), .val (.ref b1), .val (.int (8 : Int32)), .val (.ref (w 8)), .val (.int (1 : Int32)), .unset, .unset]) rfl k) ?_
  refine own_step (W' := T1.setTop (mkF m 124 #[.val (.int p1), .val (.ref b1), .val (.int (8 : Int32)), .val (.ref (w 8)), .val (.int (1 : Int32)), .unset, .unset] [(.ref (w 8))])) (fun _ k => XS.aloadN X1.here hx rfl (hb hby at_123) rfl rfl k) ?_
  obtain ⟨cq2, kq2, q2a, q2b, q2c⟩ := isOf hZ e1 (pin_E8 P1)
  obtain ⟨_, _, ⟨T2, L2, k2, n2⟩, -, X2, ⟨Lc2, hQ2, l2, y2, z2⟩, st2⟩ := X1.virtualBack hx (y := (⟨"com/example/featherstar/featherstar/condition/Operator", "takesOperand", "()Z"⟩ : MethodName)) (z := (⟨"com/example/featherstar/featherstar/condition/Operator", "takesOperand", "()Z"⟩ : MethodName)) hown (mvT hZ (hw _ (List.mem_of_getElem? (i := 33) rfl))) (mvT hZ (hw _ (List.mem_of_getElem? (i := 34) rfl))) (notFace_of_selects (args := #[]) (mvT hZ (hw _ (List.mem_of_getElem? (i := 36) rfl)))) (mvT hZ (hw _ (List.mem_of_getElem? (i := 36) rfl))) (mvT hZ (hw _ (List.mem_of_getElem? (i := 35) rfl))) (by decide) (backOf (W := 0) (rm1_w8 l Z a0 hw [] w h1 n0 Z1 P1) hZ (hw _ (List.mem_of_getElem? (i := 37) rfl)) (hw _ (List.mem_of_getElem? (i := 3) rfl)) (by decide) (by decide)) q2a q2c (g := (mkF m 124 #[.val (.int p1), .val (.ref b1), .val (.int (8 : Int32)), .val (.ref (w 8)), .val (.int (1 : Int32)), .unset, .unset] [(.ref (w 8))])) rfl (by rw [hml]; rfl) (Steps.refl _) (argsL := []) (rest := []) (lenOf pd_0 rfl) rfl (by show 2 * 0 + _ ≤ _; exact Nat.le_of_eq rfl) (hb hby at_124) (fun _ _ => ⟨rfl, e1, (by decide : 1 + 0 ≤ _), (by decide : 14 + 0 ≤ _)⟩)
  dsimp only [Pt.U, Pt.locs, Pt.cells, Pt.slots] at X2 l2 y2 z2 st2 hQ2
  subst l2 y2 z2
  obtain ⟨rfl, N2q, e2⟩ := hQ2
  have N2 := Fr.app N1 N2q
  refine own_step (W' := T2.setTop (mkF m 127 #[.val (.int p1), .val (.ref b1), .val (.int (8 : Int32)), .val (.ref (w 8)), .val (.int (1 : Int32)), .unset, .unset] [(.int (1 : Int32))])) (fun _ k => st2.trans k) ?_
  refine own_step (W' := T2.setTop (mkF m 129 #[.val (.int p1), .val (.ref b1), .val (.int (8 : Int32)), .val (.ref (w 8)), .val (.int (1 : Int32)), .val (.int (1 : Int32)), .unset] [])) (fun _ k => XS.istore X2.here hx rfl (hb hby at_127) rfl (l' := #[.val (.int p1), .val (.ref b1), .val (.int (8 : Int32)), .val (.ref (w 8)), .val (.int (1 : Int32)), .val (.int (1 : Int32)), .unset]) rfl k) ?_
  refine own_step (W' := T2.setTop (mkF m 130 #[.val (.int p1), .val (.ref b1), .val (.int (8 : Int32)), .val (.ref (w 8)), .val (.int (1 : Int32)), .val (.int (1 : Int32)), .unset] [(.ref (w 8))])) (fun _ k => XS.aloadN X2.here hx rfl (hb hby at_129) rfl rfl k) ?_
  obtain ⟨cq3, kq3, q3a, q3b, q3c⟩ := isOf hZ e2 (pin_E8 P1)
  obtain ⟨_, _, ⟨T3, L3, k3, n3⟩, -, X3, ⟨Lc3, hQ3, l3, y3, z3⟩, st3⟩ := X2.virtualBack hx (y := (⟨"com/example/featherstar/featherstar/condition/Operator", "positive", "()Lcom/example/featherstar/featherstar/condition/Operator;"⟩ : MethodName)) (z := (⟨"com/example/featherstar/featherstar/condition/Operator", "positive", "()Lcom/example/featherstar/featherstar/condition/Operator;"⟩ : MethodName)) hown (mvT hZ (hw _ (List.mem_of_getElem? (i := 39) rfl))) (mvT hZ (hw _ (List.mem_of_getElem? (i := 40) rfl))) (notFace_of_selects (args := #[]) (mvT hZ (hw _ (List.mem_of_getElem? (i := 42) rfl)))) (mvT hZ (hw _ (List.mem_of_getElem? (i := 42) rfl))) (mvT hZ (hw _ (List.mem_of_getElem? (i := 41) rfl))) (by decide) (backOf (W := 0) (rm2_w8 l Z a0 hw [] w h1 n0 Z1 P1) hZ (hw _ (List.mem_of_getElem? (i := 43) rfl)) (hw _ (List.mem_of_getElem? (i := 3) rfl)) (by decide) (by decide)) q3a q3c (g := (mkF m 130 #[.val (.int p1), .val (.ref b1), .val (.int (8 : Int32)), .val (.ref (w 8)), .val (.int (1 : Int32)), .val (.int (1 : Int32)), .unset] [(.ref (w 8))])) rfl (by rw [hml]; rfl) (Steps.refl _) (argsL := []) (rest := []) (lenOf pd_1 rfl) rfl (by show 2 * 0 + _ ≤ _; exact Nat.le_of_eq rfl) (hb hby at_130) (fun _ _ => ⟨rfl, e2, (by decide : 1 + 0 ≤ _), (by decide : 14 + 0 ≤ _)⟩)
  dsimp only [Pt.U, Pt.locs, Pt.cells, Pt.slots] at X3 l3 y3 z3 st3 hQ3
  subst l3 y3 z3
  obtain ⟨rfl, N3q, e3⟩ := hQ3
  have N3 := Fr.app N2 N3q
  refine own_step (W' := T3.setTop (mkF m 133 #[.val (.int p1), .val (.ref b1), .val (.int (8 : Int32)), .val (.ref (w 8)), .val (.int (1 : Int32)), .val (.int (1 : Int32)), .unset] [(.ref (w 8))])) (fun _ k => st3.trans k) ?_
  obtain ⟨cq4, kq4, q4a, q4b, q4c⟩ := isOf hZ e3 (pin_E8 P1)
  obtain ⟨_, _, ⟨T4, L4, k4, n4⟩, -, X4, ⟨Lc4, hQ4, l4, y4, z4⟩, st4⟩ := X3.virtualBack hx (y := (⟨"com/example/featherstar/featherstar/condition/Operator", "takesOperand", "()Z"⟩ : MethodName)) (z := (⟨"com/example/featherstar/featherstar/condition/Operator", "takesOperand", "()Z"⟩ : MethodName)) hown (mvT hZ (hw _ (List.mem_of_getElem? (i := 33) rfl))) (mvT hZ (hw _ (List.mem_of_getElem? (i := 34) rfl))) (notFace_of_selects (args := #[]) (mvT hZ (hw _ (List.mem_of_getElem? (i := 36) rfl)))) (mvT hZ (hw _ (List.mem_of_getElem? (i := 36) rfl))) (mvT hZ (hw _ (List.mem_of_getElem? (i := 35) rfl))) (by decide) (backOf (W := 0) (rm1_w8 l Z a0 hw [] w h1 n0 Z1 P1) hZ (hw _ (List.mem_of_getElem? (i := 37) rfl)) (hw _ (List.mem_of_getElem? (i := 3) rfl)) (by decide) (by decide)) q4a q4c (g := (mkF m 133 #[.val (.int p1), .val (.ref b1), .val (.int (8 : Int32)), .val (.ref (w 8)), .val (.int (1 : Int32)), .val (.int (1 : Int32)), .unset] [(.ref (w 8))])) rfl (by rw [hml]; rfl) (Steps.refl _) (argsL := []) (rest := []) (lenOf pd_0 rfl) rfl (by show 2 * 0 + _ ≤ _; exact Nat.le_of_eq rfl) (hb hby at_133) (fun _ _ => ⟨rfl, e3, (by decide : 1 + 0 ≤ _), (by decide : 14 + 0 ≤ _)⟩)
  dsimp only [Pt.U, Pt.locs, Pt.cells, Pt.slots] at X4 l4 y4 z4 st4 hQ4
  subst l4 y4 z4
  obtain ⟨rfl, N4q, e4⟩ := hQ4
  have N4 := Fr.app N3 N4q
  refine own_step (W' := T4.setTop (mkF m 136 #[.val (.int p1), .val (.ref b1), .val (.int (8 : Int32)), .val (.ref (w 8)), .val (.int (1 : Int32)), .val (.int (1 : Int32)), .unset] [(.int (1 : Int32))])) (fun _ k => st4.trans k) ?_
  refine own_step (W' := T4.setTop (mkF m 138 #[.val (.int p1), .val (.ref b1), .val (.int (8 : Int32)), .val (.ref (w 8)), .val (.int (1 : Int32)), .val (.int (1 : Int32)), .val (.int (1 : Int32))] [])) (fun _ k => XS.istore X4.here hx rfl (hb hby at_136) rfl (l' := #[.val (.int p1), .val (.ref b1), .val (.int (8 : Int32)), .val (.ref (w 8)), .val (.int (1 : Int32)), .val (.int (1 : Int32)), .val (.int (1 : Int32))]) rfl k) ?_
  refine own_step (W' := T4.setTop (mkF m 140 #[.val (.int p1), .val (.ref b1), .val (.int (8 : Int32)), .val (.ref (w 8)), .val (.int (1 : Int32)), .val (.int (1 : Int32)), .val (.int (1 : Int32))] [(.int (1 : Int32))])) (fun _ k => XS.iload X4.here hx rfl (hb hby at_138) rfl k) ?_
  refine own_step (W' := T4.setTop (mkF m 142 #[.val (.int p1), .val (.ref b1), .val (.int (8 : Int32)), .val (.ref (w 8)), .val (.int (1 : Int32)), .val (.int (1 : Int32)), .val (.int (1 : Int32))] [(.int (1 : Int32)), (.int (1 : Int32))])) (fun _ k => XS.iload X4.here hx rfl (hb hby at_140) rfl k) ?_
  refine own_step (W' := T4.setTop (mkF m 145 #[.val (.int p1), .val (.ref b1), .val (.int (8 : Int32)), .val (.ref (w 8)), .val (.int (1 : Int32)), .val (.int (1 : Int32)), .val (.int (1 : Int32))] [])) (fun _ k => XS.icmpNo X4.here hx rfl (hb hby at_142) rfl (by decide) k) ?_
  refine own_step (W' := T4.setTop (mkF m 147 #[.val (.int p1), .val (.ref b1), .val (.int (8 : Int32)), .val (.ref (w 8)), .val (.int (1 : Int32)), .val (.int (1 : Int32)), .val (.int (1 : Int32))] [(.int (1 : Int32))])) (fun _ k => XS.iload X4.here hx rfl (hb hby at_145) rfl k) ?_
  refine own_step (W' := T4.setTop (mkF m 149 #[.val (.int p1), .val (.ref b1), .val (.int (8 : Int32)), .val (.ref (w 8)), .val (.int (1 : Int32)), .val (.int (1 : Int32)), .val (.int (1 : Int32))] [(.int (1 : Int32)), (.int (1 : Int32))])) (fun _ k => XS.iload X4.here hx rfl (hb hby at_147) rfl k) ?_
  refine own_step (W' := T4.setTop (mkF m 152 #[.val (.int p1), .val (.ref b1), .val (.int (8 : Int32)), .val (.ref (w 8)), .val (.int (1 : Int32)), .val (.int (1 : Int32)), .val (.int (1 : Int32))] [])) (fun _ k => XS.icmpNo X4.here hx rfl (hb hby at_149) rfl (by decide) k) ?_
  refine own_step (W' := T4.setTop (mkF m 153 #[.val (.int p1), .val (.ref b1), .val (.int (8 : Int32)), .val (.ref (w 8)), .val (.int (1 : Int32)), .val (.int (1 : Int32)), .val (.int (1 : Int32))] [(.int (1 : Int32))])) (fun _ k => XS.iconst X4.here hx rfl (hb hby at_152) k) ?_
  refine own_step (W' := T4.setTop (mkF m 157 #[.val (.int p1), .val (.ref b1), .val (.int (8 : Int32)), .val (.ref (w 8)), .val (.int (1 : Int32)), .val (.int (1 : Int32)), .val (.int (1 : Int32))] [(.int (1 : Int32))])) (fun _ k => XS.goto X4.here hx rfl (pc0 := 153) (pc' := 157) rfl (hb hby at_153) (by decide) (by decide) k) ?_
  exact own_ret X4 Bd.notSynchronized Bd.returns (v := (.int (1 : Int32))) (fun fs hr => retN X4 hx (t := .boolean) Bd.returns (by simp) (hb hby at_157) hr) ⟨rfl, N4⟩ (by decide) (by decide)
set_option maxRecDepth 65536 in
set_option maxHeartbeats 40000000 in
theorem rm1_w9 (l : Launch) (Z : State) (a0 : Array Value) (hw : ∀ d ∈ tables_1, d.before a0 Z = true) (ws : List Jvm.Cond) (w : Nat → Addr) (h0 : Heap) (n0 : Nat) (Z0 : n0 ≤ h0.size) (P : Pins Z h0 w) :
    MetFree l (⟨"com/example/featherstar/featherstar/condition/Operator", "takesOperand", "()Z"⟩ : MethodName) (head1 (Jvm.Cond.code (⟨"com/example/featherstar/featherstar/condition/Operator", "takesOperand", "()Z"⟩ : MethodName) prog_13_method_6_code 1 (some .boolean) :: ws) ({ frames := 0, cells := 0, slots := 0, locals := 0 } : Room)) (fun aA U => aA = #[(.ref (w 9))] ∧ Z.Warmed39 U.vm ∧ U.heap = h0) (fun _ _ _ _ _ => True) (fun _ U o U' => ∃ v L, o = .returned v ∧ own_QK (some (.int (1 : Int32))) h0 n0 v U'.heap L ∧ FrameEnd U o U' L ({ frames := 0, cells := 0, slots := 0, locals := 0 } : Room).cells ({ frames := 0, cells := 0, slots := 0, locals := 0 } : Room).slots) := by
  refine MetFree.of_bodySF (plainFor_of_name pn_com_example_featherstar_featherstar_condition_Operator) hisR ?_
  intro p e s m args below meth c s₁ Bd hml0 hP hK
  obtain ⟨rfl, hZ, hh⟩ := hP
  have hx := Bd.exec
  have hby := Bd.bytes
  have hml : c.maxLocals = 1 := hml0
  have hown : s.vm.findClass "com/example/featherstar/featherstar/condition/Operator" = some m.cls := findClass_of_methodNamed Bd.named
  have hnm := (name_of_methodNamed Bd.named Bd.method).1
  have X0 : Stand p l e ({ frames := 0, cells := 0, slots := 0, locals := 0 } : Room) s m #[(.ref (w 9))] below meth c s₁ [] 0 0 := Stand.of_body Bd
  have e0 : s₁.heap = h0 := by rw [← hh, Bd.state]; rfl
  have N0 := Fr.nil n0
  refine own_enter (ef_1_R m (w 9)) ?_
  refine own_step (W' := s₁.setTop (mkF m 1 #[.val (.ref (w 9))] [(.ref (w 9))])) (fun _ k => XS.aloadN X0.here hx rfl (hb hby d1_0) rfl rfl k) ?_
  obtain ⟨T1, X1, e1, st1⟩ := getS2 X0 hx hZ hown (host := "") (Or.inl (hw _ (List.mem_of_getElem? (i := 38) rfl))) Via.refl e0 (pin_S13 P) (g := (mkF m 1 #[.val (.ref (w 9))] [(.ref (w 9))])) rfl (hb hby d1_1)
  refine own_step (W' := T1.setTop (mkF m 4 #[.val (.ref (w 9))] [(.ref (w 13)), (.ref (w 9))])) (fun _ k => st1 _ k) ?_
  refine own_step (W' := T1.setTop (mkF m 7 #[.val (.ref (w 9))] [])) (fun _ k => Jvm.RoadKit.acmp (g := (mkF m 4 #[.val (.ref (w 9))] [(.ref (w 13)), (.ref (w 9))])) X1 hx rfl rfl rfl (pc0 := 4) (pc' := 7) (same := false) rfl (hb hby d1_4) rfl (decide_eq_false fun q => (Fld.ne (pin_F9_ordinal P) (pin_F13_ordinal P) (by decide)) (Value.ref.inj q)) (by decide) (by decide) k) ?_
  refine own_step (W' := T1.setTop (mkF m 8 #[.val (.ref (w 9))] [(.int (1 : Int32))])) (fun _ k => XS.iconst X1.here hx rfl (hb hby d1_7) k) ?_
  refine own_step (W' := T1.setTop (mkF m 12 #[.val (.ref (w 9))] [(.int (1 : Int32))])) (fun _ k => XS.goto X1.here hx rfl (pc0 := 8) (pc' := 12) rfl (hb hby d1_8) (by decide) (by decide) k) ?_
  exact own_ret X1 Bd.notSynchronized Bd.returns (v := (.int (1 : Int32))) (fun fs hr => retN X1 hx (t := .boolean) Bd.returns (by simp) (hb hby d1_12) hr) ⟨rfl, N0, e1⟩ (by decide) (by decide)
set_option maxRecDepth 65536 in
set_option maxHeartbeats 40000000 in
theorem rm2_w9 (l : Launch) (Z : State) (a0 : Array Value) (hw : ∀ d ∈ tables_1, d.before a0 Z = true) (ws : List Jvm.Cond) (w : Nat → Addr) (h0 : Heap) (n0 : Nat) (Z0 : n0 ≤ h0.size) (P : Pins Z h0 w) :
    MetFree l (⟨"com/example/featherstar/featherstar/condition/Operator", "positive", "()Lcom/example/featherstar/featherstar/condition/Operator;"⟩ : MethodName) (head1 (Jvm.Cond.code (⟨"com/example/featherstar/featherstar/condition/Operator", "positive", "()Lcom/example/featherstar/featherstar/condition/Operator;"⟩ : MethodName) prog_13_method_8_code 1 (some (.object "com/example/featherstar/featherstar/condition/Operator")) :: ws) ({ frames := 0, cells := 0, slots := 0, locals := 0 } : Room)) (fun aA U => aA = #[(.ref (w 9))] ∧ Z.Warmed39 U.vm ∧ U.heap = h0) (fun _ _ _ _ _ => True) (fun _ U o U' => ∃ v L, o = .returned v ∧ own_QK (some (.ref (w 8))) h0 n0 v U'.heap L ∧ FrameEnd U o U' L ({ frames := 0, cells := 0, slots := 0, locals := 0 } : Room).cells ({ frames := 0, cells := 0, slots := 0, locals := 0 } : Room).slots) := by
  refine MetFree.of_bodySF (plainFor_of_name pn_com_example_featherstar_featherstar_condition_Operator) hisR ?_
  intro p e s m args below meth c s₁ Bd hml0 hP hK
  obtain ⟨rfl, hZ, hh⟩ := hP
  have hx := Bd.exec
  have hby := Bd.bytes
  have hml : c.maxLocals = 1 := hml0
  have hown : s.vm.findClass "com/example/featherstar/featherstar/condition/Operator" = some m.cls := findClass_of_methodNamed Bd.named
  have hnm := (name_of_methodNamed Bd.named Bd.method).1
  have X0 : Stand p l e ({ frames := 0, cells := 0, slots := 0, locals := 0 } : Room) s m #[(.ref (w 9))] below meth c s₁ [] 0 0 := Stand.of_body Bd
  have e0 : s₁.heap = h0 := by rw [← hh, Bd.state]; rfl
  have N0 := Fr.nil n0
  refine own_enter (ef_2_R m (w 9)) ?_
  refine own_step (W' := s₁.setTop (mkF m 1 #[.val (.ref (w 9))] [(.ref (w 9))])) (fun _ k => XS.aloadN X0.here hx rfl (hb hby d2_0) rfl rfl k) ?_
  obtain ⟨T1, X1, e1, st1⟩ := getF X0 hx hZ hown (host := "") (Or.inl (hw _ (List.mem_of_getElem? (i := 44) rfl))) Via.refl e0 (pin_F9_negated P) (g := (mkF m 1 #[.val (.ref (w 9))] [(.ref (w 9))])) rfl rfl (hb hby d2_1)
  refine own_step (W' := T1.setTop (mkF m 4 #[.val (.ref (w 9))] [(.ref (w 8))])) (fun _ k => st1 _ k) ?_
  refine own_step (W' := T1.setTop (mkF m 11 #[.val (.ref (w 9))] [])) (fun _ k => XS.ifnonnullYes X1.here hx rfl (pc0 := 4) (pc' := 11) rfl (hb hby d2_4) rfl (by decide) (by decide) k) ?_
  refine own_step (W' := T1.setTop (mkF m 12 #[.val (.ref (w 9))] [(.ref (w 9))])) (fun _ k => XS.aloadN X1.here hx rfl (hb hby d2_11) rfl rfl k) ?_
  obtain ⟨T2, X2, e2, st2⟩ := getF X1 hx hZ hown (host := "") (Or.inl (hw _ (List.mem_of_getElem? (i := 44) rfl))) Via.refl e1 (pin_F9_negated P) (g := (mkF m 12 #[.val (.ref (w 9))] [(.ref (w 9))])) rfl rfl (hb hby d2_12)
  refine own_step (W' := T2.setTop (mkF m 15 #[.val (.ref (w 9))] [(.ref (w 8))])) (fun _ k => st2 _ k) ?_
  exact own_ret X2 Bd.notSynchronized Bd.returns (v := (.ref (w 8))) (fun fs hr => retOut X2 hx Bd.returns rfl (Or.inr (Or.inr (Or.inr (Or.inr ⟨rfl, rfl, rfl⟩)))) (hb hby d2_15) hr) ⟨rfl, N0, e2⟩ (by decide) (by decide)
set_option maxRecDepth 65536 in
set_option maxHeartbeats 40000000 in
theorem rm0_9 (l : Launch) (Z : State) (a0 : Array Value) (hw : ∀ d ∈ tables_1, d.before a0 Z = true) (ws : List Jvm.Cond) (p1 : Int32) (hk : ((p1 &&& (2147483647 : Int32)) % (14 : Int32)) = (9 : Int32)) (w : Nat → Addr) (h0 : Heap) (n0 : Nat) (Z0 : n0 ≤ h0.size) (P : Pins Z h0 w) :
    MetFree l x (head1 (Jvm.Cond.code x code maxLocals ret :: ws) room_1) (fun aA U => aA = #[(.int p1)] ∧ Z.Warmed39 U.vm ∧ U.heap = h0) (fun _ _ _ _ _ => True) (fun _ U o U' => ∃ v L, o = .returned v ∧ own_Q0 n0 v U'.heap L ∧ FrameEnd U o U' L room_1.cells room_1.slots) := by
  refine MetFree.of_bodySF (plainFor_of_name pn_com_example_featherstar_featherstar_condition_OperatorTakesOperandPinLaw) hisR ?_
  intro p e s m args below meth c s₁ Bd hml0 hP hK
  obtain ⟨rfl, hZ, hh⟩ := hP
  have hx := Bd.exec
  have hby := Bd.bytes
  have hml : c.maxLocals = 7 := hml0
  have hown : s.vm.findClass "com/example/featherstar/featherstar/condition/OperatorTakesOperandPinLaw" = some m.cls := findClass_of_methodNamed Bd.named
  have hnm := (name_of_methodNamed Bd.named Bd.method).1
  have X0 : Stand p l e room_1 s m #[(.int p1)] below meth c s₁ [] 0 0 := Stand.of_body Bd
  have e0 : s₁.heap = h0 := by rw [← hh, Bd.state]; rfl
  have N0 := Fr.nil n0
  refine own_enter (ef_0_I m p1) ?_
  refine own_fill p1 X0 hx hZ hw hby hml hown e0 N0 Z0 P ?_
  intro T1 h1 L1 k1 b1 X1 e1 E1 N1 V1
  have P1 : Pins Z h1 w := P.ext E1
  have Z1 : n0 ≤ h1.size := Nat.le_trans Z0 E1.1
  refine own_step (W' := T1.setTop (mkF m 98 #[.val (.int p1), .val (.ref b1), .unset, .unset, .unset, .unset, .unset] [])) (fun _ k => XS.astoreN X1.here hx rfl (hb hby at_97) rfl rfl (l' := #[.val (.int p1), .val (.ref b1), .unset, .unset, .unset, .unset, .unset]) rfl k) ?_
  refine own_step (W' := T1.setTop (mkF m 99 #[.val (.int p1), .val (.ref b1), .unset, .unset, .unset, .unset, .unset] [(.int p1)])) (fun _ k => XS.iloadN X1.here hx rfl (hb hby at_98) rfl k) ?_
  refine own_step (W' := T1.setTop (mkF m 101 #[.val (.int p1), .val (.ref b1), .unset, .unset, .unset, .unset, .unset] [(.int (2147483647 : Int32)), (.int p1)])) (fun _ k => X1.ldcInt hx hown (mvT hZ (hw _ (List.mem_of_getElem? (i := 32) rfl))) (g := (mkF m 99 #[.val (.int p1), .val (.ref b1), .unset, .unset, .unset, .unset, .unset] [(.int p1)])) rfl (hb hby at_99) _ k) ?_
  refine own_step (W' := T1.setTop (mkF m 102 #[.val (.int p1), .val (.ref b1), .unset, .unset, .unset, .unset, .unset] [(.int (p1 &&& (2147483647 : Int32)))])) (fun _ k => XS.iand X1.here hx rfl (hb hby at_101) rfl k) ?_
  refine own_step (W' := T1.setTop (mkF m 104 #[.val (.int p1), .val (.ref b1), .unset, .unset, .unset, .unset, .unset] [(.int (14 : Int32)), (.int (p1 &&& (2147483647 : Int32)))])) (fun _ k => XS.bipush X1.here hx rfl (hb hby at_102) k) ?_
  refine own_step (W' := T1.setTop (mkF m 105 #[.val (.int p1), .val (.ref b1), .unset, .unset, .unset, .unset, .unset] [(.int ((p1 &&& (2147483647 : Int32)) % (14 : Int32)))])) (fun _ k => iremM X1 hx rfl (hb hby at_104) rfl (by decide) k) ?_
  rw [hk]
  refine own_step (W' := T1.setTop (mkF m 106 #[.val (.int p1), .val (.ref b1), .val (.int (9 : Int32)), .unset, .unset, .unset, .unset] [])) (fun _ k => XS.istoreN X1.here hx rfl (hb hby at_105) rfl (l' := #[.val (.int p1), .val (.ref b1), .val (.int (9 : Int32)), .unset, .unset, .unset, .unset]) rfl k) ?_
  refine own_step (W' := T1.setTop (mkF m 107 #[.val (.int p1), .val (.ref b1), .val (.int (9 : Int32)), .unset, .unset, .unset, .unset] [(.ref b1)])) (fun _ k => XS.aloadN X1.here hx rfl (hb hby at_106) rfl rfl k) ?_
  refine own_step (W' := T1.setTop (mkF m 108 #[.val (.int p1), .val (.ref b1), .val (.int (9 : Int32)), .unset, .unset, .unset, .unset] [(.int (9 : Int32)), (.ref b1)])) (fun _ k => XS.iloadN X1.here hx rfl (hb hby at_107) rfl k) ?_
  refine own_step (W' := T1.setTop (mkF m 109 #[.val (.int p1), .val (.ref b1), .val (.int (9 : Int32)), .unset, .unset, .unset, .unset] [(.ref (w 9))])) (fun _ k => own_ldR X1 hx hZ e1 V1 (j := (9 : Int32)) (v := (.ref (w 9))) ⟨by decide, by decide⟩ rfl (g := (mkF m 108 #[.val (.int p1), .val (.ref b1), .val (.int (9 : Int32)), .unset, .unset, .unset, .unset] [(.int (9 : Int32)), (.ref b1)])) rfl rfl (hb hby at_108) _ k) ?_
  refine own_step (W' := T1.setTop (mkF m 110 #[.val (.int p1), .val (.ref b1), .val (.int (9 : Int32)), .val (.ref (w 9)), .unset, .unset, .unset] [])) (fun _ k => XS.astoreN X1.here hx rfl (hb hby at_109) rfl rfl (l' := #[.val (.int p1), .val (.ref b1), .val (.int (9 : Int32)), .val (.ref (w 9)), .unset, .unset, .unset]) rfl k) ?_
  refine own_step (W' := T1.setTop (mkF m 111 #[.val (.int p1), .val (.ref b1), .val (.int (9 : Int32)), .val (.ref (w 9)), .unset, .unset, .unset] [(.int (9 : Int32))])) (fun _ k => XS.iloadN X1.here hx rfl (hb hby at_110) rfl k) ?_
  refine own_step (W' := T1.setTop (mkF m 113 #[.val (.int p1), .val (.ref b1), .val (.int (9 : Int32)), .val (.ref (w 9)), .unset, .unset, .unset] [(.int (13 : Int32)), (.int (9 : Int32))])) (fun _ k => XS.bipush X1.here hx rfl (hb hby at_111) k) ?_
  refine own_step (W' := T1.setTop (mkF m 116 #[.val (.int p1), .val (.ref b1), .val (.int (9 : Int32)), .val (.ref (w 9)), .unset, .unset, .unset] [])) (fun _ k => XS.icmpNo X1.here hx rfl (hb hby at_113) rfl (by decide) k) ?_
  refine own_step (W' := T1.setTop (mkF m 117 #[.val (.int p1), .val (.ref b1), .val (.int (9 : Int32)), .val (.ref (w 9)), .unset, .unset, .unset] [(.int (1 : Int32))])) (fun _ k => XS.iconst X1.here hx rfl (hb hby at_116) k) ?_
  refine own_step (W' := T1.setTop (mkF m 121 #[.val (.int p1), .val (.ref b1), .val (.int (9 : Int32)), .val (.ref (w 9)), .unset, .unset, .unset] [(.int (1 : Int32))])) (fun _ k => XS.goto X1.here hx rfl (pc0 := 117) (pc' := 121) rfl (hb hby at_117) (by decide) (by decide) k) ?_
  refine own_step (W' := T1.setTop (mkF m 123 #[.val (.int p1), .val (.ref b1), .val (.int (9 : Int32)), .val (.ref (w 9)), .val (.int (1 : Int32)), .unset, .unset] [])) (fun _ k => XS.istore X1.here hx rfl (hb hby at_121) rfl (l' := #[.val (.int p1), .val (.ref b1), .val (.int (9 : Int32)), .val (.ref (w 9)), .val (.int (1 : Int32)), .unset, .unset]) rfl k) ?_
  refine own_step (W' := T1.setTop (mkF m 124 #[.val (.int p1), .val (.ref b1), .val (.int (9 : Int32)), .val (.ref (w 9)), .val (.int (1 : Int32)), .unset, .unset] [(.ref (w 9))])) (fun _ k => XS.aloadN X1.here hx rfl (hb hby at_123) rfl rfl k) ?_
  obtain ⟨cq2, kq2, q2a, q2b, q2c⟩ := isOf hZ e1 (pin_E9 P1)
  obtain ⟨_, _, ⟨T2, L2, k2, n2⟩, -, X2, ⟨Lc2, hQ2, l2, y2, z2⟩, st2⟩ := X1.virtualBack hx (y := (⟨"com/example/featherstar/featherstar/condition/Operator", "takesOperand", "()Z"⟩ : MethodName)) (z := (⟨"com/example/featherstar/featherstar/condition/Operator", "takesOperand", "()Z"⟩ : MethodName)) hown (mvT hZ (hw _ (List.mem_of_getElem? (i := 33) rfl))) (mvT hZ (hw _ (List.mem_of_getElem? (i := 34) rfl))) (notFace_of_selects (args := #[]) (mvT hZ (hw _ (List.mem_of_getElem? (i := 36) rfl)))) (mvT hZ (hw _ (List.mem_of_getElem? (i := 36) rfl))) (mvT hZ (hw _ (List.mem_of_getElem? (i := 35) rfl))) (by decide) (backOf (W := 0) (rm1_w9 l Z a0 hw [] w h1 n0 Z1 P1) hZ (hw _ (List.mem_of_getElem? (i := 37) rfl)) (hw _ (List.mem_of_getElem? (i := 3) rfl)) (by decide) (by decide)) q2a q2c (g := (mkF m 124 #[.val (.int p1), .val (.ref b1), .val (.int (9 : Int32)), .val (.ref (w 9)), .val (.int (1 : Int32)), .unset, .unset] [(.ref (w 9))])) rfl (by rw [hml]; rfl) (Steps.refl _) (argsL := []) (rest := []) (lenOf pd_0 rfl) rfl (by show 2 * 0 + _ ≤ _; exact Nat.le_of_eq rfl) (hb hby at_124) (fun _ _ => ⟨rfl, e1, (by decide : 1 + 0 ≤ _), (by decide : 14 + 0 ≤ _)⟩)
  dsimp only [Pt.U, Pt.locs, Pt.cells, Pt.slots] at X2 l2 y2 z2 st2 hQ2
  subst l2 y2 z2
  obtain ⟨rfl, N2q, e2⟩ := hQ2
  have N2 := Fr.app N1 N2q
  refine own_step (W' := T2.setTop (mkF m 127 #[.val (.int p1), .val (.ref b1), .val (.int (9 : Int32)), .val (.ref (w 9)), .val (.int (1 : Int32)), .unset, .unset] [(.int (1 : Int32))])) (fun _ k => st2.trans k) ?_
  refine own_step (W' := T2.setTop (mkF m 129 #[.val (.int p1), .val (.ref b1), .val (.int (9 : Int32)), .val (.ref (w 9)), .val (.int (1 : Int32)), .val (.int (1 : Int32)), .unset] [])) (fun _ k => XS.istore X2.here hx rfl (hb hby at_127) rfl (l' := #[.val (.int p1), .val (.ref b1), .val (.int (9 : Int32)), .val (.ref (w 9)), .val (.int (1 : Int32)), .val (.int (1 : Int32)), .unset]) rfl k) ?_
  refine own_step (W' := T2.setTop (mkF m 130 #[.val (.int p1), .val (.ref b1), .val (.int (9 : Int32)), .val (.ref (w 9)), .val (.int (1 : Int32)), .val (.int (1 : Int32)), .unset] [(.ref (w 9))])) (fun _ k => XS.aloadN X2.here hx rfl (hb hby at_129) rfl rfl k) ?_
  obtain ⟨cq3, kq3, q3a, q3b, q3c⟩ := isOf hZ e2 (pin_E9 P1)
  obtain ⟨_, _, ⟨T3, L3, k3, n3⟩, -, X3, ⟨Lc3, hQ3, l3, y3, z3⟩, st3⟩ := X2.virtualBack hx (y := (⟨"com/example/featherstar/featherstar/condition/Operator", "positive", "()Lcom/example/featherstar/featherstar/condition/Operator;"⟩ : MethodName)) (z := (⟨"com/example/featherstar/featherstar/condition/Operator", "positive", "()Lcom/example/featherstar/featherstar/condition/Operator;"⟩ : MethodName)) hown (mvT hZ (hw _ (List.mem_of_getElem? (i := 39) rfl))) (mvT hZ (hw _ (List.mem_of_getElem? (i := 40) rfl))) (notFace_of_selects (args := #[]) (mvT hZ (hw _ (List.mem_of_getElem? (i := 42) rfl)))) (mvT hZ (hw _ (List.mem_of_getElem? (i := 42) rfl))) (mvT hZ (hw _ (List.mem_of_getElem? (i := 41) rfl))) (by decide) (backOf (W := 0) (rm2_w9 l Z a0 hw [] w h1 n0 Z1 P1) hZ (hw _ (List.mem_of_getElem? (i := 43) rfl)) (hw _ (List.mem_of_getElem? (i := 3) rfl)) (by decide) (by decide)) q3a q3c (g := (mkF m 130 #[.val (.int p1), .val (.ref b1), .val (.int (9 : Int32)), .val (.ref (w 9)), .val (.int (1 : Int32)), .val (.int (1 : Int32)), .unset] [(.ref (w 9))])) rfl (by rw [hml]; rfl) (Steps.refl _) (argsL := []) (rest := []) (lenOf pd_1 rfl) rfl (by show 2 * 0 + _ ≤ _; exact Nat.le_of_eq rfl) (hb hby at_130) (fun _ _ => ⟨rfl, e2, (by decide : 1 + 0 ≤ _), (by decide : 14 + 0 ≤ _)⟩)
  dsimp only [Pt.U, Pt.locs, Pt.cells, Pt.slots] at X3 l3 y3 z3 st3 hQ3
  subst l3 y3 z3
  obtain ⟨rfl, N3q, e3⟩ := hQ3
  have N3 := Fr.app N2 N3q
  refine own_step (W' := T3.setTop (mkF m 133 #[.val (.int p1), .val (.ref b1), .val (.int (9 : Int32)), .val (.ref (w 9)), .val (.int (1 : Int32)), .val (.int (1 : Int32)), .unset] [(.ref (w 8))])) (fun _ k => st3.trans k) ?_
  obtain ⟨cq4, kq4, q4a, q4b, q4c⟩ := isOf hZ e3 (pin_E8 P1)
  obtain ⟨_, _, ⟨T4, L4, k4, n4⟩, -, X4, ⟨Lc4, hQ4, l4, y4, z4⟩, st4⟩ := X3.virtualBack hx (y := (⟨"com/example/featherstar/featherstar/condition/Operator", "takesOperand", "()Z"⟩ : MethodName)) (z := (⟨"com/example/featherstar/featherstar/condition/Operator", "takesOperand", "()Z"⟩ : MethodName)) hown (mvT hZ (hw _ (List.mem_of_getElem? (i := 33) rfl))) (mvT hZ (hw _ (List.mem_of_getElem? (i := 34) rfl))) (notFace_of_selects (args := #[]) (mvT hZ (hw _ (List.mem_of_getElem? (i := 36) rfl)))) (mvT hZ (hw _ (List.mem_of_getElem? (i := 36) rfl))) (mvT hZ (hw _ (List.mem_of_getElem? (i := 35) rfl))) (by decide) (backOf (W := 0) (rm1_w8 l Z a0 hw [] w h1 n0 Z1 P1) hZ (hw _ (List.mem_of_getElem? (i := 37) rfl)) (hw _ (List.mem_of_getElem? (i := 3) rfl)) (by decide) (by decide)) q4a q4c (g := (mkF m 133 #[.val (.int p1), .val (.ref b1), .val (.int (9 : Int32)), .val (.ref (w 9)), .val (.int (1 : Int32)), .val (.int (1 : Int32)), .unset] [(.ref (w 8))])) rfl (by rw [hml]; rfl) (Steps.refl _) (argsL := []) (rest := []) (lenOf pd_0 rfl) rfl (by show 2 * 0 + _ ≤ _; exact Nat.le_of_eq rfl) (hb hby at_133) (fun _ _ => ⟨rfl, e3, (by decide : 1 + 0 ≤ _), (by decide : 14 + 0 ≤ _)⟩)
  dsimp only [Pt.U, Pt.locs, Pt.cells, Pt.slots] at X4 l4 y4 z4 st4 hQ4
  subst l4 y4 z4
  obtain ⟨rfl, N4q, e4⟩ := hQ4
  have N4 := Fr.app N3 N4q
  refine own_step (W' := T4.setTop (mkF m 136 #[.val (.int p1), .val (.ref b1), .val (.int (9 : Int32)), .val (.ref (w 9)), .val (.int (1 : Int32)), .val (.int (1 : Int32)), .unset] [(.int (1 : Int32))])) (fun _ k => st4.trans k) ?_
  refine own_step (W' := T4.setTop (mkF m 138 #[.val (.int p1), .val (.ref b1), .val (.int (9 : Int32)), .val (.ref (w 9)), .val (.int (1 : Int32)), .val (.int (1 : Int32)), .val (.int (1 : Int32))] [])) (fun _ k => XS.istore X4.here hx rfl (hb hby at_136) rfl (l' := #[.val (.int p1), .val (.ref b1), .val (.int (9 : Int32)), .val (.ref (w 9)), .val (.int (1 : Int32)), .val (.int (1 : Int32)), .val (.int (1 : Int32))]) rfl k) ?_
  refine own_step (W' := T4.setTop (mkF m 140 #[.val (.int p1), .val (.ref b1), .val (.int (9 : Int32)), .val (.ref (w 9)), .val (.int (1 : Int32)), .val (.int (1 : Int32)), .val (.int (1 : Int32))] [(.int (1 : Int32))])) (fun _ k => XS.iload X4.here hx rfl (hb hby at_138) rfl k) ?_
  refine own_step (W' := T4.setTop (mkF m 142 #[.val (.int p1), .val (.ref b1), .val (.int (9 : Int32)), .val (.ref (w 9)), .val (.int (1 : Int32)), .val (.int (1 : Int32)), .val (.int (1 : Int32))] [(.int (1 : Int32)), (.int (1 : Int32))])) (fun _ k => XS.iload X4.here hx rfl (hb hby at_140) rfl k) ?_
  refine own_step (W' := T4.setTop (mkF m 145 #[.val (.int p1), .val (.ref b1), .val (.int (9 : Int32)), .val (.ref (w 9)), .val (.int (1 : Int32)), .val (.int (1 : Int32)), .val (.int (1 : Int32))] [])) (fun _ k => XS.icmpNo X4.here hx rfl (hb hby at_142) rfl (by decide) k) ?_
  refine own_step (W' := T4.setTop (mkF m 147 #[.val (.int p1), .val (.ref b1), .val (.int (9 : Int32)), .val (.ref (w 9)), .val (.int (1 : Int32)), .val (.int (1 : Int32)), .val (.int (1 : Int32))] [(.int (1 : Int32))])) (fun _ k => XS.iload X4.here hx rfl (hb hby at_145) rfl k) ?_
  refine own_step (W' := T4.setTop (mkF m 149 #[.val (.int p1), .val (.ref b1), .val (.int (9 : Int32)), .val (.ref (w 9)), .val (.int (1 : Int32)), .val (.int (1 : Int32)), .val (.int (1 : Int32))] [(.int (1 : Int32)), (.int (1 : Int32))])) (fun _ k => XS.iload X4.here hx rfl (hb hby at_147) rfl k) ?_
  refine own_step (W' := T4.setTop (mkF m 152 #[.val (.int p1), .val (.ref b1), .val (.int (9 : Int32)), .val (.ref (w 9)), .val (.int (1 : Int32)), .val (.int (1 : Int32)), .val (.int (1 : Int32))] [])) (fun _ k => XS.icmpNo X4.here hx rfl (hb hby at_149) rfl (by decide) k) ?_
  refine own_step (W' := T4.setTop (mkF m 153 #[.val (.int p1), .val (.ref b1), .val (.int (9 : Int32)), .val (.ref (w 9)), .val (.int (1 : Int32)), .val (.int (1 : Int32)), .val (.int (1 : Int32))] [(.int (1 : Int32))])) (fun _ k => XS.iconst X4.here hx rfl (hb hby at_152) k) ?_
  refine own_step (W' := T4.setTop (mkF m 157 #[.val (.int p1), .val (.ref b1), .val (.int (9 : Int32)), .val (.ref (w 9)), .val (.int (1 : Int32)), .val (.int (1 : Int32)), .val (.int (1 : Int32))] [(.int (1 : Int32))])) (fun _ k => XS.goto X4.here hx rfl (pc0 := 153) (pc' := 157) rfl (hb hby at_153) (by decide) (by decide) k) ?_
  exact own_ret X4 Bd.notSynchronized Bd.returns (v := (.int (1 : Int32))) (fun fs hr => retN X4 hx (t := .boolean) Bd.returns (by simp) (hb hby at_157) hr) ⟨rfl, N4⟩ (by decide) (by decide)
set_option maxRecDepth 65536 in
set_option maxHeartbeats 40000000 in
theorem rm1_w10 (l : Launch) (Z : State) (a0 : Array Value) (hw : ∀ d ∈ tables_1, d.before a0 Z = true) (ws : List Jvm.Cond) (w : Nat → Addr) (h0 : Heap) (n0 : Nat) (Z0 : n0 ≤ h0.size) (P : Pins Z h0 w) :
    MetFree l (⟨"com/example/featherstar/featherstar/condition/Operator", "takesOperand", "()Z"⟩ : MethodName) (head1 (Jvm.Cond.code (⟨"com/example/featherstar/featherstar/condition/Operator", "takesOperand", "()Z"⟩ : MethodName) prog_13_method_6_code 1 (some .boolean) :: ws) ({ frames := 0, cells := 0, slots := 0, locals := 0 } : Room)) (fun aA U => aA = #[(.ref (w 10))] ∧ Z.Warmed39 U.vm ∧ U.heap = h0) (fun _ _ _ _ _ => True) (fun _ U o U' => ∃ v L, o = .returned v ∧ own_QK (some (.int (1 : Int32))) h0 n0 v U'.heap L ∧ FrameEnd U o U' L ({ frames := 0, cells := 0, slots := 0, locals := 0 } : Room).cells ({ frames := 0, cells := 0, slots := 0, locals := 0 } : Room).slots) := by
  refine MetFree.of_bodySF (plainFor_of_name pn_com_example_featherstar_featherstar_condition_Operator) hisR ?_
  intro p e s m args below meth c s₁ Bd hml0 hP hK
  obtain ⟨rfl, hZ, hh⟩ := hP
  have hx := Bd.exec
  have hby := Bd.bytes
  have hml : c.maxLocals = 1 := hml0
  have hown : s.vm.findClass "com/example/featherstar/featherstar/condition/Operator" = some m.cls := findClass_of_methodNamed Bd.named
  have hnm := (name_of_methodNamed Bd.named Bd.method).1
  have X0 : Stand p l e ({ frames := 0, cells := 0, slots := 0, locals := 0 } : Room) s m #[(.ref (w 10))] below meth c s₁ [] 0 0 := Stand.of_body Bd
  have e0 : s₁.heap = h0 := by rw [← hh, Bd.state]; rfl
  have N0 := Fr.nil n0
  refine own_enter (ef_1_R m (w 10)) ?_
  refine own_step (W' := s₁.setTop (mkF m 1 #[.val (.ref (w 10))] [(.ref (w 10))])) (fun _ k => XS.aloadN X0.here hx rfl (hb hby d1_0) rfl rfl k) ?_
  obtain ⟨T1, X1, e1, st1⟩ := getS2 X0 hx hZ hown (host := "") (Or.inl (hw _ (List.mem_of_getElem? (i := 38) rfl))) Via.refl e0 (pin_S13 P) (g := (mkF m 1 #[.val (.ref (w 10))] [(.ref (w 10))])) rfl (hb hby d1_1)
  refine own_step (W' := T1.setTop (mkF m 4 #[.val (.ref (w 10))] [(.ref (w 13)), (.ref (w 10))])) (fun _ k => st1 _ k) ?_
  refine own_step (W' := T1.setTop (mkF m 7 #[.val (.ref (w 10))] [])) (fun _ k => Jvm.RoadKit.acmp (g := (mkF m 4 #[.val (.ref (w 10))] [(.ref (w 13)), (.ref (w 10))])) X1 hx rfl rfl rfl (pc0 := 4) (pc' := 7) (same := false) rfl (hb hby d1_4) rfl (decide_eq_false fun q => (Fld.ne (pin_F10_ordinal P) (pin_F13_ordinal P) (by decide)) (Value.ref.inj q)) (by decide) (by decide) k) ?_
  refine own_step (W' := T1.setTop (mkF m 8 #[.val (.ref (w 10))] [(.int (1 : Int32))])) (fun _ k => XS.iconst X1.here hx rfl (hb hby d1_7) k) ?_
  refine own_step (W' := T1.setTop (mkF m 12 #[.val (.ref (w 10))] [(.int (1 : Int32))])) (fun _ k => XS.goto X1.here hx rfl (pc0 := 8) (pc' := 12) rfl (hb hby d1_8) (by decide) (by decide) k) ?_
  exact own_ret X1 Bd.notSynchronized Bd.returns (v := (.int (1 : Int32))) (fun fs hr => retN X1 hx (t := .boolean) Bd.returns (by simp) (hb hby d1_12) hr) ⟨rfl, N0, e1⟩ (by decide) (by decide)
set_option maxRecDepth 65536 in
set_option maxHeartbeats 40000000 in
theorem rm2_w10 (l : Launch) (Z : State) (a0 : Array Value) (hw : ∀ d ∈ tables_1, d.before a0 Z = true) (ws : List Jvm.Cond) (w : Nat → Addr) (h0 : Heap) (n0 : Nat) (Z0 : n0 ≤ h0.size) (P : Pins Z h0 w) :
    MetFree l (⟨"com/example/featherstar/featherstar/condition/Operator", "positive", "()Lcom/example/featherstar/featherstar/condition/Operator;"⟩ : MethodName) (head1 (Jvm.Cond.code (⟨"com/example/featherstar/featherstar/condition/Operator", "positive", "()Lcom/example/featherstar/featherstar/condition/Operator;"⟩ : MethodName) prog_13_method_8_code 1 (some (.object "com/example/featherstar/featherstar/condition/Operator")) :: ws) ({ frames := 0, cells := 0, slots := 0, locals := 0 } : Room)) (fun aA U => aA = #[(.ref (w 10))] ∧ Z.Warmed39 U.vm ∧ U.heap = h0) (fun _ _ _ _ _ => True) (fun _ U o U' => ∃ v L, o = .returned v ∧ own_QK (some (.ref (w 10))) h0 n0 v U'.heap L ∧ FrameEnd U o U' L ({ frames := 0, cells := 0, slots := 0, locals := 0 } : Room).cells ({ frames := 0, cells := 0, slots := 0, locals := 0 } : Room).slots) := by
  refine MetFree.of_bodySF (plainFor_of_name pn_com_example_featherstar_featherstar_condition_Operator) hisR ?_
  intro p e s m args below meth c s₁ Bd hml0 hP hK
  obtain ⟨rfl, hZ, hh⟩ := hP
  have hx := Bd.exec
  have hby := Bd.bytes
  have hml : c.maxLocals = 1 := hml0
  have hown : s.vm.findClass "com/example/featherstar/featherstar/condition/Operator" = some m.cls := findClass_of_methodNamed Bd.named
  have hnm := (name_of_methodNamed Bd.named Bd.method).1
  have X0 : Stand p l e ({ frames := 0, cells := 0, slots := 0, locals := 0 } : Room) s m #[(.ref (w 10))] below meth c s₁ [] 0 0 := Stand.of_body Bd
  have e0 : s₁.heap = h0 := by rw [← hh, Bd.state]; rfl
  have N0 := Fr.nil n0
  refine own_enter (ef_2_R m (w 10)) ?_
  refine own_step (W' := s₁.setTop (mkF m 1 #[.val (.ref (w 10))] [(.ref (w 10))])) (fun _ k => XS.aloadN X0.here hx rfl (hb hby d2_0) rfl rfl k) ?_
  obtain ⟨T1, X1, e1, st1⟩ := getF X0 hx hZ hown (host := "") (Or.inl (hw _ (List.mem_of_getElem? (i := 44) rfl))) Via.refl e0 (pin_F10_negated P) (g := (mkF m 1 #[.val (.ref (w 10))] [(.ref (w 10))])) rfl rfl (hb hby d2_1)
  refine own_step (W' := T1.setTop (mkF m 4 #[.val (.ref (w 10))] [.null])) (fun _ k => st1 _ k) ?_
  refine own_step (W' := T1.setTop (mkF m 7 #[.val (.ref (w 10))] [])) (fun _ k => XS.ifnonnullNo X1.here hx rfl (hb hby d2_4) rfl k) ?_
  refine own_step (W' := T1.setTop (mkF m 8 #[.val (.ref (w 10))] [(.ref (w 10))])) (fun _ k => XS.aloadN X1.here hx rfl (hb hby d2_7) rfl rfl k) ?_
  refine own_step (W' := T1.setTop (mkF m 15 #[.val (.ref (w 10))] [(.ref (w 10))])) (fun _ k => XS.goto X1.here hx rfl (pc0 := 8) (pc' := 15) rfl (hb hby d2_8) (by decide) (by decide) k) ?_
  exact own_ret X1 Bd.notSynchronized Bd.returns (v := (.ref (w 10))) (fun fs hr => retOut X1 hx Bd.returns rfl (Or.inr (Or.inr (Or.inr (Or.inr ⟨rfl, rfl, rfl⟩)))) (hb hby d2_15) hr) ⟨rfl, N0, e1⟩ (by decide) (by decide)
set_option maxRecDepth 65536 in
set_option maxHeartbeats 40000000 in
theorem rm0_10 (l : Launch) (Z : State) (a0 : Array Value) (hw : ∀ d ∈ tables_1, d.before a0 Z = true) (ws : List Jvm.Cond) (p1 : Int32) (hk : ((p1 &&& (2147483647 : Int32)) % (14 : Int32)) = (10 : Int32)) (w : Nat → Addr) (h0 : Heap) (n0 : Nat) (Z0 : n0 ≤ h0.size) (P : Pins Z h0 w) :
    MetFree l x (head1 (Jvm.Cond.code x code maxLocals ret :: ws) room_1) (fun aA U => aA = #[(.int p1)] ∧ Z.Warmed39 U.vm ∧ U.heap = h0) (fun _ _ _ _ _ => True) (fun _ U o U' => ∃ v L, o = .returned v ∧ own_Q0 n0 v U'.heap L ∧ FrameEnd U o U' L room_1.cells room_1.slots) := by
  refine MetFree.of_bodySF (plainFor_of_name pn_com_example_featherstar_featherstar_condition_OperatorTakesOperandPinLaw) hisR ?_
  intro p e s m args below meth c s₁ Bd hml0 hP hK
  obtain ⟨rfl, hZ, hh⟩ := hP
  have hx := Bd.exec
  have hby := Bd.bytes
  have hml : c.maxLocals = 7 := hml0
  have hown : s.vm.findClass "com/example/featherstar/featherstar/condition/OperatorTakesOperandPinLaw" = some m.cls := findClass_of_methodNamed Bd.named
  have hnm := (name_of_methodNamed Bd.named Bd.method).1
  have X0 : Stand p l e room_1 s m #[(.int p1)] below meth c s₁ [] 0 0 := Stand.of_body Bd
  have e0 : s₁.heap = h0 := by rw [← hh, Bd.state]; rfl
  have N0 := Fr.nil n0
  refine own_enter (ef_0_I m p1) ?_
  refine own_fill p1 X0 hx hZ hw hby hml hown e0 N0 Z0 P ?_
  intro T1 h1 L1 k1 b1 X1 e1 E1 N1 V1
  have P1 : Pins Z h1 w := P.ext E1
  have Z1 : n0 ≤ h1.size := Nat.le_trans Z0 E1.1
  refine own_step (W' := T1.setTop (mkF m 98 #[.val (.int p1), .val (.ref b1), .unset, .unset, .unset, .unset, .unset] [])) (fun _ k => XS.astoreN X1.here hx rfl (hb hby at_97) rfl rfl (l' := #[.val (.int p1), .val (.ref b1), .unset, .unset, .unset, .unset, .unset]) rfl k) ?_
  refine own_step (W' := T1.setTop (mkF m 99 #[.val (.int p1), .val (.ref b1), .unset, .unset, .unset, .unset, .unset] [(.int p1)])) (fun _ k => XS.iloadN X1.here hx rfl (hb hby at_98) rfl k) ?_
  refine own_step (W' := T1.setTop (mkF m 101 #[.val (.int p1), .val (.ref b1), .unset, .unset, .unset, .unset, .unset] [(.int (2147483647 : Int32)), (.int p1)])) (fun _ k => X1.ldcInt hx hown (mvT hZ (hw _ (List.mem_of_getElem? (i := 32) rfl))) (g := (mkF m 99 #[.val (.int p1), .val (.ref b1), .unset, .unset, .unset, .unset, .unset] [(.int p1)])) rfl (hb hby at_99) _ k) ?_
  refine own_step (W' := T1.setTop (mkF m 102 #[.val (.int p1), .val (.ref b1), .unset, .unset, .unset, .unset, .unset] [(.int (p1 &&& (2147483647 : Int32)))])) (fun _ k => XS.iand X1.here hx rfl (hb hby at_101) rfl k) ?_
  refine own_step (W' := T1.setTop (mkF m 104 #[.val (.int p1), .val (.ref b1), .unset, .unset, .unset, .unset, .unset] [(.int (14 : Int32)), (.int (p1 &&& (2147483647 : Int32)))])) (fun _ k => XS.bipush X1.here hx rfl (hb hby at_102) k) ?_
  refine own_step (W' := T1.setTop (mkF m 105 #[.val (.int p1), .val (.ref b1), .unset, .unset, .unset, .unset, .unset] [(.int ((p1 &&& (2147483647 : Int32)) % (14 : Int32)))])) (fun _ k => iremM X1 hx rfl (hb hby at_104) rfl (by decide) k) ?_
  rw [hk]
  refine own_step (W' := T1.setTop (mkF m 106 #[.val (.int p1), .val (.ref b1), .val (.int (10 : Int32)), .unset, .unset, .unset, .unset] [])) (fun _ k => XS.istoreN X1.here hx rfl (hb hby at_105) rfl (l' := #[.val (.int p1), .val (.ref b1), .val (.int (10 : Int32)), .unset, .unset, .unset, .unset]) rfl k) ?_
  refine own_step (W' := T1.setTop (mkF m 107 #[.val (.int p1), .val (.ref b1), .val (.int (10 : Int32)), .unset, .unset, .unset, .unset] [(.ref b1)])) (fun _ k => XS.aloadN X1.here hx rfl (hb hby at_106) rfl rfl k) ?_
  refine own_step (W' := T1.setTop (mkF m 108 #[.val (.int p1), .val (.ref b1), .val (.int (10 : Int32)), .unset, .unset, .unset, .unset] [(.int (10 : Int32)), (.ref b1)])) (fun _ k => XS.iloadN X1.here hx rfl (hb hby at_107) rfl k) ?_
  refine own_step (W' := T1.setTop (mkF m 109 #[.val (.int p1), .val (.ref b1), .val (.int (10 : Int32)), .unset, .unset, .unset, .unset] [(.ref (w 10))])) (fun _ k => own_ldR X1 hx hZ e1 V1 (j := (10 : Int32)) (v := (.ref (w 10))) ⟨by decide, by decide⟩ rfl (g := (mkF m 108 #[.val (.int p1), .val (.ref b1), .val (.int (10 : Int32)), .unset, .unset, .unset, .unset] [(.int (10 : Int32)), (.ref b1)])) rfl rfl (hb hby at_108) _ k) ?_
  refine own_step (W' := T1.setTop (mkF m 110 #[.val (.int p1), .val (.ref b1), .val (.int (10 : Int32)), .val (.ref (w 10)), .unset, .unset, .unset] [])) (fun _ k => XS.astoreN X1.here hx rfl (hb hby at_109) rfl rfl (l' := #[.val (.int p1), .val (.ref b1), .val (.int (10 : Int32)), .val (.ref (w 10)), .unset, .unset, .unset]) rfl k) ?_
  refine own_step (W' := T1.setTop (mkF m 111 #[.val (.int p1), .val (.ref b1), .val (.int (10 : Int32)), .val (.ref (w 10)), .unset, .unset, .unset] [(.int (10 : Int32))])) (fun _ k => XS.iloadN X1.here hx rfl (hb hby at_110) rfl k) ?_
  refine own_step (W' := T1.setTop (mkF m 113 #[.val (.int p1), .val (.ref b1), .val (.int (10 : Int32)), .val (.ref (w 10)), .unset, .unset, .unset] [(.int (13 : Int32)), (.int (10 : Int32))])) (fun _ k => XS.bipush X1.here hx rfl (hb hby at_111) k) ?_
  refine own_step (W' := T1.setTop (mkF m 116 #[.val (.int p1), .val (.ref b1), .val (.int (10 : Int32)), .val (.ref (w 10)), .unset, .unset, .unset] [])) (fun _ k => XS.icmpNo X1.here hx rfl (hb hby at_113) rfl (by decide) k) ?_
  refine own_step (W' := T1.setTop (mkF m 117 #[.val (.int p1), .val (.ref b1), .val (.int (10 : Int32)), .val (.ref (w 10)), .unset, .unset, .unset] [(.int (1 : Int32))])) (fun _ k => XS.iconst X1.here hx rfl (hb hby at_116) k) ?_
  refine own_step (W' := T1.setTop (mkF m 121 #[.val (.int p1), .val (.ref b1), .val (.int (10 : Int32)), .val (.ref (w 10)), .unset, .unset, .unset] [(.int (1 : Int32))])) (fun _ k => XS.goto X1.here hx rfl (pc0 := 117) (pc' := 121) rfl (hb hby at_117) (by decide) (by decide) k) ?_
  refine own_step (W' := T1.setTop (mkF m 123 #[.val (.int p1), .val (.ref b1), .val (.int (10 : Int32)), .val (.ref (w 10)), .val (.int (1 : Int32)), .unset, .unset] [])) (fun _ k => XS.istore X1.here hx rfl (hb hby at_121) rfl (l' := #[.val (.int p1), .val (.ref b1), .val (.int (10 : Int32)), .val (.ref (w 10)), .val (.int (1 : Int32)), .unset, .unset]) rfl k) ?_
  refine own_step (W' := T1.setTop (mkF m 124 #[.val (.int p1), .val (.ref b1), .val (.int (10 : Int32)), .val (.ref (w 10)), .val (.int (1 : Int32)), .unset, .unset] [(.ref (w 10))])) (fun _ k => XS.aloadN X1.here hx rfl (hb hby at_123) rfl rfl k) ?_
  obtain ⟨cq2, kq2, q2a, q2b, q2c⟩ := isOf hZ e1 (pin_E10 P1)
  obtain ⟨_, _, ⟨T2, L2, k2, n2⟩, -, X2, ⟨Lc2, hQ2, l2, y2, z2⟩, st2⟩ := X1.virtualBack hx (y := (⟨"com/example/featherstar/featherstar/condition/Operator", "takesOperand", "()Z"⟩ : MethodName)) (z := (⟨"com/example/featherstar/featherstar/condition/Operator", "takesOperand", "()Z"⟩ : MethodName)) hown (mvT hZ (hw _ (List.mem_of_getElem? (i := 33) rfl))) (mvT hZ (hw _ (List.mem_of_getElem? (i := 34) rfl))) (notFace_of_selects (args := #[]) (mvT hZ (hw _ (List.mem_of_getElem? (i := 36) rfl)))) (mvT hZ (hw _ (List.mem_of_getElem? (i := 36) rfl))) (mvT hZ (hw _ (List.mem_of_getElem? (i := 35) rfl))) (by decide) (backOf (W := 0) (rm1_w10 l Z a0 hw [] w h1 n0 Z1 P1) hZ (hw _ (List.mem_of_getElem? (i := 37) rfl)) (hw _ (List.mem_of_getElem? (i := 3) rfl)) (by decide) (by decide)) q2a q2c (g := (mkF m 124 #[.val (.int p1), .val (.ref b1), .val (.int (10 : Int32)), .val (.ref (w 10)), .val (.int (1 : Int32)), .unset, .unset] [(.ref (w 10))])) rfl (by rw [hml]; rfl) (Steps.refl _) (argsL := []) (rest := []) (lenOf pd_0 rfl) rfl (by show 2 * 0 + _ ≤ _; exact Nat.le_of_eq rfl) (hb hby at_124) (fun _ _ => ⟨rfl, e1, (by decide : 1 + 0 ≤ _), (by decide : 14 + 0 ≤ _)⟩)
  dsimp only [Pt.U, Pt.locs, Pt.cells, Pt.slots] at X2 l2 y2 z2 st2 hQ2
  subst l2 y2 z2
  obtain ⟨rfl, N2q, e2⟩ := hQ2
  have N2 := Fr.app N1 N2q
  refine own_step (W' := T2.setTop (mkF m 127 #[.val (.int p1), .val (.ref b1), .val (.int (10 : Int32)), .val (.ref (w 10)), .val (.int (1 : Int32)), .unset, .unset] [(.int (1 : Int32))])) (fun _ k => st2.trans k) ?_
  refine own_step (W' := T2.setTop (mkF m 129 #[.val (.int p1), .val (.ref b1), .val (.int (10 : Int32)), .val (.ref (w 10)), .val (.int (1 : Int32)), .val (.int (1 : Int32)), .unset] [])) (fun _ k => XS.istore X2.here hx rfl (hb hby at_127) rfl (l' := #[.val (.int p1), .val (.ref b1), .val (.int (10 : Int32)), .val (.ref (w 10)), .val (.int (1 : Int32)), .val (.int (1 : Int32)), .unset]) rfl k) ?_
  refine own_step (W' := T2.setTop (mkF m 130 #[.val (.int p1), .val (.ref b1), .val (.int (10 : Int32)), .val (.ref (w 10)), .val (.int (1 : Int32)), .val (.int (1 : Int32)), .unset] [(.ref (w 10))])) (fun _ k => XS.aloadN X2.here hx rfl (hb hby at_129) rfl rfl k) ?_
  obtain ⟨cq3, kq3, q3a, q3b, q3c⟩ := isOf hZ e2 (pin_E10 P1)
  obtain ⟨_, _, ⟨T3, L3, k3, n3⟩, -, X3, ⟨Lc3, hQ3, l3, y3, z3⟩, st3⟩ := X2.virtualBack hx (y := (⟨"com/example/featherstar/featherstar/condition/Operator", "positive", "()Lcom/example/featherstar/featherstar/condition/Operator;"⟩ : MethodName)) (z := (⟨"com/example/featherstar/featherstar/condition/Operator", "positive", "()Lcom/example/featherstar/featherstar/condition/Operator;"⟩ : MethodName)) hown (mvT hZ (hw _ (List.mem_of_getElem? (i := 39) rfl))) (mvT hZ (hw _ (List.mem_of_getElem? (i := 40) rfl))) (notFace_of_selects (args := #[]) (mvT hZ (hw _ (List.mem_of_getElem? (i := 42) rfl)))) (mvT hZ (hw _ (List.mem_of_getElem? (i := 42) rfl))) (mvT hZ (hw _ (List.mem_of_getElem? (i := 41) rfl))) (by decide) (backOf (W := 0) (rm2_w10 l Z a0 hw [] w h1 n0 Z1 P1) hZ (hw _ (List.mem_of_getElem? (i := 43) rfl)) (hw _ (List.mem_of_getElem? (i := 3) rfl)) (by decide) (by decide)) q3a q3c (g := (mkF m 130 #[.val (.int p1), .val (.ref b1), .val (.int (10 : Int32)), .val (.ref (w 10)), .val (.int (1 : Int32)), .val (.int (1 : Int32)), .unset] [(.ref (w 10))])) rfl (by rw [hml]; rfl) (Steps.refl _) (argsL := []) (rest := []) (lenOf pd_1 rfl) rfl (by show 2 * 0 + _ ≤ _; exact Nat.le_of_eq rfl) (hb hby at_130) (fun _ _ => ⟨rfl, e2, (by decide : 1 + 0 ≤ _), (by decide : 14 + 0 ≤ _)⟩)
  dsimp only [Pt.U, Pt.locs, Pt.cells, Pt.slots] at X3 l3 y3 z3 st3 hQ3
  subst l3 y3 z3
  obtain ⟨rfl, N3q, e3⟩ := hQ3
  have N3 := Fr.app N2 N3q
  refine own_step (W' := T3.setTop (mkF m 133 #[.val (.int p1), .val (.ref b1), .val (.int (10 : Int32)), .val (.ref (w 10)), .val (.int (1 : Int32)), .val (.int (1 : Int32)), .unset] [(.ref (w 10))])) (fun _ k => st3.trans k) ?_
  obtain ⟨cq4, kq4, q4a, q4b, q4c⟩ := isOf hZ e3 (pin_E10 P1)
  obtain ⟨_, _, ⟨T4, L4, k4, n4⟩, -, X4, ⟨Lc4, hQ4, l4, y4, z4⟩, st4⟩ := X3.virtualBack hx (y := (⟨"com/example/featherstar/featherstar/condition/Operator", "takesOperand", "()Z"⟩ : MethodName)) (z := (⟨"com/example/featherstar/featherstar/condition/Operator", "takesOperand", "()Z"⟩ : MethodName)) hown (mvT hZ (hw _ (List.mem_of_getElem? (i := 33) rfl))) (mvT hZ (hw _ (List.mem_of_getElem? (i := 34) rfl))) (notFace_of_selects (args := #[]) (mvT hZ (hw _ (List.mem_of_getElem? (i := 36) rfl)))) (mvT hZ (hw _ (List.mem_of_getElem? (i := 36) rfl))) (mvT hZ (hw _ (List.mem_of_getElem? (i := 35) rfl))) (by decide) (backOf (W := 0) (rm1_w10 l Z a0 hw [] w h1 n0 Z1 P1) hZ (hw _ (List.mem_of_getElem? (i := 37) rfl)) (hw _ (List.mem_of_getElem? (i := 3) rfl)) (by decide) (by decide)) q4a q4c (g := (mkF m 133 #[.val (.int p1), .val (.ref b1), .val (.int (10 : Int32)), .val (.ref (w 10)), .val (.int (1 : Int32)), .val (.int (1 : Int32)), .unset] [(.ref (w 10))])) rfl (by rw [hml]; rfl) (Steps.refl _) (argsL := []) (rest := []) (lenOf pd_0 rfl) rfl (by show 2 * 0 + _ ≤ _; exact Nat.le_of_eq rfl) (hb hby at_133) (fun _ _ => ⟨rfl, e3, (by decide : 1 + 0 ≤ _), (by decide : 14 + 0 ≤ _)⟩)
  dsimp only [Pt.U, Pt.locs, Pt.cells, Pt.slots] at X4 l4 y4 z4 st4 hQ4
  subst l4 y4 z4
  obtain ⟨rfl, N4q, e4⟩ := hQ4
  have N4 := Fr.app N3 N4q
  refine own_step (W' := T4.setTop (mkF m 136 #[.val (.int p1), .val (.ref b1), .val (.int (10 : Int32)), .val (.ref (w 10)), .val (.int (1 : Int32)), .val (.int (1 : Int32)), .unset] [(.int (1 : Int32))])) (fun _ k => st4.trans k) ?_
  refine own_step (W' := T4.setTop (mkF m 138 #[.val (.int p1), .val (.ref b1), .val (.int (10 : Int32)), .val (.ref (w 10)), .val (.int (1 : Int32)), .val (.int (1 : Int32)), .val (.int (1 : Int32))] [])) (fun _ k => XS.istore X4.here hx rfl (hb hby at_136) rfl (l' := #[.val (.int p1), .val (.ref b1), .val (.int (10 : Int32)), .val (.ref (w 10)), .val (.int (1 : Int32)), .val (.int (1 : Int32)), .val (.int (1 : Int32))]) rfl k) ?_
  refine own_step (W' := T4.setTop (mkF m 140 #[.val (.int p1), .val (.ref b1), .val (.int (10 : Int32)), .val (.ref (w 10)), .val (.int (1 : Int32)), .val (.int (1 : Int32)), .val (.int (1 : Int32))] [(.int (1 : Int32))])) (fun _ k => XS.iload X4.here hx rfl (hb hby at_138) rfl k) ?_
  refine own_step (W' := T4.setTop (mkF m 142 #[.val (.int p1), .val (.ref b1), .val (.int (10 : Int32)), .val (.ref (w 10)), .val (.int (1 : Int32)), .val (.int (1 : Int32)), .val (.int (1 : Int32))] [(.int (1 : Int32)), (.int (1 : Int32))])) (fun _ k => XS.iload X4.here hx rfl (hb hby at_140) rfl k) ?_
  refine own_step (W' := T4.setTop (mkF m 145 #[.val (.int p1), .val (.ref b1), .val (.int (10 : Int32)), .val (.ref (w 10)), .val (.int (1 : Int32)), .val (.int (1 : Int32)), .val (.int (1 : Int32))] [])) (fun _ k => XS.icmpNo X4.here hx rfl (hb hby at_142) rfl (by decide) k) ?_
  refine own_step (W' := T4.setTop (mkF m 147 #[.val (.int p1), .val (.ref b1), .val (.int (10 : Int32)), .val (.ref (w 10)), .val (.int (1 : Int32)), .val (.int (1 : Int32)), .val (.int (1 : Int32))] [(.int (1 : Int32))])) (fun _ k => XS.iload X4.here hx rfl (hb hby at_145) rfl k) ?_
  refine own_step (W' := T4.setTop (mkF m 149 #[.val (.int p1), .val (.ref b1), .val (.int (10 : Int32)), .val (.ref (w 10)), .val (.int (1 : Int32)), .val (.int (1 : Int32)), .val (.int (1 : Int32))] [(.int (1 : Int32)), (.int (1 : Int32))])) (fun _ k => XS.iload X4.here hx rfl (hb hby at_147) rfl k) ?_
  refine own_step (W' := T4.setTop (mkF m 152 #[.val (.int p1), .val (.ref b1), .val (.int (10 : Int32)), .val (.ref (w 10)), .val (.int (1 : Int32)), .val (.int (1 : Int32)), .val (.int (1 : Int32))] [])) (fun _ k => XS.icmpNo X4.here hx rfl (hb hby at_149) rfl (by decide) k) ?_
  refine own_step (W' := T4.setTop (mkF m 153 #[.val (.int p1), .val (.ref b1), .val (.int (10 : Int32)), .val (.ref (w 10)), .val (.int (1 : Int32)), .val (.int (1 : Int32)), .val (.int (1 : Int32))] [(.int (1 : Int32))])) (fun _ k => XS.iconst X4.here hx rfl (hb hby at_152) k) ?_
  refine own_step (W' := T4.setTop (mkF m 157 #[.val (.int p1), .val (.ref b1), .val (.int (10 : Int32)), .val (.ref (w 10)), .val (.int (1 : Int32)), .val (.int (1 : Int32)), .val (.int (1 : Int32))] [(.int (1 : Int32))])) (fun _ k => XS.goto X4.here hx rfl (pc0 := 153) (pc' := 157) rfl (hb hby at_153) (by decide) (by decide) k) ?_
  exact own_ret X4 Bd.notSynchronized Bd.returns (v := (.int (1 : Int32))) (fun fs hr => retN X4 hx (t := .boolean) Bd.returns (by simp) (hb hby at_157) hr) ⟨rfl, N4⟩ (by decide) (by decide)
set_option maxRecDepth 65536 in
set_option maxHeartbeats 40000000 in
theorem rm1_w11 (l : Launch) (Z : State) (a0 : Array Value) (hw : ∀ d ∈ tables_1, d.before a0 Z = true) (ws : List Jvm.Cond) (w : Nat → Addr) (h0 : Heap) (n0 : Nat) (Z0 : n0 ≤ h0.size) (P : Pins Z h0 w) :
    MetFree l (⟨"com/example/featherstar/featherstar/condition/Operator", "takesOperand", "()Z"⟩ : MethodName) (head1 (Jvm.Cond.code (⟨"com/example/featherstar/featherstar/condition/Operator", "takesOperand", "()Z"⟩ : MethodName) prog_13_method_6_code 1 (some .boolean) :: ws) ({ frames := 0, cells := 0, slots := 0, locals := 0 } : Room)) (fun aA U => aA = #[(.ref (w 11))] ∧ Z.Warmed39 U.vm ∧ U.heap = h0) (fun _ _ _ _ _ => True) (fun _ U o U' => ∃ v L, o = .returned v ∧ own_QK (some (.int (1 : Int32))) h0 n0 v U'.heap L ∧ FrameEnd U o U' L ({ frames := 0, cells := 0, slots := 0, locals := 0 } : Room).cells ({ frames := 0, cells := 0, slots := 0, locals := 0 } : Room).slots) := by
  refine MetFree.of_bodySF (plainFor_of_name pn_com_example_featherstar_featherstar_condition_Operator) hisR ?_
  intro p e s m args below meth c s₁ Bd hml0 hP hK
  obtain ⟨rfl, hZ, hh⟩ := hP
  have hx := Bd.exec
  have hby := Bd.bytes
  have hml : c.maxLocals = 1 := hml0
  have hown : s.vm.findClass "com/example/featherstar/featherstar/condition/Operator" = some m.cls := findClass_of_methodNamed Bd.named
  have hnm := (name_of_methodNamed Bd.named Bd.method).1
  have X0 : Stand p l e ({ frames := 0, cells := 0, slots := 0, locals := 0 } : Room) s m #[(.ref (w 11))] below meth c s₁ [] 0 0 := Stand.of_body Bd
  have e0 : s₁.heap = h0 := by rw [← hh, Bd.state]; rfl
  have N0 := Fr.nil n0
  refine own_enter (ef_1_R m (w 11)) ?_
  refine own_step (W' := s₁.setTop (mkF m 1 #[.val (.ref (w 11))] [(.ref (w 11))])) (fun _ k => XS.aloadN X0.here hx rfl (hb hby d1_0) rfl rfl k) ?_
  obtain ⟨T1, X1, e1, st1⟩ := getS2 X0 hx hZ hown (host := "") (Or.inl (hw _ (List.mem_of_getElem? (i := 38) rfl))) Via.refl e0 (pin_S13 P) (g := (mkF m 1 #[.val (.ref (w 11))] [(.ref (w 11))])) rfl (hb hby d1_1)
  refine own_step (W' := T1.setTop (mkF m 4 #[.val (.ref (w 11))] [(.ref (w 13)), (.ref (w 11))])) (fun _ k => st1 _ k) ?_
  refine own_step (W' := T1.setTop (mkF m 7 #[.val (.ref (w 11))] [])) (fun _ k => Jvm.RoadKit.acmp (g := (mkF m 4 #[.val (.ref (w 11))] [(.ref (w 13)), (.ref (w 11))])) X1 hx rfl rfl rfl (pc0 := 4) (pc' := 7) (same := false) rfl (hb hby d1_4) rfl (decide_eq_false fun q => (Fld.ne (pin_F11_ordinal P) (pin_F13_ordinal P) (by decide)) (Value.ref.inj q)) (by decide) (by decide) k) ?_
  refine own_step (W' := T1.setTop (mkF m 8 #[.val (.ref (w 11))] [(.int (1 : Int32))])) (fun _ k => XS.iconst X1.here hx rfl (hb hby d1_7) k) ?_
  refine own_step (W' := T1.setTop (mkF m 12 #[.val (.ref (w 11))] [(.int (1 : Int32))])) (fun _ k => XS.goto X1.here hx rfl (pc0 := 8) (pc' := 12) rfl (hb hby d1_8) (by decide) (by decide) k) ?_
  exact own_ret X1 Bd.notSynchronized Bd.returns (v := (.int (1 : Int32))) (fun fs hr => retN X1 hx (t := .boolean) Bd.returns (by simp) (hb hby d1_12) hr) ⟨rfl, N0, e1⟩ (by decide) (by decide)
set_option maxRecDepth 65536 in
set_option maxHeartbeats 40000000 in
theorem rm2_w11 (l : Launch) (Z : State) (a0 : Array Value) (hw : ∀ d ∈ tables_1, d.before a0 Z = true) (ws : List Jvm.Cond) (w : Nat → Addr) (h0 : Heap) (n0 : Nat) (Z0 : n0 ≤ h0.size) (P : Pins Z h0 w) :
    MetFree l (⟨"com/example/featherstar/featherstar/condition/Operator", "positive", "()Lcom/example/featherstar/featherstar/condition/Operator;"⟩ : MethodName) (head1 (Jvm.Cond.code (⟨"com/example/featherstar/featherstar/condition/Operator", "positive", "()Lcom/example/featherstar/featherstar/condition/Operator;"⟩ : MethodName) prog_13_method_8_code 1 (some (.object "com/example/featherstar/featherstar/condition/Operator")) :: ws) ({ frames := 0, cells := 0, slots := 0, locals := 0 } : Room)) (fun aA U => aA = #[(.ref (w 11))] ∧ Z.Warmed39 U.vm ∧ U.heap = h0) (fun _ _ _ _ _ => True) (fun _ U o U' => ∃ v L, o = .returned v ∧ own_QK (some (.ref (w 11))) h0 n0 v U'.heap L ∧ FrameEnd U o U' L ({ frames := 0, cells := 0, slots := 0, locals := 0 } : Room).cells ({ frames := 0, cells := 0, slots := 0, locals := 0 } : Room).slots) := by
  refine MetFree.of_bodySF (plainFor_of_name pn_com_example_featherstar_featherstar_condition_Operator) hisR ?_
  intro p e s m args below meth c s₁ Bd hml0 hP hK
  obtain ⟨rfl, hZ, hh⟩ := hP
  have hx := Bd.exec
  have hby := Bd.bytes
  have hml : c.maxLocals = 1 := hml0
  have hown : s.vm.findClass "com/example/featherstar/featherstar/condition/Operator" = some m.cls := findClass_of_methodNamed Bd.named
  have hnm := (name_of_methodNamed Bd.named Bd.method).1
  have X0 : Stand p l e ({ frames := 0, cells := 0, slots := 0, locals := 0 } : Room) s m #[(.ref (w 11))] below meth c s₁ [] 0 0 := Stand.of_body Bd
  have e0 : s₁.heap = h0 := by rw [← hh, Bd.state]; rfl
  have N0 := Fr.nil n0
  refine own_enter (ef_2_R m (w 11)) ?_
  refine own_step (W' := s₁.setTop (mkF m 1 #[.val (.ref (w 11))] [(.ref (w 11))])) (fun _ k => XS.aloadN X0.here hx rfl (hb hby d2_0) rfl rfl k) ?_
  obtain ⟨T1, X1, e1, st1⟩ := getF X0 hx hZ hown (host := "") (Or.inl (hw _ (List.mem_of_getElem? (i := 44) rfl))) Via.refl e0 (pin_F11_negated P) (g := (mkF m 1 #[.val (.ref (w 11))] [(.ref (w 11))])) rfl rfl (hb hby d2_1)
  refine own_step (W' := T1.setTop (mkF m 4 #[.val (.ref (w 11))] [.null])) (fun _ k => st1 _ k) ?_
  refine own_step (W' := T1.setTop (mkF m 7 #[.val (.ref (w 11))] [])) (fun _ k => XS.ifnonnullNo X1.here hx rfl (hb hby d2_4) rfl k) ?_
  refine own_step (W' := T1.setTop (mkF m 8 #[.val (.ref (w 11))] [(.ref (w 11))])) (fun _ k => XS.aloadN X1.here hx rfl (hb hby d2_7) rfl rfl k) ?_
  refine own_step (W' := T1.setTop (mkF m 15 #[.val (.ref (w 11))] [(.ref (w 11))])) (fun _ k => XS.goto X1.here hx rfl (pc0 := 8) (pc' := 15) rfl (hb hby d2_8) (by decide) (by decide) k) ?_
  exact own_ret X1 Bd.notSynchronized Bd.returns (v := (.ref (w 11))) (fun fs hr => retOut X1 hx Bd.returns rfl (Or.inr (Or.inr (Or.inr (Or.inr ⟨rfl, rfl, rfl⟩)))) (hb hby d2_15) hr) ⟨rfl, N0, e1⟩ (by decide) (by decide)
set_option maxRecDepth 65536 in
set_option maxHeartbeats 40000000 in
theorem rm0_11 (l : Launch) (Z : State) (a0 : Array Value) (hw : ∀ d ∈ tables_1, d.before a0 Z = true) (ws : List Jvm.Cond) (p1 : Int32) (hk : ((p1 &&& (2147483647 : Int32)) % (14 : Int32)) = (11 : Int32)) (w : Nat → Addr) (h0 : Heap) (n0 : Nat) (Z0 : n0 ≤ h0.size) (P : Pins Z h0 w) :
    MetFree l x (head1 (Jvm.Cond.code x code maxLocals ret :: ws) room_1) (fun aA U => aA = #[(.int p1)] ∧ Z.Warmed39 U.vm ∧ U.heap = h0) (fun _ _ _ _ _ => True) (fun _ U o U' => ∃ v L, o = .returned v ∧ own_Q0 n0 v U'.heap L ∧ FrameEnd U o U' L room_1.cells room_1.slots) := by
  refine MetFree.of_bodySF (plainFor_of_name pn_com_example_featherstar_featherstar_condition_OperatorTakesOperandPinLaw) hisR ?_
  intro p e s m args below meth c s₁ Bd hml0 hP hK
  obtain ⟨rfl, hZ, hh⟩ := hP
  have hx := Bd.exec
  have hby := Bd.bytes
  have hml : c.maxLocals = 7 := hml0
  have hown : s.vm.findClass "com/example/featherstar/featherstar/condition/OperatorTakesOperandPinLaw" = some m.cls := findClass_of_methodNamed Bd.named
  have hnm := (name_of_methodNamed Bd.named Bd.method).1
  have X0 : Stand p l e room_1 s m #[(.int p1)] below meth c s₁ [] 0 0 := Stand.of_body Bd
  have e0 : s₁.heap = h0 := by rw [← hh, Bd.state]; rfl
  have N0 := Fr.nil n0
  refine own_enter (ef_0_I m p1) ?_
  refine own_fill p1 X0 hx hZ hw hby hml hown e0 N0 Z0 P ?_
  intro T1 h1 L1 k1 b1 X1 e1 E1 N1 V1
  have P1 : Pins Z h1 w := P.ext E1
  have Z1 : n0 ≤ h1.size := Nat.le_trans Z0 E1.1
  refine own_step (W' := T1.setTop (mkF m 98 #[.val (.int p1), .val (.ref b1), .unset, .unset, .unset, .unset, .unset] [])) (fun _ k => XS.astoreN X1.here hx rfl (hb hby at_97) rfl rfl (l' := #[.val (.int p1), .val (.ref b1), .unset, .unset, .unset, .unset, .unset]) rfl k) ?_
  refine own_step (W' := T1.setTop (mkF m 99 #[.val (.int p1), .val (.ref b1), .unset, .unset, .unset, .unset, .unset] [(.int p1)])) (fun _ k => XS.iloadN X1.here hx rfl (hb hby at_98) rfl k) ?_
  refine own_step (W' := T1.setTop (mkF m 101 #[.val (.int p1), .val (.ref b1), .unset, .unset, .unset, .unset, .unset] [(.int (2147483647 : Int32)), (.int p1)])) (fun _ k => X1.ldcInt hx hown (mvT hZ (hw _ (List.mem_of_getElem? (i := 32) rfl))) (g := (mkF m 99 #[.val (.int p1), .val (.ref b1), .unset, .unset, .unset, .unset, .unset] [(.int p1)])) rfl (hb hby at_99) _ k) ?_
  refine own_step (W' := T1.setTop (mkF m 102 #[.val (.int p1), .val (.ref b1), .unset, .unset, .unset, .unset, .unset] [(.int (p1 &&& (2147483647 : Int32)))])) (fun _ k => XS.iand X1.here hx rfl (hb hby at_101) rfl k) ?_
  refine own_step (W' := T1.setTop (mkF m 104 #[.val (.int p1), .val (.ref b1), .unset, .unset, .unset, .unset, .unset] [(.int (14 : Int32)), (.int (p1 &&& (2147483647 : Int32)))])) (fun _ k => XS.bipush X1.here hx rfl (hb hby at_102) k) ?_
  refine own_step (W' := T1.setTop (mkF m 105 #[.val (.int p1), .val (.ref b1), .unset, .unset, .unset, .unset, .unset] [(.int ((p1 &&& (2147483647 : Int32)) % (14 : Int32)))])) (fun _ k => iremM X1 hx rfl (hb hby at_104) rfl (by decide) k) ?_
  rw [hk]
  refine own_step (W' := T1.setTop (mkF m 106 #[.val (.int p1), .val (.ref b1), .val (.int (11 : Int32)), .unset, .unset, .unset, .unset] [])) (fun _ k => XS.istoreN X1.here hx rfl (hb hby at_105) rfl (l' := #[.val (.int p1), .val (.ref b1), .val (.int (11 : Int32)), .unset, .unset, .unset, .unset]) rfl k) ?_
  refine own_step (W' := T1.setTop (mkF m 107 #[.val (.int p1), .val (.ref b1), .val (.int (11 : Int32)), .unset, .unset, .unset, .unset] [(.ref b1)])) (fun _ k => XS.aloadN X1.here hx rfl (hb hby at_106) rfl rfl k) ?_
  refine own_step (W' := T1.setTop (mkF m 108 #[.val (.int p1), .val (.ref b1), .val (.int (11 : Int32)), .unset, .unset, .unset, .unset] [(.int (11 : Int32)), (.ref b1)])) (fun _ k => XS.iloadN X1.here hx rfl (hb hby at_107) rfl k) ?_
  refine own_step (W' := T1.setTop (mkF m 109 #[.val (.int p1), .val (.ref b1), .val (.int (11 : Int32)), .unset, .unset, .unset, .unset] [(.ref (w 11))])) (fun _ k => own_ldR X1 hx hZ e1 V1 (j := (11 : Int32)) (v := (.ref (w 11))) ⟨by decide, by decide⟩ rfl (g := (mkF m 108 #[.val (.int p1), .val (.ref b1), .val (.int (11 : Int32)), .unset, .unset, .unset, .unset] [(.int (11 : Int32)), (.ref b1)])) rfl rfl (hb hby at_108) _ k) ?_
  refine own_step (W' := T1.setTop (mkF m 110 #[.val (.int p1), .val (.ref b1), .val (.int (11 : Int32)), .val (.ref (w 11)), .unset, .unset, .unset] [])) (fun _ k => XS.astoreN X1.here hx rfl (hb hby at_109) rfl rfl (l' := #[.val (.int p1), .val (.ref b1), .val (.int (11 : Int32)), .val (.ref (w 11)), .unset, .unset, .unset]) rfl k) ?_
  refine own_step (W' := T1.setTop (mkF m 111 #[.val (.int p1), .val (.ref b1), .val (.int (11 : Int32)), .val (.ref (w 11)), .unset, .unset, .unset] [(.int (11 : Int32))])) (fun _ k => XS.iloadN X1.here hx rfl (hb hby at_110) rfl k) ?_
  refine own_step (W' := T1.setTop (mkF m 113 #[.val (.int p1), .val (.ref b1), .val (.int (11 : Int32)), .val (.ref (w 11)), .unset, .unset, .unset] [(.int (13 : Int32)), (.int (11 : Int32))])) (fun _ k => XS.bipush X1.here hx rfl (hb hby at_111) k) ?_
  refine own_step (W' := T1.setTop (mkF m 116 #[.val (.int p1), .val (.ref b1), .val (.int (11 : Int32)), .val (.ref (w 11)), .unset, .unset, .unset] [])) (fun _ k => XS.icmpNo X1.here hx rfl (hb hby at_113) rfl (by decide) k) ?_
  refine own_step (W' := T1.setTop (mkF m 117 #[.val (.int p1), .val (.ref b1), .val (.int (11 : Int32)), .val (.ref (w 11)), .unset, .unset, .unset] [(.int (1 : Int32))])) (fun _ k => XS.iconst X1.here hx rfl (hb hby at_116) k) ?_
  refine own_step (W' := T1.setTop (mkF m 121 #[.val (.int p1), .val (.ref b1), .val (.int (11 : Int32)), .val (.ref (w 11)), .unset, .unset, .unset] [(.int (1 : Int32))])) (fun _ k => XS.goto X1.here hx rfl (pc0 := 117) (pc' := 121) rfl (hb hby at_117) (by decide) (by decide) k) ?_
  refine own_step (W' := T1.setTop (mkF m 123 #[.val (.int p1), .val (.ref b1), .val (.int (11 : Int32)), .val (.ref (w 11)), .val (.int (1 : Int32)), .unset, .unset] [])) (fun _ k => XS.istore X1.here hx rfl (hb hby at_121) rfl (l' := #[.val (.int p1), .val (.ref b1), .val (.int (11 : Int32)), .val (.ref (w 11)), .val (.int (1 : Int32)), .unset, .unset]) rfl k) ?_
  refine own_step (W' := T1.setTop (mkF m 124 #[.val (.int p1), .val (.ref b1), .val (.int (11 : Int32)), .val (.ref (w 11)), .val (.int (1 : Int32)), .unset, .unset] [(.ref (w 11))])) (fun _ k => XS.aloadN X1.here hx rfl (hb hby at_123) rfl rfl k) ?_
  obtain ⟨cq2, kq2, q2a, q2b, q2c⟩ := isOf hZ e1 (pin_E11 P1)
  obtain ⟨_, _, ⟨T2, L2, k2, n2⟩, -, X2, ⟨Lc2, hQ2, l2, y2, z2⟩, st2⟩ := X1.virtualBack hx (y := (⟨"com/example/featherstar/featherstar/condition/Operator", "takesOperand", "()Z"⟩ : MethodName)) (z := (⟨"com/example/featherstar/featherstar/condition/Operator", "takesOperand", "()Z"⟩ : MethodName)) hown (mvT hZ (hw _ (List.mem_of_getElem? (i := 33) rfl))) (mvT hZ (hw _ (List.mem_of_getElem? (i := 34) rfl))) (notFace_of_selects (args := #[]) (mvT hZ (hw _ (List.mem_of_getElem? (i := 36) rfl)))) (mvT hZ (hw _ (List.mem_of_getElem? (i := 36) rfl))) (mvT hZ (hw _ (List.mem_of_getElem? (i := 35) rfl))) (by decide) (backOf (W := 0) (rm1_w11 l Z a0 hw [] w h1 n0 Z1 P1) hZ (hw _ (List.mem_of_getElem? (i := 37) rfl)) (hw _ (List.mem_of_getElem? (i := 3) rfl)) (by decide) (by decide)) q2a q2c (g := (mkF m 124 #[.val (.int p1), .val (.ref b1), .val (.int (11 : Int32)), .val (.ref (w 11)), .val (.int (1 : Int32)), .unset, .unset] [(.ref (w 11))])) rfl (by rw [hml]; rfl) (Steps.refl _) (argsL := []) (rest := []) (lenOf pd_0 rfl) rfl (by show 2 * 0 + _ ≤ _; exact Nat.le_of_eq rfl) (hb hby at_124) (fun _ _ => ⟨rfl, e1, (by decide : 1 + 0 ≤ _), (by decide : 14 + 0 ≤ _)⟩)
  dsimp only [Pt.U, Pt.locs, Pt.cells, Pt.slots] at X2 l2 y2 z2 st2 hQ2
  subst l2 y2 z2
  obtain ⟨rfl, N2q, e2⟩ := hQ2
  have N2 := Fr.app N1 N2q
  refine own_step (W' := T2.setTop (mkF m 127 #[.val (.int p1), .val (.ref b1), .val (.int (11 : Int32)), .val (.ref (w 11)), .val (.int (1 : Int32)), .unset, .unset] [(.int (1 : Int32))])) (fun _ k => st2.trans k) ?_
  refine own_step (W' := T2.setTop (mkF m 129 #[.val (.int p1), .val (.ref b1), .val (.int (11 : Int32)), .val (.ref (w 11)), .val (.int (1 : Int32)), .val (.int (1 : Int32)), .unset] [])) (fun _ k => XS.istore X2.here hx rfl (hb hby at_127) rfl (l' := #[.val (.int p1), .val (.ref b1), .val (.int (11 : Int32)), .val (.ref (w 11)), .val (.int (1 : Int32)), .val (.int (1 : Int32)), .unset]) rfl k) ?_
  refine own_step (W' := T2.setTop (mkF m 130 #[.val (.int p1), .val (.ref b1), .val (.int (11 : Int32)), .val (.ref (w 11)), .val (.int (1 : Int32)), .val (.int (1 : Int32)), .unset] [(.ref (w 11))])) (fun _ k => XS.aloadN X2.here hx rfl (hb hby at_129) rfl rfl k) ?_
  obtain ⟨cq3, kq3, q3a, q3b, q3c⟩ := isOf hZ e2 (pin_E11 P1)
  obtain ⟨_, _, ⟨T3, L3, k3, n3⟩, -, X3, ⟨Lc3, hQ3, l3, y3, z3⟩, st3⟩ := X2.virtualBack hx (y := (⟨"com/example/featherstar/featherstar/condition/Operator", "positive", "()Lcom/example/featherstar/featherstar/condition/Operator;"⟩ : MethodName)) (z := (⟨"com/example/featherstar/featherstar/condition/Operator", "positive", "()Lcom/example/featherstar/featherstar/condition/Operator;"⟩ : MethodName)) hown (mvT hZ (hw _ (List.mem_of_getElem? (i := 39) rfl))) (mvT hZ (hw _ (List.mem_of_getElem? (i := 40) rfl))) (notFace_of_selects (args := #[]) (mvT hZ (hw _ (List.mem_of_getElem? (i := 42) rfl)))) (mvT hZ (hw _ (List.mem_of_getElem? (i := 42) rfl))) (mvT hZ (hw _ (List.mem_of_getElem? (i := 41) rfl))) (by decide) (backOf (W := 0) (rm2_w11 l Z a0 hw [] w h1 n0 Z1 P1) hZ (hw _ (List.mem_of_getElem? (i := 43) rfl)) (hw _ (List.mem_of_getElem? (i := 3) rfl)) (by decide) (by decide)) q3a q3c (g := (mkF m 130 #[.val (.int p1), .val (.ref b1), .val (.int (11 : Int32)), .val (.ref (w 11)), .val (.int (1 : Int32)), .val (.int (1 : Int32)), .unset] [(.ref (w 11))])) rfl (by rw [hml]; rfl) (Steps.refl _) (argsL := []) (rest := []) (lenOf pd_1 rfl) rfl (by show 2 * 0 + _ ≤ _; exact Nat.le_of_eq rfl) (hb hby at_130) (fun _ _ => ⟨rfl, e2, (by decide : 1 + 0 ≤ _), (by decide : 14 + 0 ≤ _)⟩)
  dsimp only [Pt.U, Pt.locs, Pt.cells, Pt.slots] at X3 l3 y3 z3 st3 hQ3
  subst l3 y3 z3
  obtain ⟨rfl, N3q, e3⟩ := hQ3
  have N3 := Fr.app N2 N3q
  refine own_step (W' := T3.setTop (mkF m 133 #[.val (.int p1), .val (.ref b1), .val (.int (11 : Int32)), .val (.ref (w 11)), .val (.int (1 : Int32)), .val (.int (1 : Int32)), .unset] [(.ref (w 11))])) (fun _ k => st3.trans k) ?_
  obtain ⟨cq4, kq4, q4a, q4b, q4c⟩ := isOf hZ e3 (pin_E11 P1)
  obtain ⟨_, _, ⟨T4, L4, k4, n4⟩, -, X4, ⟨Lc4, hQ4, l4, y4, z4⟩, st4⟩ := X3.virtualBack hx (y := (⟨"com/example/featherstar/featherstar/condition/Operator", "takesOperand", "()Z"⟩ : MethodName)) (z := (⟨"com/example/featherstar/featherstar/condition/Operator", "takesOperand", "()Z"⟩ : MethodName)) hown (mvT hZ (hw _ (List.mem_of_getElem? (i := 33) rfl))) (mvT hZ (hw _ (List.mem_of_getElem? (i := 34) rfl))) (notFace_of_selects (args := #[]) (mvT hZ (hw _ (List.mem_of_getElem? (i := 36) rfl)))) (mvT hZ (hw _ (List.mem_of_getElem? (i := 36) rfl))) (mvT hZ (hw _ (List.mem_of_getElem? (i := 35) rfl))) (by decide) (backOf (W := 0) (rm1_w11 l Z a0 hw [] w h1 n0 Z1 P1) hZ (hw _ (List.mem_of_getElem? (i := 37) rfl)) (hw _ (List.mem_of_getElem? (i := 3) rfl)) (by decide) (by decide)) q4a q4c (g := (mkF m 133 #[.val (.int p1), .val (.ref b1), .val (.int (11 : Int32)), .val (.ref (w 11)), .val (.int (1 : Int32)), .val (.int (1 : Int32)), .unset] [(.ref (w 11))])) rfl (by rw [hml]; rfl) (Steps.refl _) (argsL := []) (rest := []) (lenOf pd_0 rfl) rfl (by show 2 * 0 + _ ≤ _; exact Nat.le_of_eq rfl) (hb hby at_133) (fun _ _ => ⟨rfl, e3, (by decide : 1 + 0 ≤ _), (by decide : 14 + 0 ≤ _)⟩)
  dsimp only [Pt.U, Pt.locs, Pt.cells, Pt.slots] at X4 l4 y4 z4 st4 hQ4
  subst l4 y4 z4
  obtain ⟨rfl, N4q, e4⟩ := hQ4
  have N4 := Fr.app N3 N4q
  refine own_step (W' := T4.setTop (mkF m 136 #[.val (.int p1), .val (.ref b1), .val (.int (11 : Int32)), .val (.ref (w 11)), .val (.int (1 : Int32)), .val (.int (1 : Int32)), .unset] [(.int (1 : Int32))])) (fun _ k => st4.trans k) ?_
  refine own_step (W' := T4.setTop (mkF m 138 #[.val (.int p1), .val (.ref b1), .val (.int (11 : Int32)), .val (.ref (w 11)), .val (.int (1 : Int32)), .val (.int (1 : Int32)), .val (.int (1 : Int32))] [])) (fun _ k => XS.istore X4.here hx rfl (hb hby at_136) rfl (l' := #[.val (.int p1), .val (.ref b1), .val (.int (11 : Int32)), .val (.ref (w 11)), .val (.int (1 : Int32)), .val (.int (1 : Int32)), .val (.int (1 : Int32))]) rfl k) ?_
  refine own_step (W' := T4.setTop (mkF m 140 #[.val (.int p1), .val (.ref b1), .val (.int (11 : Int32)), .val (.ref (w 11)), .val (.int (1 : Int32)), .val (.int (1 : Int32)), .val (.int (1 : Int32))] [(.int (1 : Int32))])) (fun _ k => XS.iload X4.here hx rfl (hb hby at_138) rfl k) ?_
  refine own_step (W' := T4.setTop (mkF m 142 #[.val (.int p1), .val (.ref b1), .val (.int (11 : Int32)), .val (.ref (w 11)), .val (.int (1 : Int32)), .val (.int (1 : Int32)), .val (.int (1 : Int32))] [(.int (1 : Int32)), (.int (1 : Int32))])) (fun _ k => XS.iload X4.here hx rfl (hb hby at_140) rfl k) ?_
  refine own_step (W' := T4.setTop (mkF m 145 #[.val (.int p1), .val (.ref b1), .val (.int (11 : Int32)), .val (.ref (w 11)), .val (.int (1 : Int32)), .val (.int (1 : Int32)), .val (.int (1 : Int32))] [])) (fun _ k => XS.icmpNo X4.here hx rfl (hb hby at_142) rfl (by decide) k) ?_
  refine own_step (W' := T4.setTop (mkF m 147 #[.val (.int p1), .val (.ref b1), .val (.int (11 : Int32)), .val (.ref (w 11)), .val (.int (1 : Int32)), .val (.int (1 : Int32)), .val (.int (1 : Int32))] [(.int (1 : Int32))])) (fun _ k => XS.iload X4.here hx rfl (hb hby at_145) rfl k) ?_
  refine own_step (W' := T4.setTop (mkF m 149 #[.val (.int p1), .val (.ref b1), .val (.int (11 : Int32)), .val (.ref (w 11)), .val (.int (1 : Int32)), .val (.int (1 : Int32)), .val (.int (1 : Int32))] [(.int (1 : Int32)), (.int (1 : Int32))])) (fun _ k => XS.iload X4.here hx rfl (hb hby at_147) rfl k) ?_
  refine own_step (W' := T4.setTop (mkF m 152 #[.val (.int p1), .val (.ref b1), .val (.int (11 : Int32)), .val (.ref (w 11)), .val (.int (1 : Int32)), .val (.int (1 : Int32)), .val (.int (1 : Int32))] [])) (fun _ k => XS.icmpNo X4.here hx rfl (hb hby at_149) rfl (by decide) k) ?_
  refine own_step (W' := T4.setTop (mkF m 153 #[.val (.int p1), .val (.ref b1), .val (.int (11 : Int32)), .val (.ref (w 11)), .val (.int (1 : Int32)), .val (.int (1 : Int32)), .val (.int (1 : Int32))] [(.int (1 : Int32))])) (fun _ k => XS.iconst X4.here hx rfl (hb hby at_152) k) ?_
  refine own_step (W' := T4.setTop (mkF m 157 #[.val (.int p1), .val (.ref b1), .val (.int (11 : Int32)), .val (.ref (w 11)), .val (.int (1 : Int32)), .val (.int (1 : Int32)), .val (.int (1 : Int32))] [(.int (1 : Int32))])) (fun _ k => XS.goto X4.here hx rfl (pc0 := 153) (pc' := 157) rfl (hb hby at_153) (by decide) (by decide) k) ?_
  exact own_ret X4 Bd.notSynchronized Bd.returns (v := (.int (1 : Int32))) (fun fs hr => retN X4 hx (t := .boolean) Bd.returns (by simp) (hb hby at_157) hr) ⟨rfl, N4⟩ (by decide) (by decide)
set_option maxRecDepth 65536 in
set_option maxHeartbeats 40000000 in
theorem rm1_w12 (l : Launch) (Z : State) (a0 : Array Value) (hw : ∀ d ∈ tables_1, d.before a0 Z = true) (ws : List Jvm.Cond) (w : Nat → Addr) (h0 : Heap) (n0 : Nat) (Z0 : n0 ≤ h0.size) (P : Pins Z h0 w) :
    MetFree l (⟨"com/example/featherstar/featherstar/condition/Operator", "takesOperand", "()Z"⟩ : MethodName) (head1 (Jvm.Cond.code (⟨"com/example/featherstar/featherstar/condition/Operator", "takesOperand", "()Z"⟩ : MethodName) prog_13_method_6_code 1 (some .boolean) :: ws) ({ frames := 0, cells := 0, slots := 0, locals := 0 } : Room)) (fun aA U => aA = #[(.ref (w 12))] ∧ Z.Warmed39 U.vm ∧ U.heap = h0) (fun _ _ _ _ _ => True) (fun _ U o U' => ∃ v L, o = .returned v ∧ own_QK (some (.int (1 : Int32))) h0 n0 v U'.heap L ∧ FrameEnd U o U' L ({ frames := 0, cells := 0, slots := 0, locals := 0 } : Room).cells ({ frames := 0, cells := 0, slots := 0, locals := 0 } : Room).slots) := by
  refine MetFree.of_bodySF (plainFor_of_name pn_com_example_featherstar_featherstar_condition_Operator) hisR ?_
  intro p e s m args below meth c s₁ Bd hml0 hP hK
  obtain ⟨rfl, hZ, hh⟩ := hP
  have hx := Bd.exec
  have hby := Bd.bytes
  have hml : c.maxLocals = 1 := hml0
  have hown : s.vm.findClass "com/example/featherstar/featherstar/condition/Operator" = some m.cls := findClass_of_methodNamed Bd.named
  have hnm := (name_of_methodNamed Bd.named Bd.method).1
  have X0 : Stand p l e ({ frames := 0, cells := 0, slots := 0, locals := 0 } : Room) s m #[(.ref (w 12))] below meth c s₁ [] 0 0 := Stand.of_body Bd
  have e0 : s₁.heap = h0 := by rw [← hh, Bd.state]; rfl
  have N0 := Fr.nil n0
  refine own_enter (ef_1_R m (w 12)) ?_
  refine own_step (W' := s₁.setTop (mkF m 1 #[.val (.ref (w 12))] [(.ref (w 12))])) (fun _ k => XS.aloadN X0.here hx rfl (hb hby d1_0) rfl rfl k) ?_
  obtain ⟨T1, X1, e1, st1⟩ := getS2 X0 hx hZ hown (host := "") (Or.inl (hw _ (List.mem_of_getElem? (i := 38) rfl))) Via.refl e0 (pin_S13 P) (g := (mkF m 1 #[.val (.ref (w 12))] [(.ref (w 12))])) rfl (hb hby d1_1)
  refine own_step (W' := T1.setTop (mkF m 4 #[.val (.ref (w 12))] [(.ref (w 13)), (.ref (w 12))])) (fun _ k => st1 _ k) ?_
  refine own_step (W' := T1.setTop (mkF m 7 #[.val (.ref (w 12))] [])) (fun _ k => Jvm.RoadKit.acmp (g := (mkF m 4 #[.val (.ref (w 12))] [(.ref (w 13)), (.ref (w 12))])) X1 hx rfl rfl rfl (pc0 := 4) (pc' := 7) (same := false) rfl (hb hby d1_4) rfl (decide_eq_false fun q => (Fld.ne (pin_F12_ordinal P) (pin_F13_ordinal P) (by decide)) (Value.ref.inj q)) (by decide) (by decide) k) ?_
  refine own_step (W' := T1.setTop (mkF m 8 #[.val (.ref (w 12))] [(.int (1 : Int32))])) (fun _ k => XS.iconst X1.here hx rfl (hb hby d1_7) k) ?_
  refine own_step (W' := T1.setTop (mkF m 12 #[.val (.ref (w 12))] [(.int (1 : Int32))])) (fun _ k => XS.goto X1.here hx rfl (pc0 := 8) (pc' := 12) rfl (hb hby d1_8) (by decide) (by decide) k) ?_
  exact own_ret X1 Bd.notSynchronized Bd.returns (v := (.int (1 : Int32))) (fun fs hr => retN X1 hx (t := .boolean) Bd.returns (by simp) (hb hby d1_12) hr) ⟨rfl, N0, e1⟩ (by decide) (by decide)
set_option maxRecDepth 65536 in
set_option maxHeartbeats 40000000 in
theorem rm2_w12 (l : Launch) (Z : State) (a0 : Array Value) (hw : ∀ d ∈ tables_1, d.before a0 Z = true) (ws : List Jvm.Cond) (w : Nat → Addr) (h0 : Heap) (n0 : Nat) (Z0 : n0 ≤ h0.size) (P : Pins Z h0 w) :
    MetFree l (⟨"com/example/featherstar/featherstar/condition/Operator", "positive", "()Lcom/example/featherstar/featherstar/condition/Operator;"⟩ : MethodName) (head1 (Jvm.Cond.code (⟨"com/example/featherstar/featherstar/condition/Operator", "positive", "()Lcom/example/featherstar/featherstar/condition/Operator;"⟩ : MethodName) prog_13_method_8_code 1 (some (.object "com/example/featherstar/featherstar/condition/Operator")) :: ws) ({ frames := 0, cells := 0, slots := 0, locals := 0 } : Room)) (fun aA U => aA = #[(.ref (w 12))] ∧ Z.Warmed39 U.vm ∧ U.heap = h0) (fun _ _ _ _ _ => True) (fun _ U o U' => ∃ v L, o = .returned v ∧ own_QK (some (.ref (w 12))) h0 n0 v U'.heap L ∧ FrameEnd U o U' L ({ frames := 0, cells := 0, slots := 0, locals := 0 } : Room).cells ({ frames := 0, cells := 0, slots := 0, locals := 0 } : Room).slots) := by
  refine MetFree.of_bodySF (plainFor_of_name pn_com_example_featherstar_featherstar_condition_Operator) hisR ?_
  intro p e s m args below meth c s₁ Bd hml0 hP hK
  obtain ⟨rfl, hZ, hh⟩ := hP
  have hx := Bd.exec
  have hby := Bd.bytes
  have hml : c.maxLocals = 1 := hml0
  have hown : s.vm.findClass "com/example/featherstar/featherstar/condition/Operator" = some m.cls := findClass_of_methodNamed Bd.named
  have hnm := (name_of_methodNamed Bd.named Bd.method).1
  have X0 : Stand p l e ({ frames := 0, cells := 0, slots := 0, locals := 0 } : Room) s m #[(.ref (w 12))] below meth c s₁ [] 0 0 := Stand.of_body Bd
  have e0 : s₁.heap = h0 := by rw [← hh, Bd.state]; rfl
  have N0 := Fr.nil n0
  refine own_enter (ef_2_R m (w 12)) ?_
  refine own_step (W' := s₁.setTop (mkF m 1 #[.val (.ref (w 12))] [(.ref (w 12))])) (fun _ k => XS.aloadN X0.here hx rfl (hb hby d2_0) rfl rfl k) ?_
  obtain ⟨T1, X1, e1, st1⟩ := getF X0 hx hZ hown (host := "") (Or.inl (hw _ (List.mem_of_getElem? (i := 44) rfl))) Via.refl e0 (pin_F12_negated P) (g := (mkF m 1 #[.val (.ref (w 12))] [(.ref (w 12))])) rfl rfl (hb hby d2_1)
  refine own_step (W' := T1.setTop (mkF m 4 #[.val (.ref (w 12))] [.null])) (fun _ k => st1 _ k) ?_
  refine own_step (W' := T1.setTop (mkF m 7 #[.val (.ref (w 12))] [])) (fun _ k => XS.ifnonnullNo X1.here hx rfl (hb hby d2_4) rfl k) ?_
  refine own_step (W' := T1.setTop (mkF m 8 #[.val (.ref (w 12))] [(.ref (w 12))])) (fun _ k => XS.aloadN X1.here hx rfl (hb hby d2_7) rfl rfl k) ?_
  refine own_step (W' := T1.setTop (mkF m 15 #[.val (.ref (w 12))] [(.ref (w 12))])) (fun _ k => XS.goto X1.here hx rfl (pc0 := 8) (pc' := 15) rfl (hb hby d2_8) (by decide) (by decide) k) ?_
  exact own_ret X1 Bd.notSynchronized Bd.returns (v := (.ref (w 12))) (fun fs hr => retOut X1 hx Bd.returns rfl (Or.inr (Or.inr (Or.inr (Or.inr ⟨rfl, rfl, rfl⟩)))) (hb hby d2_15) hr) ⟨rfl, N0, e1⟩ (by decide) (by decide)
set_option maxRecDepth 65536 in
set_option maxHeartbeats 40000000 in
theorem rm0_12 (l : Launch) (Z : State) (a0 : Array Value) (hw : ∀ d ∈ tables_1, d.before a0 Z = true) (ws : List Jvm.Cond) (p1 : Int32) (hk : ((p1 &&& (2147483647 : Int32)) % (14 : Int32)) = (12 : Int32)) (w : Nat → Addr) (h0 : Heap) (n0 : Nat) (Z0 : n0 ≤ h0.size) (P : Pins Z h0 w) :
    MetFree l x (head1 (Jvm.Cond.code x code maxLocals ret :: ws) room_1) (fun aA U => aA = #[(.int p1)] ∧ Z.Warmed39 U.vm ∧ U.heap = h0) (fun _ _ _ _ _ => True) (fun _ U o U' => ∃ v L, o = .returned v ∧ own_Q0 n0 v U'.heap L ∧ FrameEnd U o U' L room_1.cells room_1.slots) := by
  refine MetFree.of_bodySF (plainFor_of_name pn_com_example_featherstar_featherstar_condition_OperatorTakesOperandPinLaw) hisR ?_
  intro p e s m args below meth c s₁ Bd hml0 hP hK
  obtain ⟨rfl, hZ, hh⟩ := hP
  have hx := Bd.exec
  have hby := Bd.bytes
  have hml : c.maxLocals = 7 := hml0
  have hown : s.vm.findClass "com/example/featherstar/featherstar/condition/OperatorTakesOperandPinLaw" = some m.cls := findClass_of_methodNamed Bd.named
  have hnm := (name_of_methodNamed Bd.named Bd.method).1
  have X0 : Stand p l e room_1 s m #[(.int p1)] below meth c s₁ [] 0 0 := Stand.of_body Bd
  have e0 : s₁.heap = h0 := by rw [← hh, Bd.state]; rfl
  have N0 := Fr.nil n0
  refine own_enter (ef_0_I m p1) ?_
  refine own_fill p1 X0 hx hZ hw hby hml hown e0 N0 Z0 P ?_
  intro T1 h1 L1 k1 b1 X1 e1 E1 N1 V1
  have P1 : Pins Z h1 w := P.ext E1
  have Z1 : n0 ≤ h1.size := Nat.le_trans Z0 E1.1
  refine own_step (W' := T1.setTop (mkF m 98 #[.val (.int p1), .val (.ref b1), .unset, .unset, .unset, .unset, .unset] [])) (fun _ k => XS.astoreN X1.here hx rfl (hb hby at_97) rfl rfl (l' := #[.val (.int p1), .val (.ref b1), .unset, .unset, .unset, .unset, .unset]) rfl k) ?_
  refine own_step (W' := T1.setTop (mkF m 99 #[.val (.int p1), .val (.ref b1), .unset, .unset, .unset, .unset, .unset] [(.int p1)])) (fun _ k => XS.iloadN X1.here hx rfl (hb hby at_98) rfl k) ?_
  refine own_step (W' := T1.setTop (mkF m 101 #[.val (.int p1), .val (.ref b1), .unset, .unset, .unset, .unset, .unset] [(.int (2147483647 : Int32)), (.int p1)])) (fun _ k => X1.ldcInt hx hown (mvT hZ (hw _ (List.mem_of_getElem? (i := 32) rfl))) (g := (mkF m 99 #[.val (.int p1), .val (.ref b1), .unset, .unset, .unset, .unset, .unset] [(.int p1)])) rfl (hb hby at_99) _ k) ?_
  refine own_step (W' := T1.setTop (mkF m 102 #[.val (.int p1), .val (.ref b1), .unset, .unset, .unset, .unset, .unset] [(.int (p1 &&& (2147483647 : Int32)))])) (fun _ k => XS.iand X1.here hx rfl (hb hby at_101) rfl k) ?_
  refine own_step (W' := T1.setTop (mkF m 104 #[.val (.int p1), .val (.ref b1), .unset, .unset, .unset, .unset, .unset] [(.int (14 : Int32)), (.int (p1 &&& (2147483647 : Int32)))])) (fun _ k => XS.bipush X1.here hx rfl (hb hby at_102) k) ?_
  refine own_step (W' := T1.setTop (mkF m 105 #[.val (.int p1), .val (.ref b1), .unset, .unset, .unset, .unset, .unset] [(.int ((p1 &&& (2147483647 : Int32)) % (14 : Int32)))])) (fun _ k => iremM X1 hx rfl (hb hby at_104) rfl (by decide) k) ?_
  rw [hk]
  refine own_step (W' := T1.setTop (mkF m 106 #[.val (.int p1), .val (.ref b1), .val (.int (12 : Int32)), .unset, .unset, .unset, .unset] [])) (fun _ k => XS.istoreN X1.here hx rfl (hb hby at_105) rfl (l' := #[.val (.int p1), .val (.ref b1), .val (.int (12 : Int32)), .unset, .unset, .unset, .unset]) rfl k) ?_
  refine own_step (W' := T1.setTop (mkF m 107 #[.val (.int p1), .val (.ref b1), .val (.int (12 : Int32)), .unset, .unset, .unset, .unset] [(.ref b1)])) (fun _ k => XS.aloadN X1.here hx rfl (hb hby at_106) rfl rfl k) ?_
  refine own_step (W' := T1.setTop (mkF m 108 #[.val (.int p1), .val (.ref b1), .val (.int (12 : Int32)), .unset, .unset, .unset, .unset] [(.int (12 : Int32)), (.ref b1)])) (fun _ k => XS.iloadN X1.here hx rfl (hb hby at_107) rfl k) ?_
  refine own_step (W' := T1.setTop (mkF m 109 #[.val (.int p1), .val (.ref b1), .val (.int (12 : Int32)), .unset, .unset, .unset, .unset] [(.ref (w 12))])) (fun _ k => own_ldR X1 hx hZ e1 V1 (j := (12 : Int32)) (v := (.ref (w 12))) ⟨by decide, by decide⟩ rfl (g := (mkF m 108 #[.val (.int p1), .val (.ref b1), .val (.int (12 : Int32)), .unset, .unset, .unset, .unset] [(.int (12 : Int32)), (.ref b1)])) rfl rfl (hb hby at_108) _ k) ?_
  refine own_step (W' := T1.setTop (mkF m 110 #[.val (.int p1), .val (.ref b1), .val (.int (12 : Int32)), .val (.ref (w 12)), .unset, .unset, .unset] [])) (fun _ k => XS.astoreN X1.here hx rfl (hb hby at_109) rfl rfl (l' := #[.val (.int p1), .val (.ref b1), .val (.int (12 : Int32)), .val (.ref (w 12)), .unset, .unset, .unset]) rfl k) ?_
  refine own_step (W' := T1.setTop (mkF m 111 #[.val (.int p1), .val (.ref b1), .val (.int (12 : Int32)), .val (.ref (w 12)), .unset, .unset, .unset] [(.int (12 : Int32))])) (fun _ k => XS.iloadN X1.here hx rfl (hb hby at_110) rfl k) ?_
  refine own_step (W' := T1.setTop (mkF m 113 #[.val (.int p1), .val (.ref b1), .val (.int (12 : Int32)), .val (.ref (w 12)), .unset, .unset, .unset] [(.int (13 : Int32)), (.int (12 : Int32))])) (fun _ k => XS.bipush X1.here hx rfl (hb hby at_111) k) ?_
  refine own_step (W' := T1.setTop (mkF m 116 #[.val (.int p1), .val (.ref b1), .val (.int (12 : Int32)), .val (.ref (w 12)), .unset, .unset, .unset] [])) (fun _ k => XS.icmpNo X1.here hx rfl (hb hby at_113) rfl (by decide) k) ?_
  refine own_step (W' := T1.setTop (mkF m 117 #[.val (.int p1), .val (.ref b1), .val (.int (12 : Int32)), .val (.ref (w 12)), .unset, .unset, .unset] [(.int (1 : Int32))])) (fun _ k => XS.iconst X1.here hx rfl (hb hby at_116) k) ?_
  refine own_step (W' := T1.setTop (mkF m 121 #[.val (.int p1), .val (.ref b1), .val (.int (12 : Int32)), .val (.ref (w 12)), .unset, .unset, .unset] [(.int (1 : Int32))])) (fun _ k => XS.goto X1.here hx rfl (pc0 := 117) (pc' := 121) rfl (hb hby at_117) (by decide) (by decide) k) ?_
  refine own_step (W' := T1.setTop (mkF m 123 #[.val (.int p1), .val (.ref b1), .val (.int (12 : Int32)), .val (.ref (w 12)), .val (.int (1 : Int32)), .unset, .unset] [])) (fun _ k => XS.istore X1.here hx rfl (hb hby at_121) rfl (l' := #[.val (.int p1), .val (.ref b1), .val (.int (12 : Int32)), .val (.ref (w 12)), .val (.int (1 : Int32)), .unset, .unset]) rfl k) ?_
  refine own_step (W' := T1.setTop (mkF m 124 #[.val (.int p1), .val (.ref b1), .val (.int (12 : Int32)), .val (.ref (w 12)), .val (.int (1 : Int32)), .unset, .unset] [(.ref (w 12))])) (fun _ k => XS.aloadN X1.here hx rfl (hb hby at_123) rfl rfl k) ?_
  obtain ⟨cq2, kq2, q2a, q2b, q2c⟩ := isOf hZ e1 (pin_E12 P1)
  obtain ⟨_, _, ⟨T2, L2, k2, n2⟩, -, X2, ⟨Lc2, hQ2, l2, y2, z2⟩, st2⟩ := X1.virtualBack hx (y := (⟨"com/example/featherstar/featherstar/condition/Operator", "takesOperand", "()Z"⟩ : MethodName)) (z := (⟨"com/example/featherstar/featherstar/condition/Operator", "takesOperand", "()Z"⟩ : MethodName)) hown (mvT hZ (hw _ (List.mem_of_getElem? (i := 33) rfl))) (mvT hZ (hw _ (List.mem_of_getElem? (i := 34) rfl))) (notFace_of_selects (args := #[]) (mvT hZ (hw _ (List.mem_of_getElem? (i := 36) rfl)))) (mvT hZ (hw _ (List.mem_of_getElem? (i := 36) rfl))) (mvT hZ (hw _ (List.mem_of_getElem? (i := 35) rfl))) (by decide) (backOf (W := 0) (rm1_w12 l Z a0 hw [] w h1 n0 Z1 P1) hZ (hw _ (List.mem_of_getElem? (i := 37) rfl)) (hw _ (List.mem_of_getElem? (i := 3) rfl)) (by decide) (by decide)) q2a q2c (g := (mkF m 124 #[.val (.int p1), .val (.ref b1), .val (.int (12 : Int32)), .val (.ref (w 12)), .val (.int (1 : Int32)), .unset, .unset] [(.ref (w 12))])) rfl (by rw [hml]; rfl) (Steps.refl _) (argsL := []) (rest := []) (lenOf pd_0 rfl) rfl (by show 2 * 0 + _ ≤ _; exact Nat.le_of_eq rfl) (hb hby at_124) (fun _ _ => ⟨rfl, e1, (by decide : 1 + 0 ≤ _), (by decide : 14 + 0 ≤ _)⟩)
  dsimp only [Pt.U, Pt.locs, Pt.cells, Pt.slots] at X2 l2 y2 z2 st2 hQ2
  subst l2 y2 z2
  obtain ⟨rfl, N2q, e2⟩ := hQ2
  have N2 := Fr.app N1 N2q
  refine own_step (W' := T2.setTop (mkF m 127 #[.val (.int p1), .val (.ref b1), .val (.int (12 : Int32)), .val (.ref (w 12)), .val (.int (1 : Int32)), .unset, .unset] [(.int (1 : Int32))])) (fun _ k => st2.trans k) ?_
  refine own_step (W' := T2.setTop (mkF m 129 #[.val (.int p1), .val (.ref b1), .val (.int (12 : Int32)), .val (.ref (w 12)), .val (.int (1 : Int32)), .val (.int (1 : Int32)), .unset] [])) (fun _ k => XS.istore X2.here hx rfl (hb hby at_127) rfl (l' := #[.val (.int p1), .val (.ref b1), .val (.int (12 : Int32)), .val (.ref (w 12)), .val (.int (1 : Int32)), .val (.int (1 : Int32)), .unset]) rfl k) ?_
  refine own_step (W' := T2.setTop (mkF m 130 #[.val (.int p1), .val (.ref b1), .val (.int (12 : Int32)), .val (.ref (w 12)), .val (.int (1 : Int32)), .val (.int (1 : Int32)), .unset] [(.ref (w 12))])) (fun _ k => XS.aloadN X2.here hx rfl (hb hby at_129) rfl rfl k) ?_
  obtain ⟨cq3, kq3, q3a, q3b, q3c⟩ := isOf hZ e2 (pin_E12 P1)
  obtain ⟨_, _, ⟨T3, L3, k3, n3⟩, -, X3, ⟨Lc3, hQ3, l3, y3, z3⟩, st3⟩ := X2.virtualBack hx (y := (⟨"com/example/featherstar/featherstar/condition/Operator", "positive", "()Lcom/example/featherstar/featherstar/condition/Operator;"⟩ : MethodName)) (z := (⟨"com/example/featherstar/featherstar/condition/Operator", "positive", "()Lcom/example/featherstar/featherstar/condition/Operator;"⟩ : MethodName)) hown (mvT hZ (hw _ (List.mem_of_getElem? (i := 39) rfl))) (mvT hZ (hw _ (List.mem_of_getElem? (i := 40) rfl))) (notFace_of_selects (args := #[]) (mvT hZ (hw _ (List.mem_of_getElem? (i := 42) rfl)))) (mvT hZ (hw _ (List.mem_of_getElem? (i := 42) rfl))) (mvT hZ (hw _ (List.mem_of_getElem? (i := 41) rfl))) (by decide) (backOf (W := 0) (rm2_w12 l Z a0 hw [] w h1 n0 Z1 P1) hZ (hw _ (List.mem_of_getElem? (i := 43) rfl)) (hw _ (List.mem_of_getElem? (i := 3) rfl)) (by decide) (by decide)) q3a q3c (g := (mkF m 130 #[.val (.int p1), .val (.ref b1), .val (.int (12 : Int32)), .val (.ref (w 12)), .val (.int (1 : Int32)), .val (.int (1 : Int32)), .unset] [(.ref (w 12))])) rfl (by rw [hml]; rfl) (Steps.refl _) (argsL := []) (rest := []) (lenOf pd_1 rfl) rfl (by show 2 * 0 + _ ≤ _; exact Nat.le_of_eq rfl) (hb hby at_130) (fun _ _ => ⟨rfl, e2, (by decide : 1 + 0 ≤ _), (by decide : 14 + 0 ≤ _)⟩)
  dsimp only [Pt.U, Pt.locs, Pt.cells, Pt.slots] at X3 l3 y3 z3 st3 hQ3
  subst l3 y3 z3
  obtain ⟨rfl, N3q, e3⟩ := hQ3
  have N3 := Fr.app N2 N3q
  refine own_step (W' := T3.setTop (mkF m 133 #[.val (.int p1), .val (.ref b1), .val (.int (12 : Int32)), .val (.ref (w 12)), .val (.int (1 : Int32)), .val (.int (1 : Int32)), .unset] [(.ref (w 12))])) (fun _ k => st3.trans k) ?_
  obtain ⟨cq4, kq4, q4a, q4b, q4c⟩ := isOf hZ e3 (pin_E12 P1)
  obtain ⟨_, _, ⟨T4, L4, k4, n4⟩, -, X4, ⟨Lc4, hQ4, l4, y4, z4⟩, st4⟩ := X3.virtualBack hx (y := (⟨"com/example/featherstar/featherstar/condition/Operator", "takesOperand", "()Z"⟩ : MethodName)) (z := (⟨"com/example/featherstar/featherstar/condition/Operator", "takesOperand", "()Z"⟩ : MethodName)) hown (mvT hZ (hw _ (List.mem_of_getElem? (i := 33) rfl))) (mvT hZ (hw _ (List.mem_of_getElem? (i := 34) rfl))) (notFace_of_selects (args := #[]) (mvT hZ (hw _ (List.mem_of_getElem? (i := 36) rfl)))) (mvT hZ (hw _ (List.mem_of_getElem? (i := 36) rfl))) (mvT hZ (hw _ (List.mem_of_getElem? (i := 35) rfl))) (by decide) (backOf (W := 0) (rm1_w12 l Z a0 hw [] w h1 n0 Z1 P1) hZ (hw _ (List.mem_of_getElem? (i := 37) rfl)) (hw _ (List.mem_of_getElem? (i := 3) rfl)) (by decide) (by decide)) q4a q4c (g := (mkF m 133 #[.val (.int p1), .val (.ref b1), .val (.int (12 : Int32)), .val (.ref (w 12)), .val (.int (1 : Int32)), .val (.int (1 : Int32)), .unset] [(.ref (w 12))])) rfl (by rw [hml]; rfl) (Steps.refl _) (argsL := []) (rest := []) (lenOf pd_0 rfl) rfl (by show 2 * 0 + _ ≤ _; exact Nat.le_of_eq rfl) (hb hby at_133) (fun _ _ => ⟨rfl, e3, (by decide : 1 + 0 ≤ _), (by decide : 14 + 0 ≤ _)⟩)
  dsimp only [Pt.U, Pt.locs, Pt.cells, Pt.slots] at X4 l4 y4 z4 st4 hQ4
  subst l4 y4 z4
  obtain ⟨rfl, N4q, e4⟩ := hQ4
  have N4 := Fr.app N3 N4q
  refine own_step (W' := T4.setTop (mkF m 136 #[.val (.int p1), .val (.ref b1), .val (.int (12 : Int32)), .val (.ref (w 12)), .val (.int (1 : Int32)), .val (.int (1 : Int32)), .unset] [(.int (1 : Int32))])) (fun _ k => st4.trans k) ?_
  refine own_step (W' := T4.setTop (mkF m 138 #[.val (.int p1), .val (.ref b1), .val (.int (12 : Int32)), .val (.ref (w 12)), .val (.int (1 : Int32)), .val (.int (1 : Int32)), .val (.int (1 : Int32))] [])) (fun _ k => XS.istore X4.here hx rfl (hb hby at_136) rfl (l' := #[.val (.int p1), .val (.ref b1), .val (.int (12 : Int32)), .val (.ref (w 12)), .val (.int (1 : Int32)), .val (.int (1 : Int32)), .val (.int (1 : Int32))]) rfl k) ?_
  refine own_step (W' := T4.setTop (mkF m 140 #[.val (.int p1), .val (.ref b1), .val (.int (12 : Int32)), .val (.ref (w 12)), .val (.int (1 : Int32)), .val (.int (1 : Int32)), .val (.int (1 : Int32))] [(.int (1 : Int32))])) (fun _ k => XS.iload X4.here hx rfl (hb hby at_138) rfl k) ?_
  refine own_step (W' := T4.setTop (mkF m 142 #[.val (.int p1), .val (.ref b1), .val (.int (12 : Int32)), .val (.ref (w 12)), .val (.int (1 : Int32)), .val (.int (1 : Int32)), .val (.int (1 : Int32))] [(.int (1 : Int32)), (.int (1 : Int32))])) (fun _ k => XS.iload X4.here hx rfl (hb hby at_140) rfl k) ?_
  refine own_step (W' := T4.setTop (mkF m 145 #[.val (.int p1), .val (.ref b1), .val (.int (12 : Int32)), .val (.ref (w 12)), .val (.int (1 : Int32)), .val (.int (1 : Int32)), .val (.int (1 : Int32))] [])) (fun _ k => XS.icmpNo X4.here hx rfl (hb hby at_142) rfl (by decide) k) ?_
  refine own_step (W' := T4.setTop (mkF m 147 #[.val (.int p1), .val (.ref b1), .val (.int (12 : Int32)), .val (.ref (w 12)), .val (.int (1 : Int32)), .val (.int (1 : Int32)), .val (.int (1 : Int32))] [(.int (1 : Int32))])) (fun _ k => XS.iload X4.here hx rfl (hb hby at_145) rfl k) ?_
  refine own_step (W' := T4.setTop (mkF m 149 #[.val (.int p1), .val (.ref b1), .val (.int (12 : Int32)), .val (.ref (w 12)), .val (.int (1 : Int32)), .val (.int (1 : Int32)), .val (.int (1 : Int32))] [(.int (1 : Int32)), (.int (1 : Int32))])) (fun _ k => XS.iload X4.here hx rfl (hb hby at_147) rfl k) ?_
  refine own_step (W' := T4.setTop (mkF m 152 #[.val (.int p1), .val (.ref b1), .val (.int (12 : Int32)), .val (.ref (w 12)), .val (.int (1 : Int32)), .val (.int (1 : Int32)), .val (.int (1 : Int32))] [])) (fun _ k => XS.icmpNo X4.here hx rfl (hb hby at_149) rfl (by decide) k) ?_
  refine own_step (W' := T4.setTop (mkF m 153 #[.val (.int p1), .val (.ref b1), .val (.int (12 : Int32)), .val (.ref (w 12)), .val (.int (1 : Int32)), .val (.int (1 : Int32)), .val (.int (1 : Int32))] [(.int (1 : Int32))])) (fun _ k => XS.iconst X4.here hx rfl (hb hby at_152) k) ?_
  refine own_step (W' := T4.setTop (mkF m 157 #[.val (.int p1), .val (.ref b1), .val (.int (12 : Int32)), .val (.ref (w 12)), .val (.int (1 : Int32)), .val (.int (1 : Int32)), .val (.int (1 : Int32))] [(.int (1 : Int32))])) (fun _ k => XS.goto X4.here hx rfl (pc0 := 153) (pc' := 157) rfl (hb hby at_153) (by decide) (by decide) k) ?_
  exact own_ret X4 Bd.notSynchronized Bd.returns (v := (.int (1 : Int32))) (fun fs hr => retN X4 hx (t := .boolean) Bd.returns (by simp) (hb hby at_157) hr) ⟨rfl, N4⟩ (by decide) (by decide)
set_option maxRecDepth 65536 in
set_option maxHeartbeats 40000000 in
theorem rm1_w13 (l : Launch) (Z : State) (a0 : Array Value) (hw : ∀ d ∈ tables_1, d.before a0 Z = true) (ws : List Jvm.Cond) (w : Nat → Addr) (h0 : Heap) (n0 : Nat) (Z0 : n0 ≤ h0.size) (P : Pins Z h0 w) :
    MetFree l (⟨"com/example/featherstar/featherstar/condition/Operator", "takesOperand", "()Z"⟩ : MethodName) (head1 (Jvm.Cond.code (⟨"com/example/featherstar/featherstar/condition/Operator", "takesOperand", "()Z"⟩ : MethodName) prog_13_method_6_code 1 (some .boolean) :: ws) ({ frames := 0, cells := 0, slots := 0, locals := 0 } : Room)) (fun aA U => aA = #[(.ref (w 13))] ∧ Z.Warmed39 U.vm ∧ U.heap = h0) (fun _ _ _ _ _ => True) (fun _ U o U' => ∃ v L, o = .returned v ∧ own_QK (some (.int (0 : Int32))) h0 n0 v U'.heap L ∧ FrameEnd U o U' L ({ frames := 0, cells := 0, slots := 0, locals := 0 } : Room).cells ({ frames := 0, cells := 0, slots := 0, locals := 0 } : Room).slots) := by
  refine MetFree.of_bodySF (plainFor_of_name pn_com_example_featherstar_featherstar_condition_Operator) hisR ?_
  intro p e s m args below meth c s₁ Bd hml0 hP hK
  obtain ⟨rfl, hZ, hh⟩ := hP
  have hx := Bd.exec
  have hby := Bd.bytes
  have hml : c.maxLocals = 1 := hml0
  have hown : s.vm.findClass "com/example/featherstar/featherstar/condition/Operator" = some m.cls := findClass_of_methodNamed Bd.named
  have hnm := (name_of_methodNamed Bd.named Bd.method).1
  have X0 : Stand p l e ({ frames := 0, cells := 0, slots := 0, locals := 0 } : Room) s m #[(.ref (w 13))] below meth c s₁ [] 0 0 := Stand.of_body Bd
  have e0 : s₁.heap = h0 := by rw [← hh, Bd.state]; rfl
  have N0 := Fr.nil n0
  refine own_enter (ef_1_R m (w 13)) ?_
  refine own_step (W' := s₁.setTop (mkF m 1 #[.val (.ref (w 13))] [(.ref (w 13))])) (fun _ k => XS.aloadN X0.here hx rfl (hb hby d1_0) rfl rfl k) ?_
  obtain ⟨T1, X1, e1, st1⟩ := getS2 X0 hx hZ hown (host := "") (Or.inl (hw _ (List.mem_of_getElem? (i := 38) rfl))) Via.refl e0 (pin_S13 P) (g := (mkF m 1 #[.val (.ref (w 13))] [(.ref (w 13))])) rfl (hb hby d1_1)
  refine own_step (W' := T1.setTop (mkF m 4 #[.val (.ref (w 13))] [(.ref (w 13)), (.ref (w 13))])) (fun _ k => st1 _ k) ?_
  refine own_step (W' := T1.setTop (mkF m 11 #[.val (.ref (w 13))] [])) (fun _ k => Jvm.RoadKit.acmp (g := (mkF m 4 #[.val (.ref (w 13))] [(.ref (w 13)), (.ref (w 13))])) X1 hx rfl rfl rfl (pc0 := 4) (pc' := 11) (same := true) rfl (hb hby d1_4) rfl (decide_eq_true rfl) (by decide) (by decide) k) ?_
  refine own_step (W' := T1.setTop (mkF m 12 #[.val (.ref (w 13))] [(.int (0 : Int32))])) (fun _ k => XS.iconst X1.here hx rfl (hb hby d1_11) k) ?_
  exact own_ret X1 Bd.notSynchronized Bd.returns (v := (.int (0 : Int32))) (fun fs hr => retN X1 hx (t := .boolean) Bd.returns (by simp) (hb hby d1_12) hr) ⟨rfl, N0, e1⟩ (by decide) (by decide)
set_option maxRecDepth 65536 in
set_option maxHeartbeats 40000000 in
theorem rm2_w13 (l : Launch) (Z : State) (a0 : Array Value) (hw : ∀ d ∈ tables_1, d.before a0 Z = true) (ws : List Jvm.Cond) (w : Nat → Addr) (h0 : Heap) (n0 : Nat) (Z0 : n0 ≤ h0.size) (P : Pins Z h0 w) :
    MetFree l (⟨"com/example/featherstar/featherstar/condition/Operator", "positive", "()Lcom/example/featherstar/featherstar/condition/Operator;"⟩ : MethodName) (head1 (Jvm.Cond.code (⟨"com/example/featherstar/featherstar/condition/Operator", "positive", "()Lcom/example/featherstar/featherstar/condition/Operator;"⟩ : MethodName) prog_13_method_8_code 1 (some (.object "com/example/featherstar/featherstar/condition/Operator")) :: ws) ({ frames := 0, cells := 0, slots := 0, locals := 0 } : Room)) (fun aA U => aA = #[(.ref (w 13))] ∧ Z.Warmed39 U.vm ∧ U.heap = h0) (fun _ _ _ _ _ => True) (fun _ U o U' => ∃ v L, o = .returned v ∧ own_QK (some (.ref (w 13))) h0 n0 v U'.heap L ∧ FrameEnd U o U' L ({ frames := 0, cells := 0, slots := 0, locals := 0 } : Room).cells ({ frames := 0, cells := 0, slots := 0, locals := 0 } : Room).slots) := by
  refine MetFree.of_bodySF (plainFor_of_name pn_com_example_featherstar_featherstar_condition_Operator) hisR ?_
  intro p e s m args below meth c s₁ Bd hml0 hP hK
  obtain ⟨rfl, hZ, hh⟩ := hP
  have hx := Bd.exec
  have hby := Bd.bytes
  have hml : c.maxLocals = 1 := hml0
  have hown : s.vm.findClass "com/example/featherstar/featherstar/condition/Operator" = some m.cls := findClass_of_methodNamed Bd.named
  have hnm := (name_of_methodNamed Bd.named Bd.method).1
  have X0 : Stand p l e ({ frames := 0, cells := 0, slots := 0, locals := 0 } : Room) s m #[(.ref (w 13))] below meth c s₁ [] 0 0 := Stand.of_body Bd
  have e0 : s₁.heap = h0 := by rw [← hh, Bd.state]; rfl
  have N0 := Fr.nil n0
  refine own_enter (ef_2_R m (w 13)) ?_
  refine own_step (W' := s₁.setTop (mkF m 1 #[.val (.ref (w 13))] [(.ref (w 13))])) (fun _ k => XS.aloadN X0.here hx rfl (hb hby d2_0) rfl rfl k) ?_
  obtain ⟨T1, X1, e1, st1⟩ := getF X0 hx hZ hown (host := "") (Or.inl (hw _ (List.mem_of_getElem? (i := 44) rfl))) Via.refl e0 (pin_F13_negated P) (g := (mkF m 1 #[.val (.ref (w 13))] [(.ref (w 13))])) rfl rfl (hb hby d2_1)
  refine own_step (W' := T1.setTop (mkF m 4 #[.val (.ref (w 13))] [.null])) (fun _ k => st1 _ k) ?_
  refine own_step (W' := T1.setTop (mkF m 7 #[.val (.ref (w 13))] [])) (fun _ k => XS.ifnonnullNo X1.here hx rfl (hb hby d2_4) rfl k) ?_
  refine own_step (W' := T1.setTop (mkF m 8 #[.val (.ref (w 13))] [(.ref (w 13))])) (fun _ k => XS.aloadN X1.here hx rfl (hb hby d2_7) rfl rfl k) ?_
  refine own_step (W' := T1.setTop (mkF m 15 #[.val (.ref (w 13))] [(.ref (w 13))])) (fun _ k => XS.goto X1.here hx rfl (pc0 := 8) (pc' := 15) rfl (hb hby d2_8) (by decide) (by decide) k) ?_
  exact own_ret X1 Bd.notSynchronized Bd.returns (v := (.ref (w 13))) (fun fs hr => retOut X1 hx Bd.returns rfl (Or.inr (Or.inr (Or.inr (Or.inr ⟨rfl, rfl, rfl⟩)))) (hb hby d2_15) hr) ⟨rfl, N0, e1⟩ (by decide) (by decide)
set_option maxRecDepth 65536 in
set_option maxHeartbeats 40000000 in
theorem rm0_13 (l : Launch) (Z : State) (a0 : Array Value) (hw : ∀ d ∈ tables_1, d.before a0 Z = true) (ws : List Jvm.Cond) (p1 : Int32) (hk : ((p1 &&& (2147483647 : Int32)) % (14 : Int32)) = (13 : Int32)) (w : Nat → Addr) (h0 : Heap) (n0 : Nat) (Z0 : n0 ≤ h0.size) (P : Pins Z h0 w) :
    MetFree l x (head1 (Jvm.Cond.code x code maxLocals ret :: ws) room_1) (fun aA U => aA = #[(.int p1)] ∧ Z.Warmed39 U.vm ∧ U.heap = h0) (fun _ _ _ _ _ => True) (fun _ U o U' => ∃ v L, o = .returned v ∧ own_Q0 n0 v U'.heap L ∧ FrameEnd U o U' L room_1.cells room_1.slots) := by
  refine MetFree.of_bodySF (plainFor_of_name pn_com_example_featherstar_featherstar_condition_OperatorTakesOperandPinLaw) hisR ?_
  intro p e s m args below meth c s₁ Bd hml0 hP hK
  obtain ⟨rfl, hZ, hh⟩ := hP
  have hx := Bd.exec
  have hby := Bd.bytes
  have hml : c.maxLocals = 7 := hml0
  have hown : s.vm.findClass "com/example/featherstar/featherstar/condition/OperatorTakesOperandPinLaw" = some m.cls := findClass_of_methodNamed Bd.named
  have hnm := (name_of_methodNamed Bd.named Bd.method).1
  have X0 : Stand p l e room_1 s m #[(.int p1)] below meth c s₁ [] 0 0 := Stand.of_body Bd
  have e0 : s₁.heap = h0 := by rw [← hh, Bd.state]; rfl
  have N0 := Fr.nil n0
  refine own_enter (ef_0_I m p1) ?_
  refine own_fill p1 X0 hx hZ hw hby hml hown e0 N0 Z0 P ?_
  intro T1 h1 L1 k1 b1 X1 e1 E1 N1 V1
  have P1 : Pins Z h1 w := P.ext E1
  have Z1 : n0 ≤ h1.size := Nat.le_trans Z0 E1.1
  refine own_step (W' := T1.setTop (mkF m 98 #[.val (.int p1), .val (.ref b1), .unset, .unset, .unset, .unset, .unset] [])) (fun _ k => XS.astoreN X1.here hx rfl (hb hby at_97) rfl rfl (l' := #[.val (.int p1), .val (.ref b1), .unset, .unset, .unset, .unset, .unset]) rfl k) ?_
  refine own_step (W' := T1.setTop (mkF m 99 #[.val (.int p1), .val (.ref b1), .unset, .unset, .unset, .unset, .unset] [(.int p1)])) (fun _ k => XS.iloadN X1.here hx rfl (hb hby at_98) rfl k) ?_
  refine own_step (W' := T1.setTop (mkF m 101 #[.val (.int p1), .val (.ref b1), .unset, .unset, .unset, .unset, .unset] [(.int (2147483647 : Int32)), (.int p1)])) (fun _ k => X1.ldcInt hx hown (mvT hZ (hw _ (List.mem_of_getElem? (i := 32) rfl))) (g := (mkF m 99 #[.val (.int p1), .val (.ref b1), .unset, .unset, .unset, .unset, .unset] [(.int p1)])) rfl (hb hby at_99) _ k) ?_
  refine own_step (W' := T1.setTop (mkF m 102 #[.val (.int p1), .val (.ref b1), .unset, .unset, .unset, .unset, .unset] [(.int (p1 &&& (2147483647 : Int32)))])) (fun _ k => XS.iand X1.here hx rfl (hb hby at_101) rfl k) ?_
  refine own_step (W' := T1.setTop (mkF m 104 #[.val (.int p1), .val (.ref b1), .unset, .unset, .unset, .unset, .unset] [(.int (14 : Int32)), (.int (p1 &&& (2147483647 : Int32)))])) (fun _ k => XS.bipush X1.here hx rfl (hb hby at_102) k) ?_
  refine own_step (W' := T1.setTop (mkF m 105 #[.val (.int p1), .val (.ref b1), .unset, .unset, .unset, .unset, .unset] [(.int ((p1 &&& (2147483647 : Int32)) % (14 : Int32)))])) (fun _ k => iremM X1 hx rfl (hb hby at_104) rfl (by decide) k) ?_
  rw [hk]
  refine own_step (W' := T1.setTop (mkF m 106 #[.val (.int p1), .val (.ref b1), .val (.int (13 : Int32)), .unset, .unset, .unset, .unset] [])) (fun _ k => XS.istoreN X1.here hx rfl (hb hby at_105) rfl (l' := #[.val (.int p1), .val (.ref b1), .val (.int (13 : Int32)), .unset, .unset, .unset, .unset]) rfl k) ?_
  refine own_step (W' := T1.setTop (mkF m 107 #[.val (.int p1), .val (.ref b1), .val (.int (13 : Int32)), .unset, .unset, .unset, .unset] [(.ref b1)])) (fun _ k => XS.aloadN X1.here hx rfl (hb hby at_106) rfl rfl k) ?_
  refine own_step (W' := T1.setTop (mkF m 108 #[.val (.int p1), .val (.ref b1), .val (.int (13 : Int32)), .unset, .unset, .unset, .unset] [(.int (13 : Int32)), (.ref b1)])) (fun _ k => XS.iloadN X1.here hx rfl (hb hby at_107) rfl k) ?_
  refine own_step (W' := T1.setTop (mkF m 109 #[.val (.int p1), .val (.ref b1), .val (.int (13 : Int32)), .unset, .unset, .unset, .unset] [(.ref (w 13))])) (fun _ k => own_ldR X1 hx hZ e1 V1 (j := (13 : Int32)) (v := (.ref (w 13))) ⟨by decide, by decide⟩ rfl (g := (mkF m 108 #[.val (.int p1), .val (.ref b1), .val (.int (13 : Int32)), .unset, .unset, .unset, .unset] [(.int (13 : Int32)), (.ref b1)])) rfl rfl (hb hby at_108) _ k) ?_
  refine own_step (W' := T1.setTop (mkF m 110 #[.val (.int p1), .val (.ref b1), .val (.int (13 : Int32)), .val (.ref (w 13)), .unset, .unset, .unset] [])) (fun _ k => XS.astoreN X1.here hx rfl (hb hby at_109) rfl rfl (l' := #[.val (.int p1), .val (.ref b1), .val (.int (13 : Int32)), .val (.ref (w 13)), .unset, .unset, .unset]) rfl k) ?_
  refine own_step (W' := T1.setTop (mkF m 111 #[.val (.int p1), .val (.ref b1), .val (.int (13 : Int32)), .val (.ref (w 13)), .unset, .unset, .unset] [(.int (13 : Int32))])) (fun _ k => XS.iloadN X1.here hx rfl (hb hby at_110) rfl k) ?_
  refine own_step (W' := T1.setTop (mkF m 113 #[.val (.int p1), .val (.ref b1), .val (.int (13 : Int32)), .val (.ref (w 13)), .unset, .unset, .unset] [(.int (13 : Int32)), (.int (13 : Int32))])) (fun _ k => XS.bipush X1.here hx rfl (hb hby at_111) k) ?_
  refine own_step (W' := T1.setTop (mkF m 120 #[.val (.int p1), .val (.ref b1), .val (.int (13 : Int32)), .val (.ref (w 13)), .unset, .unset, .unset] [])) (fun _ k => XS.icmpYes X1.here hx rfl (pc0 := 113) (pc' := 120) rfl (hb hby at_113) rfl (by decide) (by decide) (by decide) k) ?_
  refine own_step (W' := T1.setTop (mkF m 121 #[.val (.int p1), .val (.ref b1), .val (.int (13 : Int32)), .val (.ref (w 13)), .unset, .unset, .unset] [(.int (0 : Int32))])) (fun _ k => XS.iconst X1.here hx rfl (hb hby at_120) k) ?_
  refine own_step (W' := T1.setTop (mkF m 123 #[.val (.int p1), .val (.ref b1), .val (.int (13 : Int32)), .val (.ref (w 13)), .val (.int (0 : Int32)), .unset, .unset] [])) (fun _ k => XS.istore X1.here hx rfl (hb hby at_121) rfl (l' := #[.val (.int p1), .val (.ref b1), .val (.int (13 : Int32)), .val (.ref (w 13)), .val (.int (0 : Int32)), .unset, .unset]) rfl k) ?_
  refine own_step (W' := T1.setTop (mkF m 124 #[.val (.int p1), .val (.ref b1), .val (.int (13 : Int32)), .val (.ref (w 13)), .val (.int (0 : Int32)), .unset, .unset] [(.ref (w 13))])) (fun _ k => XS.aloadN X1.here hx rfl (hb hby at_123) rfl rfl k) ?_
  obtain ⟨cq2, kq2, q2a, q2b, q2c⟩ := isOf hZ e1 (pin_E13 P1)
  obtain ⟨_, _, ⟨T2, L2, k2, n2⟩, -, X2, ⟨Lc2, hQ2, l2, y2, z2⟩, st2⟩ := X1.virtualBack hx (y := (⟨"com/example/featherstar/featherstar/condition/Operator", "takesOperand", "()Z"⟩ : MethodName)) (z := (⟨"com/example/featherstar/featherstar/condition/Operator", "takesOperand", "()Z"⟩ : MethodName)) hown (mvT hZ (hw _ (List.mem_of_getElem? (i := 33) rfl))) (mvT hZ (hw _ (List.mem_of_getElem? (i := 34) rfl))) (notFace_of_selects (args := #[]) (mvT hZ (hw _ (List.mem_of_getElem? (i := 36) rfl)))) (mvT hZ (hw _ (List.mem_of_getElem? (i := 36) rfl))) (mvT hZ (hw _ (List.mem_of_getElem? (i := 35) rfl))) (by decide) (backOf (W := 0) (rm1_w13 l Z a0 hw [] w h1 n0 Z1 P1) hZ (hw _ (List.mem_of_getElem? (i := 37) rfl)) (hw _ (List.mem_of_getElem? (i := 3) rfl)) (by decide) (by decide)) q2a q2c (g := (mkF m 124 #[.val (.int p1), .val (.ref b1), .val (.int (13 : Int32)), .val (.ref (w 13)), .val (.int (0 : Int32)), .unset, .unset] [(.ref (w 13))])) rfl (by rw [hml]; rfl) (Steps.refl _) (argsL := []) (rest := []) (lenOf pd_0 rfl) rfl (by show 2 * 0 + _ ≤ _; exact Nat.le_of_eq rfl) (hb hby at_124) (fun _ _ => ⟨rfl, e1, (by decide : 1 + 0 ≤ _), (by decide : 14 + 0 ≤ _)⟩)
  dsimp only [Pt.U, Pt.locs, Pt.cells, Pt.slots] at X2 l2 y2 z2 st2 hQ2
  subst l2 y2 z2
  obtain ⟨rfl, N2q, e2⟩ := hQ2
  have N2 := Fr.app N1 N2q
  refine own_step (W' := T2.setTop (mkF m 127 #[.val (.int p1), .val (.ref b1), .val (.int (13 : Int32)), .val (.ref (w 13)), .val (.int (0 : Int32)), .unset, .unset] [(.int (0 : Int32))])) (fun _ k => st2.trans k) ?_
  refine own_step (W' := T2.setTop (mkF m 129 #[.val (.int p1), .val (.ref b1), .val (.int (13 : Int32)), .val (.ref (w 13)), .val (.int (0 : Int32)), .val (.int (0 : Int32)), .unset] [])) (fun _ k => XS.istore X2.here hx rfl (hb hby at_127) rfl (l' := #[.val (.int p1), .val (.ref b1), .val (.int (13 : Int32)), .val (.ref (w 13)), .val (.int (0 : Int32)), .val (.int (0 : Int32)), .unset]) rfl k) ?_
  refine own_step (W' := T2.setTop (mkF m 130 #[.val (.int p1), .val (.ref b1), .val (.int (13 : Int32)), .val (.ref (w 13)), .val (.int (0 : Int32)), .val (.int (0 : Int32)), .unset] [(.ref (w 13))])) (fun _ k => XS.aloadN X2.here hx rfl (hb hby at_129) rfl rfl k) ?_
  obtain ⟨cq3, kq3, q3a, q3b, q3c⟩ := isOf hZ e2 (pin_E13 P1)
  obtain ⟨_, _, ⟨T3, L3, k3, n3⟩, -, X3, ⟨Lc3, hQ3, l3, y3, z3⟩, st3⟩ := X2.virtualBack hx (y := (⟨"com/example/featherstar/featherstar/condition/Operator", "positive", "()Lcom/example/featherstar/featherstar/condition/Operator;"⟩ : MethodName)) (z := (⟨"com/example/featherstar/featherstar/condition/Operator", "positive", "()Lcom/example/featherstar/featherstar/condition/Operator;"⟩ : MethodName)) hown (mvT hZ (hw _ (List.mem_of_getElem? (i := 39) rfl))) (mvT hZ (hw _ (List.mem_of_getElem? (i := 40) rfl))) (notFace_of_selects (args := #[]) (mvT hZ (hw _ (List.mem_of_getElem? (i := 42) rfl)))) (mvT hZ (hw _ (List.mem_of_getElem? (i := 42) rfl))) (mvT hZ (hw _ (List.mem_of_getElem? (i := 41) rfl))) (by decide) (backOf (W := 0) (rm2_w13 l Z a0 hw [] w h1 n0 Z1 P1) hZ (hw _ (List.mem_of_getElem? (i := 43) rfl)) (hw _ (List.mem_of_getElem? (i := 3) rfl)) (by decide) (by decide)) q3a q3c (g := (mkF m 130 #[.val (.int p1), .val (.ref b1), .val (.int (13 : Int32)), .val (.ref (w 13)), .val (.int (0 : Int32)), .val (.int (0 : Int32)), .unset] [(.ref (w 13))])) rfl (by rw [hml]; rfl) (Steps.refl _) (argsL := []) (rest := []) (lenOf pd_1 rfl) rfl (by show 2 * 0 + _ ≤ _; exact Nat.le_of_eq rfl) (hb hby at_130) (fun _ _ => ⟨rfl, e2, (by decide : 1 + 0 ≤ _), (by decide : 14 + 0 ≤ _)⟩)
  dsimp only [Pt.U, Pt.locs, Pt.cells, Pt.slots] at X3 l3 y3 z3 st3 hQ3
  subst l3 y3 z3
  obtain ⟨rfl, N3q, e3⟩ := hQ3
  have N3 := Fr.app N2 N3q
  refine own_step (W' := T3.setTop (mkF m 133 #[.val (.int p1), .val (.ref b1), .val (.int (13 : Int32)), .val (.ref (w 13)), .val (.int (0 : Int32)), .val (.int (0 : Int32)), .unset] [(.ref (w 13))])) (fun _ k => st3.trans k) ?_
  obtain ⟨cq4, kq4, q4a, q4b, q4c⟩ := isOf hZ e3 (pin_E13 P1)
  obtain ⟨_, _, ⟨T4, L4, k4, n4⟩, -, X4, ⟨Lc4, hQ4, l4, y4, z4⟩, st4⟩ := X3.virtualBack hx (y := (⟨"com/example/featherstar/featherstar/condition/Operator", "takesOperand", "()Z"⟩ : MethodName)) (z := (⟨"com/example/featherstar/featherstar/condition/Operator", "takesOperand", "()Z"⟩ : MethodName)) hown (mvT hZ (hw _ (List.mem_of_getElem? (i := 33) rfl))) (mvT hZ (hw _ (List.mem_of_getElem? (i := 34) rfl))) (notFace_of_selects (args := #[]) (mvT hZ (hw _ (List.mem_of_getElem? (i := 36) rfl)))) (mvT hZ (hw _ (List.mem_of_getElem? (i := 36) rfl))) (mvT hZ (hw _ (List.mem_of_getElem? (i := 35) rfl))) (by decide) (backOf (W := 0) (rm1_w13 l Z a0 hw [] w h1 n0 Z1 P1) hZ (hw _ (List.mem_of_getElem? (i := 37) rfl)) (hw _ (List.mem_of_getElem? (i := 3) rfl)) (by decide) (by decide)) q4a q4c (g := (mkF m 133 #[.val (.int p1), .val (.ref b1), .val (.int (13 : Int32)), .val (.ref (w 13)), .val (.int (0 : Int32)), .val (.int (0 : Int32)), .unset] [(.ref (w 13))])) rfl (by rw [hml]; rfl) (Steps.refl _) (argsL := []) (rest := []) (lenOf pd_0 rfl) rfl (by show 2 * 0 + _ ≤ _; exact Nat.le_of_eq rfl) (hb hby at_133) (fun _ _ => ⟨rfl, e3, (by decide : 1 + 0 ≤ _), (by decide : 14 + 0 ≤ _)⟩)
  dsimp only [Pt.U, Pt.locs, Pt.cells, Pt.slots] at X4 l4 y4 z4 st4 hQ4
  subst l4 y4 z4
  obtain ⟨rfl, N4q, e4⟩ := hQ4
  have N4 := Fr.app N3 N4q
  refine own_step (W' := T4.setTop (mkF m 136 #[.val (.int p1), .val (.ref b1), .val (.int (13 : Int32)), .val (.ref (w 13)), .val (.int (0 : Int32)), .val (.int (0 : Int32)), .unset] [(.int (0 : Int32))])) (fun _ k => st4.trans k) ?_
  refine own_step (W' := T4.setTop (mkF m 138 #[.val (.int p1), .val (.ref b1), .val (.int (13 : Int32)), .val (.ref (w 13)), .val (.int (0 : Int32)), .val (.int (0 : Int32)), .val (.int (0 : Int32))] [])) (fun _ k => XS.istore X4.here hx rfl (hb hby at_136) rfl (l' := #[.val (.int p1), .val (.ref b1), .val (.int (13 : Int32)), .val (.ref (w 13)), .val (.int (0 : Int32)), .val (.int (0 : Int32)), .val (.int (0 : Int32))]) rfl k) ?_
  refine own_step (W' := T4.setTop (mkF m 140 #[.val (.int p1), .val (.ref b1), .val (.int (13 : Int32)), .val (.ref (w 13)), .val (.int (0 : Int32)), .val (.int (0 : Int32)), .val (.int (0 : Int32))] [(.int (0 : Int32))])) (fun _ k => XS.iload X4.here hx rfl (hb hby at_138) rfl k) ?_
  refine own_step (W' := T4.setTop (mkF m 142 #[.val (.int p1), .val (.ref b1), .val (.int (13 : Int32)), .val (.ref (w 13)), .val (.int (0 : Int32)), .val (.int (0 : Int32)), .val (.int (0 : Int32))] [(.int (0 : Int32)), (.int (0 : Int32))])) (fun _ k => XS.iload X4.here hx rfl (hb hby at_140) rfl k) ?_
  refine own_step (W' := T4.setTop (mkF m 145 #[.val (.int p1), .val (.ref b1), .val (.int (13 : Int32)), .val (.ref (w 13)), .val (.int (0 : Int32)), .val (.int (0 : Int32)), .val (.int (0 : Int32))] [])) (fun _ k => XS.icmpNo X4.here hx rfl (hb hby at_142) rfl (by decide) k) ?_
  refine own_step (W' := T4.setTop (mkF m 147 #[.val (.int p1), .val (.ref b1), .val (.int (13 : Int32)), .val (.ref (w 13)), .val (.int (0 : Int32)), .val (.int (0 : Int32)), .val (.int (0 : Int32))] [(.int (0 : Int32))])) (fun _ k => XS.iload X4.here hx rfl (hb hby at_145) rfl k) ?_
  refine own_step (W' := T4.setTop (mkF m 149 #[.val (.int p1), .val (.ref b1), .val (.int (13 : Int32)), .val (.ref (w 13)), .val (.int (0 : Int32)), .val (.int (0 : Int32)), .val (.int (0 : Int32))] [(.int (0 : Int32)), (.int (0 : Int32))])) (fun _ k => XS.iload X4.here hx rfl (hb hby at_147) rfl k) ?_
  refine own_step (W' := T4.setTop (mkF m 152 #[.val (.int p1), .val (.ref b1), .val (.int (13 : Int32)), .val (.ref (w 13)), .val (.int (0 : Int32)), .val (.int (0 : Int32)), .val (.int (0 : Int32))] [])) (fun _ k => XS.icmpNo X4.here hx rfl (hb hby at_149) rfl (by decide) k) ?_
  refine own_step (W' := T4.setTop (mkF m 153 #[.val (.int p1), .val (.ref b1), .val (.int (13 : Int32)), .val (.ref (w 13)), .val (.int (0 : Int32)), .val (.int (0 : Int32)), .val (.int (0 : Int32))] [(.int (1 : Int32))])) (fun _ k => XS.iconst X4.here hx rfl (hb hby at_152) k) ?_
  refine own_step (W' := T4.setTop (mkF m 157 #[.val (.int p1), .val (.ref b1), .val (.int (13 : Int32)), .val (.ref (w 13)), .val (.int (0 : Int32)), .val (.int (0 : Int32)), .val (.int (0 : Int32))] [(.int (1 : Int32))])) (fun _ k => XS.goto X4.here hx rfl (pc0 := 153) (pc' := 157) rfl (hb hby at_153) (by decide) (by decide) k) ?_
  exact own_ret X4 Bd.notSynchronized Bd.returns (v := (.int (1 : Int32))) (fun fs hr => retN X4 hx (t := .boolean) Bd.returns (by simp) (hb hby at_157) hr) ⟨rfl, N4⟩ (by decide) (by decide)
theorem rm0 (l : Launch) (Z : State) (a0 : Array Value) (hw : ∀ d ∈ tables_1, d.before a0 Z = true) (ws : List Jvm.Cond) (p1 : Int32) (w : Nat → Addr) (h0 : Heap) (n0 : Nat) (Z0 : n0 ≤ h0.size) (P : Pins Z h0 w) :
    MetFree l x (head1 (Jvm.Cond.code x code maxLocals ret :: ws) room_1) (fun aA U => aA = #[(.int p1)] ∧ Z.Warmed39 U.vm ∧ U.heap = h0) (fun _ _ _ _ _ => True) (fun _ U o U' => ∃ v L, o = .returned v ∧ own_Q0 n0 v U'.heap L ∧ FrameEnd U o U' L room_1.cells room_1.slots) := by
  rcases own_m14 p1 with hk | hk | hk | hk | hk | hk | hk | hk | hk | hk | hk | hk | hk | hk
  · exact rm0_0 l Z a0 hw ws p1 hk w h0 n0 Z0 P
  · exact rm0_1 l Z a0 hw ws p1 hk w h0 n0 Z0 P
  · exact rm0_2 l Z a0 hw ws p1 hk w h0 n0 Z0 P
  · exact rm0_3 l Z a0 hw ws p1 hk w h0 n0 Z0 P
  · exact rm0_4 l Z a0 hw ws p1 hk w h0 n0 Z0 P
  · exact rm0_5 l Z a0 hw ws p1 hk w h0 n0 Z0 P
  · exact rm0_6 l Z a0 hw ws p1 hk w h0 n0 Z0 P
  · exact rm0_7 l Z a0 hw ws p1 hk w h0 n0 Z0 P
  · exact rm0_8 l Z a0 hw ws p1 hk w h0 n0 Z0 P
  · exact rm0_9 l Z a0 hw ws p1 hk w h0 n0 Z0 P
  · exact rm0_10 l Z a0 hw ws p1 hk w h0 n0 Z0 P
  · exact rm0_11 l Z a0 hw ws p1 hk w h0 n0 Z0 P
  · exact rm0_12 l Z a0 hw ws p1 hk w h0 n0 Z0 P
  · exact rm0_13 l Z a0 hw ws p1 hk w h0 n0 Z0 P
set_option maxRecDepth 65536 in
set_option maxHeartbeats 40000000 in
theorem comes_1 {Post : Tables → Env → Array Value → State → Outcome → State → Prop} (hpost : ∀ tb e args s v u, (limb_1_1.after args s (.returned v) u = true ∧ limb_1_2.after args s (.returned v) u = true ∧ True) → FrameEnd s (.returned v) u (Jvm.fieldLocs frame_1_writes args s ++ Jvm.arrayLocs frame_1_arrays args s ++ Jvm.staticLocs frame_1_statics s) 16 128 → Post tb e args s (.returned v) u) :
    ArmFor flags0 classFile x code maxLocals ret World_1 tables_1 room_1 Calls_1 rest_1 Pre_1 Post := by
  intro l hfl _ _ p e ha hc hk s m args below hf hA hF happ hP
  obtain ⟨hcalls, hrest, hpre⟩ := hP
  obtain ⟨-, -, -, hnamed, -, -, -, hat⟩ := (Spec.applies_iff hf).mp happ
  obtain ⟨hg, hn⟩ := and_e (Cond.before_iff.mp (show (Jvm.Cond.and given_1 narrow_1).before args s = true from hpre))
  obtain ⟨gc, hg⟩ := and_e hg
  obtain ⟨w0, rfl⟩ : ∃ w0 : Value, args = #[w0] := by
    have hs : args.size = 1 := by simpa [Cond.value, given_1] using gc
    obtain ⟨L⟩ := args
    match L, hs with
    | [w0], _ => exact ⟨w0, rfl⟩
  have hw := fun d (hd : d ∈ tables_1) => atoms_spec (ws := Jvm.Cond.code x code maxLocals ret :: tables_1) hat d (List.mem_cons_of_mem _ hd)
  obtain ⟨i0, ei0⟩ := is_v hg
  obtain rfl : w0 = (.int i0) := Option.some.inj ei0
  obtain ⟨w, P⟩ := own_pins hw hn
  obtain ⟨n, o, h1, h2, h3, _, L, rfl, ⟨rfl, N⟩, hq⟩ := rm0 l s _ hw tables_1 i0 w s.heap s.heap.size (Nat.le_refl _) P p e ha hc hk s m _ below hf ((Spec.applies_iff_loose hf).mp happ).1 ⟨rfl, State.Warmed39.refl s, rfl⟩ trivial
  refine ⟨n, _, h1, h2, h3, hpost _ _ _ _ _ _ ⟨Cond.after_iff.mpr rfl, Cond.after_iff.mpr (eq_i res_at (Term.int_eval (1)) rfl), trivial⟩ ⟨hq.1, hq.2.1, (hq.2.2.sift fun y hy => Or.inr (N y hy)).mono (by decide) (by decide)⟩⟩
theorem main_1_1 : Claimed_1_1 := comes_1 fun _ _ _ _ _ _ h hF => ⟨h.1, hF⟩
theorem main_1_2 : Claimed_1_2 := comes_1 fun _ _ _ _ _ _ h hF => ⟨h.2.1, hF⟩
end Jvm.Pilot.@@N@@
namespace Jvm.Pilot.@@N@@
open Jvm Jvm.ClassFile Sem Op Lib Jvm.Free Jvm.Stand Jvm.Pilot.@@N@@.Jvm.D
/-! MADE BY PROGRAM (witnessworld.py) out of the Statement's table words and the real class files: 13 classes; the members and pool entries that the words name. The judged class is class 1, her method 1. -/
namespace start1
open Jvm.ClassFile
def u (s : String) : CpInfo := .utf8 (stringToUtf16 s)
/-- a pool by its gaps: so many unusable entries, then the entry; so many at the end -/
def gap : Nat → List CpInfo → List CpInfo
  | 0, r => r
  | n + 1, r => .unusable :: gap n r
def poolList (es : List (Nat × CpInfo)) (last : Nat) : List CpInfo := es.foldr (fun e r => gap e.1 (e.2 :: r)) (gap last [])
def pool (es : List (Nat × CpInfo)) (last : Nat) : Array CpInfo := ⟨poolList es last⟩
def fileOf (pool : Array CpInfo) (this : Nat) (attrs : Array Attribute := #[]) (ms : Array MethodInfo := #[]) (fl : Nat := 33) (sup : Nat := 0) (ifs : Array Nat := #[]) (fds : Array FieldInfo := #[]) : ClassFile where
  minorVersion := 0
  majorVersion := 65
  constantPool := pool
  accessFlags := fl
  thisClass := this
  superClass := sup
  interfaces := ifs
  fields := fds
  methods := ms
  attributes := attrs
def plain (name : String) (sup : Option ClassId) : Class where
  name := name
  kind := .ordinary
  loader := none
  accessFlags := 33
  super := sup
  interfaces := #[]
  cf := none
  fields := #[]
  methods := #[]
  instanceTypes := #[]
  staticTypes := #[]
  resolved := #[]
  callSites := []
  init := .initialized
  statics := none
  mirror := none

def pool0 : Array CpInfo := pool [(5, u "<init>"), (0, u "()V"), (1, .class_ 10), (1, u "java/lang/Object")] 113

def k0m0 : Method := { name := "<init>", desc := "()V", sig := { parameters := [], returnType := none }, accessFlags := 1, code := none }
/-- java/lang/Object -/
def k0 : Class := { plain "java/lang/Object" none with
  accessFlags := 33
  interfaces := #[]
  cf := some (fileOf pool0 8 #[] #[{ accessFlags := 1, nameIndex := 5, descriptorIndex := 6, attributes := #[] }] 33 0 #[] #[])
  fields := #[]
  methods := #[k0m0]
  instanceTypes := #[]
  staticTypes := #[]
  resolved := Array.replicate 124 none
  statics := none }

def pool1 : Array CpInfo := pool [(2, .class_ 4), (1, u "java/lang/Object"), (0, u "<init>"), (0, u "()V"), (0, .class_ 8), (0, u "com/example/featherstar/featherstar/condition/Operator"), (0, .fieldref 7 10), (0, .nameAndType 11 12), (0, u "EQUAL"), (0, u "Lcom/example/featherstar/featherstar/condition/Operator;"), (0, .fieldref 7 14), (0, .nameAndType 15 12), (0, u "NOT_EQUAL"), (0, .fieldref 7 17), (0, .nameAndType 18 12), (0, u "LESS"), (0, .fieldref 7 20), (0, .nameAndType 21 12), (0, u "LESS_OR_EQUAL"), (0, .fieldref 7 23), (0, .nameAndType 24 12), (0, u "GREATER"), (0, .fieldref 7 26), (0, .nameAndType 27 12), (0, u "GREATER_OR_EQUAL"), (0, .fieldref 7 29), (0, .nameAndType 30 12), (0, u "EQUAL_IGNORING_CASE"), (0, .fieldref 7 32), (0, .nameAndType 33 12), (0, u "NOT_EQUAL_IGNORING_CASE"), (0, .fieldref 7 35), (0, .nameAndType 36 12), (0, u "MATCHES"), (0, .fieldref 7 38), (0, .nameAndType 39 12), (0, u "NOT_MATCHES"), (0, .fieldref 7 41), (0, .nameAndType 42 12), (0, u "CONTAINS"), (0, .fieldref 7 44), (0, .nameAndType 45 12), (0, u "STARTS_WITH"), (0, .fieldref 7 47), (0, .nameAndType 48 12), (0, u "ENDS_WITH"), (0, .fieldref 7 50), (0, .nameAndType 51 12), (0, u "EMPTY"), (0, .integer 2147483647), (0, .methodref 7 54), (0, .nameAndType 55 56), (0, u "takesOperand"), (0, u "()Z"), (0, .methodref 7 58), (0, .nameAndType 59 60), (0, u "positive"), (0, u "()Lcom/example/featherstar/featherstar/condition/Operator;"), (0, .class_ 62), (0, u "com/example/featherstar/featherstar/condition/OperatorTakesOperandPinLaw"), (2, u "law"), (0, u "(I)Z")] 5

def k1m0 : Method := { name := "<init>", desc := "()V", sig := { parameters := [], returnType := none }, accessFlags := 1, code := none }
def k1c1 : Code := { maxStack := 4, maxLocals := 7, code := code, exceptionTable := #[], attributes := #[] }
def k1m1 : Method := { name := "law", desc := "(I)Z", sig := { parameters := [.int], returnType := some .boolean }, accessFlags := 9, code := some k1c1 }
/-- com/example/featherstar/featherstar/condition/OperatorTakesOperandPinLaw -/
def k1 : Class := { plain "com/example/featherstar/featherstar/condition/OperatorTakesOperandPinLaw" (some 0) with
  accessFlags := 49
  interfaces := #[]
  cf := some (fileOf pool1 61 #[] #[{ accessFlags := 1, nameIndex := 5, descriptorIndex := 6, attributes := #[] }, { accessFlags := 9, nameIndex := 65, descriptorIndex := 66, attributes := #[] }] 49 2 #[] #[])
  fields := #[]
  methods := #[k1m0, k1m1]
  instanceTypes := #[]
  staticTypes := #[]
  resolved := Array.replicate 72 none
  statics := none }

def pool2 : Array CpInfo := pool [(1, .class_ 2), (0, u "java/lang/constant/Constable"), (0, .class_ 4), (0, u "java/lang/Object")] 6

/-- java/lang/constant/Constable -/
def k2 : Class := { plain "java/lang/constant/Constable" (some 0) with
  accessFlags := 1537
  interfaces := #[]
  cf := some (fileOf pool2 1 #[] #[] 1537 3 #[] #[])
  fields := #[]
  methods := #[]
  instanceTypes := #[]
  staticTypes := #[]
  resolved := Array.replicate 11 none
  statics := none }

def pool3 : Array CpInfo := pool [(1, .class_ 2), (0, u "java/lang/Comparable"), (0, .class_ 4), (0, u "java/lang/Object")] 7

/-- java/lang/Comparable -/
def k3 : Class := { plain "java/lang/Comparable" (some 0) with
  accessFlags := 1537
  interfaces := #[]
  cf := some (fileOf pool3 1 #[] #[] 1537 3 #[] #[])
  fields := #[]
  methods := #[]
  instanceTypes := #[]
  staticTypes := #[]
  resolved := Array.replicate 12 none
  statics := none }

def pool4 : Array CpInfo := pool [(1, .class_ 2), (0, u "java/io/Serializable"), (0, .class_ 4), (0, u "java/lang/Object")] 2

/-- java/io/Serializable -/
def k4 : Class := { plain "java/io/Serializable" (some 0) with
  accessFlags := 1537
  interfaces := #[]
  cf := some (fileOf pool4 1 #[] #[] 1537 3 #[] #[])
  fields := #[]
  methods := #[]
  instanceTypes := #[]
  staticTypes := #[]
  resolved := Array.replicate 7 none
  statics := none }

def pool5 : Array CpInfo := pool [(2, .class_ 4), (1, u "java/lang/Enum"), (0, u "name"), (0, u "Ljava/lang/String;"), (2, u "ordinal"), (0, u "I"), (1, .class_ 14), (1, u "java/lang/Object"), (4, u "hash"), (86, .class_ 108), (1, u "java/lang/Enum$EnumDesc"), (2, .class_ 112), (0, u "java/lang/constant/Constable"), (0, .class_ 114), (0, u "java/lang/Comparable"), (0, .class_ 116), (0, u "java/io/Serializable")] 87

/-- java/lang/Enum -/
def k5 : Class := { plain "java/lang/Enum" (some 0) with
  accessFlags := 1057
  interfaces := #[2, 3, 4]
  cf := some (fileOf pool5 2 #[.nestMembers #[106]] #[] 1057 12 #[111, 113, 115] #[{ accessFlags := 18, nameIndex := 5, descriptorIndex := 6, attributes := #[] }, { accessFlags := 18, nameIndex := 9, descriptorIndex := 10, attributes := #[] }, { accessFlags := 2, nameIndex := 19, descriptorIndex := 10, attributes := #[] }])
  fields := #[{ name := "name", type := (.object "java/lang/String"), accessFlags := 18, slot := 0, constantValue := 0 }, { name := "ordinal", type := .int, accessFlags := 18, slot := 1, constantValue := 0 }, { name := "hash", type := .int, accessFlags := 2, slot := 2, constantValue := 0 }]
  methods := #[]
  instanceTypes := #[(.object "java/lang/String"), .int, .int]
  staticTypes := #[]
  resolved := Array.replicate 204 none
  statics := none }

def pool6 : Array CpInfo := pool [(1, .class_ 2), (0, u "com/example/featherstar/featherstar/condition/Operator"), (2, u "EQUAL"), (0, u "Lcom/example/featherstar/featherstar/condition/Operator;"), (2, u "NOT_EQUAL"), (2, u "LESS"), (2, u "LESS_OR_EQUAL"), (2, u "GREATER"), (2, u "GREATER_OR_EQUAL"), (2, u "EQUAL_IGNORING_CASE"), (2, u "NOT_EQUAL_IGNORING_CASE"), (2, u "MATCHES"), (2, u "NOT_MATCHES"), (2, u "CONTAINS"), (2, u "STARTS_WITH"), (2, u "ENDS_WITH"), (0, .fieldref 1 44), (0, .nameAndType 45 6), (0, u "EMPTY"), (2, u "$VALUES"), (0, u "[Lcom/example/featherstar/featherstar/condition/Operator;"), (6, .class_ 58), (1, u "java/lang/Enum"), (6, .fieldref 1 66), (0, .nameAndType 67 6), (0, u "negated"), (8, u "types"), (0, u "Ljava/util/Set;"), (48, u "takesOperand"), (0, u "()Z"), (2, u "positive"), (0, u "()Lcom/example/featherstar/featherstar/condition/Operator;")] 5

def k6c0 : Code := { maxStack := 2, maxLocals := 1, code := prog_13_method_6_code, exceptionTable := #[], attributes := #[] }
def k6m0 : Method := { name := "takesOperand", desc := "()Z", sig := { parameters := [], returnType := some .boolean }, accessFlags := 1, code := some k6c0 }
def k6c1 : Code := { maxStack := 1, maxLocals := 1, code := prog_13_method_8_code, exceptionTable := #[], attributes := #[] }
def k6m1 : Method := { name := "positive", desc := "()Lcom/example/featherstar/featherstar/condition/Operator;", sig := { parameters := [], returnType := some (.object "com/example/featherstar/featherstar/condition/Operator") }, accessFlags := 1, code := some k6c1 }
/-- com/example/featherstar/featherstar/condition/Operator -/
def k6 : Class := { plain "com/example/featherstar/featherstar/condition/Operator" (some 5) with
  accessFlags := 16433
  interfaces := #[]
  cf := some (fileOf pool6 1 #[] #[{ accessFlags := 1, nameIndex := 126, descriptorIndex := 127, attributes := #[] }, { accessFlags := 1, nameIndex := 130, descriptorIndex := 131, attributes := #[] }] 16433 56 #[] #[{ accessFlags := 16409, nameIndex := 5, descriptorIndex := 6, attributes := #[] }, { accessFlags := 16409, nameIndex := 9, descriptorIndex := 6, attributes := #[] }, { accessFlags := 16409, nameIndex := 12, descriptorIndex := 6, attributes := #[] }, { accessFlags := 16409, nameIndex := 15, descriptorIndex := 6, attributes := #[] }, { accessFlags := 16409, nameIndex := 18, descriptorIndex := 6, attributes := #[] }, { accessFlags := 16409, nameIndex := 21, descriptorIndex := 6, attributes := #[] }, { accessFlags := 16409, nameIndex := 24, descriptorIndex := 6, attributes := #[] }, { accessFlags := 16409, nameIndex := 27, descriptorIndex := 6, attributes := #[] }, { accessFlags := 16409, nameIndex := 30, descriptorIndex := 6, attributes := #[] }, { accessFlags := 16409, nameIndex := 33, descriptorIndex := 6, attributes := #[] }, { accessFlags := 16409, nameIndex := 36, descriptorIndex := 6, attributes := #[] }, { accessFlags := 16409, nameIndex := 39, descriptorIndex := 6, attributes := #[] }, { accessFlags := 16409, nameIndex := 42, descriptorIndex := 6, attributes := #[] }, { accessFlags := 16409, nameIndex := 45, descriptorIndex := 6, attributes := #[] }, { accessFlags := 18, nameIndex := 67, descriptorIndex := 6, attributes := #[] }, { accessFlags := 18, nameIndex := 76, descriptorIndex := 77, attributes := #[] }, { accessFlags := 4122, nameIndex := 48, descriptorIndex := 49, attributes := #[] }])
  fields := #[{ name := "EQUAL", type := (.object "com/example/featherstar/featherstar/condition/Operator"), accessFlags := 16409, slot := 0, constantValue := 0 }, { name := "NOT_EQUAL", type := (.object "com/example/featherstar/featherstar/condition/Operator"), accessFlags := 16409, slot := 1, constantValue := 0 }, { name := "LESS", type := (.object "com/example/featherstar/featherstar/condition/Operator"), accessFlags := 16409, slot := 2, constantValue := 0 }, { name := "LESS_OR_EQUAL", type := (.object "com/example/featherstar/featherstar/condition/Operator"), accessFlags := 16409, slot := 3, constantValue := 0 }, { name := "GREATER", type := (.object "com/example/featherstar/featherstar/condition/Operator"), accessFlags := 16409, slot := 4, constantValue := 0 }, { name := "GREATER_OR_EQUAL", type := (.object "com/example/featherstar/featherstar/condition/Operator"), accessFlags := 16409, slot := 5, constantValue := 0 }, { name := "EQUAL_IGNORING_CASE", type := (.object "com/example/featherstar/featherstar/condition/Operator"), accessFlags := 16409, slot := 6, constantValue := 0 }, { name := "NOT_EQUAL_IGNORING_CASE", type := (.object "com/example/featherstar/featherstar/condition/Operator"), accessFlags := 16409, slot := 7, constantValue := 0 }, { name := "MATCHES", type := (.object "com/example/featherstar/featherstar/condition/Operator"), accessFlags := 16409, slot := 8, constantValue := 0 }, { name := "NOT_MATCHES", type := (.object "com/example/featherstar/featherstar/condition/Operator"), accessFlags := 16409, slot := 9, constantValue := 0 }, { name := "CONTAINS", type := (.object "com/example/featherstar/featherstar/condition/Operator"), accessFlags := 16409, slot := 10, constantValue := 0 }, { name := "STARTS_WITH", type := (.object "com/example/featherstar/featherstar/condition/Operator"), accessFlags := 16409, slot := 11, constantValue := 0 }, { name := "ENDS_WITH", type := (.object "com/example/featherstar/featherstar/condition/Operator"), accessFlags := 16409, slot := 12, constantValue := 0 }, { name := "EMPTY", type := (.object "com/example/featherstar/featherstar/condition/Operator"), accessFlags := 16409, slot := 13, constantValue := 0 }, { name := "negated", type := (.object "com/example/featherstar/featherstar/condition/Operator"), accessFlags := 18, slot := 3, constantValue := 0 }, { name := "types", type := (.object "java/util/Set"), accessFlags := 18, slot := 4, constantValue := 0 }, { name := "$VALUES", type := (.array (.object "com/example/featherstar/featherstar/condition/Operator")), accessFlags := 4122, slot := 14, constantValue := 0 }]
  methods := #[k6m0, k6m1]
  instanceTypes := #[(.object "java/lang/String"), .int, .int, (.object "com/example/featherstar/featherstar/condition/Operator"), (.object "java/util/Set")]
  staticTypes := #[(.object "com/example/featherstar/featherstar/condition/Operator"), (.object "com/example/featherstar/featherstar/condition/Operator"), (.object "com/example/featherstar/featherstar/condition/Operator"), (.object "com/example/featherstar/featherstar/condition/Operator"), (.object "com/example/featherstar/featherstar/condition/Operator"), (.object "com/example/featherstar/featherstar/condition/Operator"), (.object "com/example/featherstar/featherstar/condition/Operator"), (.object "com/example/featherstar/featherstar/condition/Operator"), (.object "com/example/featherstar/featherstar/condition/Operator"), (.object "com/example/featherstar/featherstar/condition/Operator"), (.object "com/example/featherstar/featherstar/condition/Operator"), (.object "com/example/featherstar/featherstar/condition/Operator"), (.object "com/example/featherstar/featherstar/condition/Operator"), (.object "com/example/featherstar/featherstar/condition/Operator"), (.array (.object "com/example/featherstar/featherstar/condition/Operator"))]
  resolved := Array.replicate 137 none
  statics := some 0 }

def pool7 : Array CpInfo := pool [(1, u "java/lang/Cloneable"), (0, .class_ 1), (0, u "java/lang/Object"), (0, .class_ 3)] 3

/-- java/lang/Cloneable -/
def k7 : Class := { plain "java/lang/Cloneable" (some 0) with
  accessFlags := 1537
  interfaces := #[]
  cf := some (fileOf pool7 2 #[] #[] 1537 4 #[] #[])
  fields := #[]
  methods := #[]
  instanceTypes := #[]
  staticTypes := #[]
  resolved := Array.replicate 8 none
  statics := none }

/-- the primitive byte -/
def k8 : Class := { plain "byte" none with kind := .primitive 'B', accessFlags := 0x411 }
/-- [B -/
def k9 : Class := { plain "[B" (some 0) with kind := .array 8 .byte, interfaces := #[7, 4], accessFlags := 1041 }

/-- the primitive int -/
def k10 : Class := { plain "int" none with kind := .primitive 'I', accessFlags := 0x411 }
/-- [I -/
def k11 : Class := { plain "[I" (some 0) with kind := .array 10 .int, interfaces := #[7, 4], accessFlags := 1041 }

/-- [Lcom/example/featherstar/featherstar/condition/Operator; -/
def k12 : Class := { plain "[Lcom/example/featherstar/featherstar/condition/Operator;" (some 0) with kind := .array 6 (.object "com/example/featherstar/featherstar/condition/Operator"), interfaces := #[7, 4], accessFlags := 1041 }

def heap : Heap := #[{ cls := 6, slots := #[.ref 1, .ref 2, .ref 3, .ref 4, .ref 5, .ref 6, .ref 7, .ref 8, .ref 9, .ref 10, .ref 11, .ref 12, .ref 13, .ref 14, .null], vm := .statics 6 },
  { cls := 6, slots := #[.null, .int 0, .int 0, .null, .null], vm := .none },
  { cls := 6, slots := #[.null, .int 1, .int 0, .ref 1, .null], vm := .none },
  { cls := 6, slots := #[.null, .int 2, .int 0, .null, .null], vm := .none },
  { cls := 6, slots := #[.null, .int 3, .int 0, .null, .null], vm := .none },
  { cls := 6, slots := #[.null, .int 4, .int 0, .null, .null], vm := .none },
  { cls := 6, slots := #[.null, .int 5, .int 0, .null, .null], vm := .none },
  { cls := 6, slots := #[.null, .int 6, .int 0, .null, .null], vm := .none },
  { cls := 6, slots := #[.null, .int 7, .int 0, .ref 7, .null], vm := .none },
  { cls := 6, slots := #[.null, .int 8, .int 0, .null, .null], vm := .none },
  { cls := 6, slots := #[.null, .int 9, .int 0, .ref 9, .null], vm := .none },
  { cls := 6, slots := #[.null, .int 10, .int 0, .null, .null], vm := .none },
  { cls := 6, slots := #[.null, .int 11, .int 0, .null, .null], vm := .none },
  { cls := 6, slots := #[.null, .int 12, .int 0, .null, .null], vm := .none },
  { cls := 6, slots := #[.null, .int 13, .int 0, .null, .null], vm := .none }]
def classes : Array Class := #[k0, k1, k2, k3, k4, k5, k6, k7, k8, k9, k10, k11, k12]
def interned : List (Array UInt16 × Addr) := []
def slotsUsed : Nat := 85
def theMethod : MethodId := ⟨1, 1⟩
def args0 : Array Value := #[.int 5]
def aboutOver (below : List Frame) : State where
  vm := { classes := classes, interned := interned.toArray }
  heap := heap
  slotsUsed := slotsUsed
  threads := #[{ frames := .invoking theMethod args0 :: below }]
def below0 : List Frame := [.native { method := ⟨0, 0⟩, args := #[] }]
def about1 : State := aboutOver below0
def p0 : Program := .bare "" "" ""
def e0 : Env := launch0.env 0 0 0
theorem w_frames : about1.frames = Frame.invoking theMethod args0 :: below0 := rfl
set_option maxRecDepth 65536 in
theorem w_args : argsFit about1.vm theMethod args0 = true := by decide +kernel
set_option maxRecDepth 65536 in
theorem w_heap : heapFits about1 = true := by decide +kernel
set_option maxRecDepth 65536 in
theorem w_runnable : about1.curStatus? = some .runnable := by decide +kernel
set_option maxRecDepth 65536 in
theorem w_alone : about1.alone = true := by decide +kernel
set_option maxRecDepth 65536 in
theorem w_named : about1.methodNamed? x = some theMethod := by decide +kernel
set_option maxRecDepth 65536 in
theorem w_hears : about1.hears theMethod below0 = true := by decide +kernel
set_option maxRecDepth 65536 in
theorem w_ripe : about1.ripe theMethod args0 below0 = true := by decide +kernel
theorem w_running : about1.status = .running := rfl
set_option maxRecDepth 65536 in
theorem w_room : about1.hasRoom e0.platform room_1 = true :=
  launch0.hasRoom_least _ room_1 (by decide +kernel) (by decide +kernel) (by decide +kernel) (by decide +kernel) (by decide +kernel) (by decide +kernel)
theorem allAtoms_all (ts : List Jvm.Cond) (a : Array Jvm.Value) (st : Jvm.State) : (allAtoms ts).before a st = ts.all (fun c => c.before a st) := by
  induction ts with
  | nil => rfl
  | cons c t ih =>
    show (Jvm.Cond.and c (allAtoms t)).before a st = _
    rw [Jvm.Cond.before_and, ih, List.all_cons]
def words1 : List Jvm.Cond := Jvm.Cond.code x code maxLocals ret :: tables_1
/-- a 'code' word, met by the world's own term for the bytes: nothing is compared byte by byte -/
theorem code_word {y : MethodName} {bytes : ByteArray} {mx : Nat} {rt : Option FieldType} {a : Array Value} {s : State} {m : MethodId} {meth : Method} {c : Code} (h1 : s.methodNamed? y = some m) (h2 : s.vm.method? m = some meth) (h3 : meth.code = some c) (h4 : c.code = bytes)
    (h5 : (c.maxLocals == mx && c.exceptionTable.isEmpty && decide (c.maxStack ≤ mostOperands) && decide (meth.sig.returnType = rt) && !meth.locks && decide (parseMethodDescriptor y.desc = some meth.sig)) = true) : (Jvm.Cond.code y bytes mx rt).before a s = true := by
  simp only [Bool.and_eq_true, beq_iff_eq, Bool.not_eq_true', decide_eq_true_eq] at h5
  obtain ⟨⟨⟨⟨⟨g1, g2⟩, g3⟩, g4⟩, g5⟩, g6⟩ := h5
  simp [Cond.before, Cond.holds, Cond.value, h1, h2, h3, h4, g1, g2, g3, g4, g5, g6]
def isCode : Jvm.Cond → Bool
  | .code _ _ _ _ => true
  | _ => false
theorem all_split {L : List Jvm.Cond} {P : Jvm.Cond → Bool} (h1 : L.all (fun c => isCode c || P c) = true) (h2 : ∀ c ∈ L.filter isCode, P c = true) : L.all P = true := by
  refine List.all_eq_true.mpr fun c hc => ?_
  have h := List.all_eq_true.mp h1 c hc
  rcases Bool.eq_false_or_eq_true (isCode c) with hi | hi
  · exact h2 c (List.mem_filter.mpr ⟨hc, hi⟩)
  · simpa [hi] using h
set_option maxRecDepth 65536 in
theorem w_c0 : (Jvm.Cond.code x code maxLocals ret).before args0 about1 = true := code_word (m := ⟨1, 1⟩) (meth := k1m1) (c := k1c1) (by decide +kernel) rfl rfl rfl (by decide +kernel)
set_option maxRecDepth 65536 in
theorem w_c1 : (Jvm.Cond.code ({ cls := "com/example/featherstar/featherstar/condition/Operator", name := "takesOperand", desc := "()Z" } : Jvm.MethodName) prog_13_method_6_code (1 : Nat) (Option.some Jvm.ClassFile.FieldType.boolean)).before args0 about1 = true := code_word (m := ⟨6, 0⟩) (meth := k6m0) (c := k6c0) (by decide +kernel) rfl rfl rfl (by decide +kernel)
set_option maxRecDepth 65536 in
theorem w_c2 : (Jvm.Cond.code ({ cls := "com/example/featherstar/featherstar/condition/Operator", name := "positive", desc := "()Lcom/example/featherstar/featherstar/condition/Operator;" } : Jvm.MethodName) prog_13_method_8_code (1 : Nat) (Option.some (Jvm.ClassFile.FieldType.object "com/example/featherstar/featherstar/condition/Operator"))).before args0 about1 = true := code_word (m := ⟨6, 1⟩) (meth := k6m1) (c := k6c1) (by decide +kernel) rfl rfl rfl (by decide +kernel)
def codes1 : List Jvm.Cond := [Jvm.Cond.code x code maxLocals ret, Jvm.Cond.code ({ cls := "com/example/featherstar/featherstar/condition/Operator", name := "takesOperand", desc := "()Z" } : Jvm.MethodName) prog_13_method_6_code (1 : Nat) (Option.some Jvm.ClassFile.FieldType.boolean), Jvm.Cond.code ({ cls := "com/example/featherstar/featherstar/condition/Operator", name := "positive", desc := "()Lcom/example/featherstar/featherstar/condition/Operator;" } : Jvm.MethodName) prog_13_method_8_code (1 : Nat) (Option.some (Jvm.ClassFile.FieldType.object "com/example/featherstar/featherstar/condition/Operator"))]
set_option maxRecDepth 65536 in
theorem codes_eq : words1.filter isCode = codes1 := rfl
theorem w_codes : ∀ c ∈ words1.filter isCode, c.before args0 about1 = true := by
  rw [codes_eq]
  intro c hc
  simp only [codes1, List.mem_cons, List.not_mem_nil, or_false] at hc
  rcases hc with rfl | rfl | rfl
  · exact w_c0
  · exact w_c1
  · exact w_c2
set_option maxRecDepth 65536 in
theorem w_t1 : (words1.take 24).all (fun c => isCode c || c.before args0 about1) = true := by decide +kernel
set_option maxRecDepth 65536 in
theorem w_t2 : (words1.drop 24).all (fun c => isCode c || c.before args0 about1) = true := by decide +kernel
theorem w_tables : (allAtoms (Jvm.Cond.code x code maxLocals ret :: tables_1)).before args0 about1 = true := by
  rw [allAtoms_all]
  show words1.all (fun c => c.before args0 about1) = true
  refine all_split ?_ w_codes
  rw [← List.take_append_drop 24 words1, List.all_append, w_t1, w_t2]
  rfl
set_option maxRecDepth 65536 in
theorem w_case : (Jvm.Cond.and given_1 narrow_1).before args0 about1 = true := by decide +kernel
theorem w_applies : (headSpec (Jvm.Cond.code x code maxLocals ret :: tables_1) room_1).applies x e0.platform about1 = true :=
  (Spec.applies_iff w_frames).mpr ⟨w_running, w_runnable, w_alone, w_named, w_hears, w_ripe, w_room, w_tables⟩
theorem atStart : AtStart classFile x code maxLocals ret World_1 tables_1 room_1 Calls_1 rest_1 Pre_1 launch0 p0 e0 about1 theMethod args0 below0 :=
  ⟨lists_1, trivial, launch0.admits_env _ _ _, launch0.least_env, fairChoices_fair.cas, fairChoices_fair.clock, w_frames, w_args, w_heap, w_applies, trivial, trivial, w_case⟩
end start1
theorem witness_1 : WitnessClaimed_1 := ⟨start1.p0, start1.e0, start1.about1, start1.theMethod, start1.args0, start1.below0, start1.atStart⟩
end Jvm.Pilot.@@N@@
