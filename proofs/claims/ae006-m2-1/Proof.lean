import JvmDerived
import JvmDerived.Pilot.@@N@@Statement
import JvmDerived.Pilot.@@N@@Code
set_option linter.unusedVariables false
set_option linter.unusedSimpArgs false
@@BLOCK:NumsL.lean.txt@@
namespace Jvm.Pilot.@@N@@
open Jvm Jvm.ClassFile Sem Op Lib Jvm.Free Jvm.Stand Jvm.LawKit Jvm.RoadKit Bundle Jvm.Pilot.@@N@@.Jvm.D

/-! the walk's goal, read backwards: from here the run comes to its end -/
def own_Done (p : Program) (e : Env) (below : List Frame) (W : State) (Q : Outcome → State → Prop) : Prop := ∃ s₂ o, Steps p.tables e below W s₂ ∧ s₂.status = .running ∧ Ended s₂ below o ∧ Q o s₂
theorem own_step {p : Program} {e : Env} {below : List Frame} {W W' : State} {Q : Outcome → State → Prop} (st : ∀ t, Steps p.tables e below W' t → Steps p.tables e below W t) (h : own_Done p e below W' Q) : own_Done p e below W Q := by
  obtain ⟨s2, o, h1, r⟩ := h
  exact ⟨s2, o, st _ h1, r⟩
theorem own_enter {p : Program} {e : Env} {below : List Frame} {T : State} {g g' : JFrame} {Q : Outcome → State → Prop} (q : g = g') (h : own_Done p e below (T.setTop g') Q) : ∃ s₂ o, Steps p.tables e below (T.setTop g) s₂ ∧ s₂.status = .running ∧ Ended s₂ below o ∧ Q o s₂ := by
  subst q; exact h
theorem own_ret {p : Program} {l : Launch} {e : Env} {R : Room} {s : State} {m : MethodId} {args : Array Value} {below : List Frame} {meth : Method} {c : Code} {T W : State} {locs : List Loc} {cells slots k n : Nat} {r : Option Value → Heap → List Loc → Prop} {v : Value} {t : FieldType}
    (X : Stand p l e R s m args below meth c T locs cells slots) (hlocks : meth.locks = false) (hret : meth.sig.returnType = some t)
    (hs : ∀ fs : List Frame, (∀ (f : JFrame) (acts : List Action), f.method = m → f.locked = none → f.entered = [] → (doReturn e (T.setTop f) acts (some v)).1 = T.setFrames fs) → Steps p.tables e below W (T.setFrames fs))
    (hq : r (some v) T.heap locs) (hk : cells ≤ k) (hn : slots ≤ n) : own_Done p e below W (fun o U' => ∃ v L, o = .returned v ∧ r v U'.heap L ∧ FrameEnd s o U' L k n) := by
  obtain ⟨fs, hr, hrun, hended, hW, hsame⟩ := X.leave (v := some v) (fun h => by rw [hret] at h; cases h) hlocks
  exact ⟨_, _, hs fs hr, hrun, hended, _, _, rfl, hq, ⟨_, rfl⟩, hW, hsame.mono hk hn⟩
theorem own_ret0 {p : Program} {l : Launch} {e : Env} {R : Room} {s : State} {m : MethodId} {args : Array Value} {below : List Frame} {meth : Method} {c : Code} {T W : State} {locs : List Loc} {cells slots k n : Nat} {r : Option Value → Heap → List Loc → Prop}
    (X : Stand p l e R s m args below meth c T locs cells slots) (hlocks : meth.locks = false) (hret : meth.sig.returnType = none)
    (hs : ∀ fs : List Frame, (∀ (f : JFrame) (acts : List Action), f.method = m → f.locked = none → f.entered = [] → (doReturn e (T.setTop f) acts none).1 = T.setFrames fs) → Steps p.tables e below W (T.setFrames fs))
    (hq : r none T.heap locs) (hk : cells ≤ k) (hn : slots ≤ n) : own_Done p e below W (fun o U' => ∃ v L, o = .returned v ∧ r v U'.heap L ∧ FrameEnd s o U' L k n) := by
  obtain ⟨fs, hr, hrun, hended, hW, hsame⟩ := X.leave (v := none) (fun _ => rfl) hlocks
  exact ⟨_, _, hs fs hr, hrun, hended, _, _, rfl, hq, ⟨_, rfl⟩, hW, hsame.mono hk hn⟩
/-- a body that writes nothing and returns r -/
def own_QK (r : Option Value) (h0 : Heap) (n0 : Nat) (v : Option Value) (h : Heap) (L : List Loc) : Prop := v = r ∧ Fr n0 L ∧ h = h0
/-- the law itself -/
def own_Q0 (n0 : Nat) (v : Option Value) (h : Heap) (L : List Loc) : Prop := v = some (.int (1 : Int32)) ∧ Fr n0 L

theorem own_eqJ {args : Array Value} {first s : State} {o : Option Outcome} {idx : List Nat} {t : Term} {k : Int64} (h : (Cond.eq t (.long k)).value args first o s idx = some true) : t.eval args first o idx s = some (.long k) := by
  obtain ⟨u, w, e1, e2, -, k2⟩ := cmp_v (Or.inl h)
  have e3 : (Term.long k).eval args first o idx s = some (.long k) := rfl
  cases e3.symm.trans e2
  obtain ⟨z, rfl⟩ := k2
  rw [e1]
  have := gotT (eq_L e1 e3) h
  rw [this]
theorem own_fldI {Z : State} {args : Array Value} {t : Term} {a : Addr} {C n d : String} {k : Int32} (ev : t.eval args Z none [] Z = some (.ref a)) (h : (Cond.eq (.field t C n d) (.int k)).value args Z none Z [] = some true) : Fld Z Z.heap a C n d (.int k) := by
  refine Fld.start ?_
  rw [← fld_at (C := C) (n := n) (dd := d) ev]
  obtain ⟨u, w, e1, e2, -, k2⟩ := cmp_v (Or.inl h)
  cases (Term.int_eval k).symm.trans e2
  obtain ⟨z, rfl⟩ := k2
  rw [e1]
  simp [Cond.value, e1, Term.int_eval] at h
  rw [h]
theorem own_fldN {Z : State} {args : Array Value} {t : Term} {a : Addr} {C n d : String} (ev : t.eval args Z none [] Z = some (.ref a)) (h : (Cond.eq (.field t C n d) .null).value args Z none Z [] = some true) : Fld Z Z.heap a C n d .null := by
  refine Fld.start ?_
  rw [← fld_at (C := C) (n := n) (dd := d) ev]
  exact null_v h
theorem own_fldR {Z : State} {args : Array Value} {t u : Term} {a b : Addr} {C n d : String} (ev : t.eval args Z none [] Z = some (.ref a)) (eu : u.eval args Z none [] Z = some (.ref b)) (h : (Cond.eq (.field t C n d) u).value args Z none Z [] = some true) : Fld Z Z.heap a C n d (.ref b) := by
  refine Fld.start ?_
  rw [← fld_at (C := C) (n := n) (dd := d) ev]
  obtain ⟨x, w, e1, e2, k1, k2⟩ := cmp_v (Or.inl h)
  cases eu.symm.trans e2
  obtain ⟨-, hx⟩ := k2
  rw [e1]
  have := gotT (eq_R e1 eu hx rfl) h
  rw [this]

theorem own_mask (p : Int32) : 0 ≤ (p &&& (2147483647 : Int32)).toInt := by
  have e1 : (p &&& (2147483647 : Int32)).toInt = p.toInt % 2 ^ 31 := Jvm.Kit.i32_mask p 2147483647 (k := 31) (by decide) (by decide)
  omega
theorem own_rem (p q : Int32) (h : 0 < q.toInt) : 0 ≤ ((p &&& (2147483647 : Int32)) % q).toInt ∧ ((p &&& (2147483647 : Int32)) % q).toInt < q.toInt := by
  have h0 := own_mask p
  rw [Int32.toInt_mod]
  exact ⟨Int.tmod_nonneg _ h0, Int.tmod_lt_of_pos _ h⟩
theorem own_m3 (p : Int32) : ((p &&& (2147483647 : Int32)) % (3 : Int32)) = (0 : Int32) ∨ ((p &&& (2147483647 : Int32)) % (3 : Int32)) = (1 : Int32) ∨ ((p &&& (2147483647 : Int32)) % (3 : Int32)) = (2 : Int32) := by
  have h := own_rem p (3 : Int32) (by decide)
  have hq : (3 : Int32).toInt = 3 := by decide
  rw [hq] at h
  generalize ((p &&& (2147483647 : Int32)) % (3 : Int32)) = z at h
  have hz : z.toInt = 0 ∨ z.toInt = 1 ∨ z.toInt = 2 := by omega
  rcases hz with hz | hz | hz
  · exact Or.inl (Int32.toInt_inj.mp (hz.trans (by decide)))
  · exact Or.inr (Or.inl (Int32.toInt_inj.mp (hz.trans (by decide))))
  · exact Or.inr (Or.inr ((Int32.toInt_inj.mp (hz.trans (by decide)))))

theorem own_extWr {h0 h h' : Heap} {a : Addr} {sl : Nat} {v : Value} (E : Ext h0 h) (W : Wr h h' a sl v) (q : h0.size ≤ a) : Ext h0 h' :=
  ⟨by rw [W.size]; exact E.1, fun x c hx => by
    have hlt := (Array.getElem?_eq_some_iff.mp hx).1
    exact (Keep.of_wr W).2.1 x c (E.2 x c hx) (ninS (Nat.ne_of_lt (Nat.lt_of_lt_of_le hlt q)) nin0)⟩
theorem own_extTrans {h0 h h' : Heap} (E : Ext h0 h) (F : Ext h h') : Ext h0 h' := ⟨Nat.le_trans E.1 F.1, fun x c hx => F.2 x c (E.2 x c hx)⟩
theorem own_new {Z : State} {h : Heap} {a : Addr} {k : ClassId} {ty : FieldType} {z : Int32} {n : Nat} (A : Arr Z h a (newA k ty z) ty) (q : ¬ z < 0) (hn : z.toNatClampNeg = n) : Arv Z h a k ty z (List.replicate n (defaultValue ty)) (defaultValue ty) :=
  (Arv.new A q).pad (pad_rep [] (defaultValue ty) n)
section OwnArr
variable {p : Program} {l : Launch} {e : Env} {R : Room} {s : State} {m : MethodId} {args : Array Value} {below : List Frame} {meth : Method} {c : Code} {T : State} {locs : List Loc} {cells slots : Nat} {Z : State} {h h0 : Heap} {a : Addr} {k : ClassId} {n : Int32} {vs : List Value} {dv : Value} {n0 : Nat}
theorem own_stZ (X : Stand p l e R s m args below meth c T locs cells slots) (hx : p.tables.exec = Jvm.exec) (hZ : Z.Warmed39 s.vm) (eT : T.heap = h) (A : Arv Z h a k .boolean n vs dv) {j x : Int32} {i : Nat} (hj : ¬ j < 0 ∧ j < n) (hi : j.toNatClampNeg = i) (hlt : i < vs.length) (E0 : Ext h0 h) (hb : h0.size ≤ a) (N0 : Fr n0 locs) (hn0 : n0 ≤ a)
    {g : JFrame} (hg : g.method = m) {rest : List Value} (hs : g.stack = .int x :: .int j :: .ref a :: rest) (hd : decode c.code g.pc = .ok (.bastore, 1)) :
    ∃ T' h' L', Stand p l e R s m args below meth c T' L' cells slots ∧ T'.heap = h' ∧ Ext h0 h' ∧ Fr n0 L' ∧ Arv Z h' a k .boolean n (vs.set i (.int (nar .boolean x))) dv ∧ ∀ target, Steps p.tables e below (T'.setTop { g with pc := g.pc + 1, stack := rest }) target → Steps p.tables e below (T.setTop g) target := by
  obtain ⟨cl, Ar, q, S, N, H, G⟩ := A
  obtain ⟨T', h', X', e', W, st⟩ := stZ X hx hZ eT Ar (j := j) (x := x) (inb_of S hj) hg hs hd
  exact ⟨T', h', _, X', e', own_extWr E0 W hb, Fr.snoc X' N0 hn0, Arv.set Ar q S N H G (fits_nar_bool x) W i hi hlt, st⟩
theorem own_stB (X : Stand p l e R s m args below meth c T locs cells slots) (hx : p.tables.exec = Jvm.exec) (hZ : Z.Warmed39 s.vm) (eT : T.heap = h) (A : Arv Z h a k .byte n vs dv) {j x : Int32} {i : Nat} (hj : ¬ j < 0 ∧ j < n) (hi : j.toNatClampNeg = i) (hlt : i < vs.length) (E0 : Ext h0 h) (hb : h0.size ≤ a) (N0 : Fr n0 locs) (hn0 : n0 ≤ a)
    {g : JFrame} (hg : g.method = m) {rest : List Value} (hs : g.stack = .int x :: .int j :: .ref a :: rest) (hd : decode c.code g.pc = .ok (.bastore, 1)) :
    ∃ T' h' L', Stand p l e R s m args below meth c T' L' cells slots ∧ T'.heap = h' ∧ Ext h0 h' ∧ Fr n0 L' ∧ Arv Z h' a k .byte n (vs.set i (.int (nar .byte x))) dv ∧ ∀ target, Steps p.tables e below (T'.setTop { g with pc := g.pc + 1, stack := rest }) target → Steps p.tables e below (T.setTop g) target := by
  obtain ⟨cl, Ar, q, S, N, H, G⟩ := A
  obtain ⟨T', h', X', e', W, st⟩ := stB X hx hZ eT Ar (j := j) (x := x) (inb_of S hj) hg hs hd
  exact ⟨T', h', _, X', e', own_extWr E0 W hb, Fr.snoc X' N0 hn0, Arv.set Ar q S N H G (fits_nar_byte x) W i hi hlt, st⟩
theorem own_stR (X : Stand p l e R s m args below meth c T locs cells slots) (hx : p.tables.exec = Jvm.exec) (hZ : Z.Warmed39 s.vm) (eT : T.heap = h) {C : String} (A : Arv Z h a k (.object C) n vs dv) (O : Ovr Z k C) {j : Int32} {y : Addr} (Y : Exa Z h y C) {i : Nat} (hj : ¬ j < 0 ∧ j < n) (hi : j.toNatClampNeg = i) (hlt : i < vs.length) (E0 : Ext h0 h) (hb : h0.size ≤ a) (N0 : Fr n0 locs) (hn0 : n0 ≤ a)
    {g : JFrame} (hg : g.method = m) {rest : List Value} (hs : g.stack = .ref y :: .int j :: .ref a :: rest) (hd : decode c.code g.pc = .ok (.aastore, 1)) :
    ∃ T' h' L', Stand p l e R s m args below meth c T' L' cells slots ∧ T'.heap = h' ∧ Ext h0 h' ∧ Fr n0 L' ∧ Arv Z h' a k (.object C) n (vs.set i (.ref y)) dv ∧ ∀ target, Steps p.tables e below (T'.setTop { g with pc := g.pc + 1, stack := rest }) target → Steps p.tables e below (T.setTop g) target := by
  obtain ⟨cl, Ar, q, S, N, H, G⟩ := A
  obtain ⟨T', h', X', e', W, st⟩ := stR X hx hZ eT Ar (j := j) (v := .ref y) (inb_of S hj) rfl (Sto.ofV Ar q O (Ins.self Y)) hg hs hd
  exact ⟨T', h', _, X', e', own_extWr E0 W hb, Fr.snoc X' N0 hn0, Arv.set Ar q S N H G rfl W i hi hlt, st⟩
theorem own_ldZ (X : Stand p l e R s m args below meth c T locs cells slots) (hx : p.tables.exec = Jvm.exec) (hZ : Z.Warmed39 s.vm) (eT : T.heap = h) (A : Arv Z h a k .boolean n vs dv) {j : Int32} {v : Value} (hj : ¬ j < 0 ∧ j < n) (hv : vs.getD j.toNatClampNeg dv = v)
    {g : JFrame} (hg : g.method = m) {rest : List Value} (hs : g.stack = .int j :: .ref a :: rest) (hd : decode c.code g.pc = .ok (.baload, 1)) (target : State)
    (hr : Steps p.tables e below (T.setTop { g with pc := g.pc + 1, stack := v :: rest }) target) : Steps p.tables e below (T.setTop g) target := by
  obtain ⟨cl, Ar, q, S, N, H, G⟩ := A
  exact X.baloadBooleans hx (by rw [eT]; exact Ar.1) (State.isArrayOf_alike hZ.alike Ar.2.1) Ar.2.2 (inb_of S hj) (Has.at H (inb_of S hj) hv) hg hs hd target hr
theorem own_ldB (X : Stand p l e R s m args below meth c T locs cells slots) (hx : p.tables.exec = Jvm.exec) (hZ : Z.Warmed39 s.vm) (eT : T.heap = h) (A : Arv Z h a k .byte n vs dv) {j : Int32} {v : Value} (hj : ¬ j < 0 ∧ j < n) (hv : vs.getD j.toNatClampNeg dv = v)
    {g : JFrame} (hg : g.method = m) {rest : List Value} (hs : g.stack = .int j :: .ref a :: rest) (hd : decode c.code g.pc = .ok (.baload, 1)) (target : State)
    (hr : Steps p.tables e below (T.setTop { g with pc := g.pc + 1, stack := v :: rest }) target) : Steps p.tables e below (T.setTop g) target := by
  obtain ⟨cl, Ar, q, S, N, H, G⟩ := A
  exact X.baloadBytes hx (by rw [eT]; exact Ar.1) (State.isArrayOf_alike hZ.alike Ar.2.1) Ar.2.2 (inb_of S hj) (Has.at H (inb_of S hj) hv) hg hs hd target hr
theorem own_ldR (X : Stand p l e R s m args below meth c T locs cells slots) (hx : p.tables.exec = Jvm.exec) (hZ : Z.Warmed39 s.vm) (eT : T.heap = h) {C : String} (A : Arv Z h a k (.object C) n vs dv) {j : Int32} {v : Value} (hj : ¬ j < 0 ∧ j < n) (hv : vs.getD j.toNatClampNeg dv = v)
    {g : JFrame} (hg : g.method = m) {rest : List Value} (hs : g.stack = .int j :: .ref a :: rest) (hd : decode c.code g.pc = .ok (.aaload, 1)) (target : State)
    (hr : Steps p.tables e below (T.setTop { g with pc := g.pc + 1, stack := v :: rest }) target) : Steps p.tables e below (T.setTop g) target := by
  obtain ⟨cl, Ar, q, S, N, H, G⟩ := A
  exact X.aaload hx (by rw [eT]; exact Ar.1) (State.isArrayOf_alike hZ.alike Ar.2.1) rfl Ar.2.2 (inb_of S hj) (Has.at H (inb_of S hj) hv) hg hs hd target hr
end OwnArr
theorem d1_0 : decode method_2_code 0 = .ok (.iload_n 0, 1) := by decide +kernel
theorem d1_1 : decode method_2_code 1 = .ok (.ifCond .ne 7, 3) := by decide +kernel
theorem d1_4 : decode method_2_code 4 = .ok (.getstatic 7, 3) := by decide +kernel
theorem d1_7 : decode method_2_code 7 = .ok (.areturn, 1) := by decide +kernel
theorem ef_1_I (m : MethodId) (x0 : Int32) : entryFrame m #[(.int x0)] 1 = mkF m 0 #[.val (.int x0)] [] := by first | (simp [entryFrame, mkF, argsToLocals, Value.category]; done) | rfl
theorem pn_com_example_levy_levy_ScopeGrantsPinLaw : plainName "com/example/levy/levy/ScopeGrantsPinLaw" = true := by first | (simp [plainName, overriddenIn]; done) | decide +kernel
theorem pd_0 : parseMethodDescriptor "(I)Lcom/example/levy/levy/Scope;" = some ⟨[.int], some (.object "com/example/levy/levy/Scope")⟩ := by decide +kernel
theorem d2_0 : decode prog_23_method_5_code 0 = .ok (.aload_n 0, 1) := by decide +kernel
theorem d2_1 : decode prog_23_method_5_code 1 = .ok (.getstatic 10, 3) := by decide +kernel
theorem d2_4 : decode prog_23_method_5_code 4 = .ok (.if_acmp .eq 8, 3) := by decide +kernel
theorem d2_7 : decode prog_23_method_5_code 7 = .ok (.aload_n 0, 1) := by decide +kernel
theorem d2_8 : decode prog_23_method_5_code 8 = .ok (.aload_n 1, 1) := by decide +kernel
theorem d2_9 : decode prog_23_method_5_code 9 = .ok (.if_acmp .ne 7, 3) := by decide +kernel
theorem d2_12 : decode prog_23_method_5_code 12 = .ok (.iconst 1, 1) := by decide +kernel
theorem d2_13 : decode prog_23_method_5_code 13 = .ok (.goto 4, 3) := by decide +kernel
theorem d2_17 : decode prog_23_method_5_code 17 = .ok (.ireturn, 1) := by decide +kernel
theorem ef_2_RR (m : MethodId) (x0 : Addr) (x1 : Addr) : entryFrame m #[(.ref x0), (.ref x1)] 2 = mkF m 0 #[.val (.ref x0), .val (.ref x1)] [] := by first | (simp [entryFrame, mkF, argsToLocals, Value.category]; done) | rfl
theorem pn_com_example_levy_levy_Scope : plainName "com/example/levy/levy/Scope" = true := by first | (simp [plainName, overriddenIn]; done) | decide +kernel
theorem pd_1 : parseMethodDescriptor "(Lcom/example/levy/levy/Scope;)Z" = some ⟨[(.object "com/example/levy/levy/Scope")], some .boolean⟩ := by decide +kernel
theorem ef_0_II (m : MethodId) (x0 : Int32) (x1 : Int32) : entryFrame m #[(.int x0), (.int x1)] maxLocals = mkF m 0 #[.val (.int x0), .val (.int x1), .unset, .unset, .unset, .unset, .unset] [] := by first | (simp [entryFrame, mkF, argsToLocals, Value.category, maxLocals]; done) | rfl
theorem d1_8 : decode method_2_code 8 = .ok (.iload_n 0, 1) := by decide +kernel
theorem d1_9 : decode method_2_code 9 = .ok (.iconst 1, 1) := by decide +kernel
theorem d1_10 : decode method_2_code 10 = .ok (.if_icmp .ne 7, 3) := by decide +kernel
theorem d1_13 : decode method_2_code 13 = .ok (.getstatic 13, 3) := by decide +kernel
theorem d1_16 : decode method_2_code 16 = .ok (.areturn, 1) := by decide +kernel
theorem d2_16 : decode prog_23_method_5_code 16 = .ok (.iconst 0, 1) := by decide +kernel
theorem d1_17 : decode method_2_code 17 = .ok (.getstatic 16, 3) := by decide +kernel
theorem d1_20 : decode method_2_code 20 = .ok (.areturn, 1) := by decide +kernel
/-- what the case pins of the constants -/
def Pins (Z : State) (h : Heap) (w : Nat → Addr) : Prop := Exa Z h (w 0) "com/example/levy/levy/Scope" ∧ Sta Z h "com/example/levy/levy/Scope" "INGEST" "Lcom/example/levy/levy/Scope;" (.ref (w 0)) ∧ Exa Z h (w 1) "com/example/levy/levy/Scope" ∧ Sta Z h "com/example/levy/levy/Scope" "ADMIN" "Lcom/example/levy/levy/Scope;" (.ref (w 1)) ∧ Fld Z h (w 0) "java/lang/Enum" "ordinal" "I" (.int (0 : Int32)) ∧ Fld Z h (w 1) "java/lang/Enum" "ordinal" "I" (.int (2 : Int32)) ∧ Exa Z h (w 2) "com/example/levy/levy/Scope" ∧ Sta Z h "com/example/levy/levy/Scope" "READ" "Lcom/example/levy/levy/Scope;" (.ref (w 2)) ∧ Fld Z h (w 2) "java/lang/Enum" "ordinal" "I" (.int (1 : Int32))
theorem pin_E0 {Z : State} {h : Heap} {w : Nat → Addr} (P : Pins Z h w) : Exa Z h (w 0) "com/example/levy/levy/Scope" := P.1
theorem pin_S0 {Z : State} {h : Heap} {w : Nat → Addr} (P : Pins Z h w) : Sta Z h "com/example/levy/levy/Scope" "INGEST" "Lcom/example/levy/levy/Scope;" (.ref (w 0)) := P.2.1
theorem pin_E1 {Z : State} {h : Heap} {w : Nat → Addr} (P : Pins Z h w) : Exa Z h (w 1) "com/example/levy/levy/Scope" := P.2.2.1
theorem pin_S1 {Z : State} {h : Heap} {w : Nat → Addr} (P : Pins Z h w) : Sta Z h "com/example/levy/levy/Scope" "ADMIN" "Lcom/example/levy/levy/Scope;" (.ref (w 1)) := P.2.2.2.1
theorem pin_F0_ordinal {Z : State} {h : Heap} {w : Nat → Addr} (P : Pins Z h w) : Fld Z h (w 0) "java/lang/Enum" "ordinal" "I" (.int (0 : Int32)) := P.2.2.2.2.1
theorem pin_F1_ordinal {Z : State} {h : Heap} {w : Nat → Addr} (P : Pins Z h w) : Fld Z h (w 1) "java/lang/Enum" "ordinal" "I" (.int (2 : Int32)) := P.2.2.2.2.2.1
theorem pin_E2 {Z : State} {h : Heap} {w : Nat → Addr} (P : Pins Z h w) : Exa Z h (w 2) "com/example/levy/levy/Scope" := P.2.2.2.2.2.2.1
theorem pin_S2 {Z : State} {h : Heap} {w : Nat → Addr} (P : Pins Z h w) : Sta Z h "com/example/levy/levy/Scope" "READ" "Lcom/example/levy/levy/Scope;" (.ref (w 2)) := P.2.2.2.2.2.2.2.1
theorem pin_F2_ordinal {Z : State} {h : Heap} {w : Nat → Addr} (P : Pins Z h w) : Fld Z h (w 2) "java/lang/Enum" "ordinal" "I" (.int (1 : Int32)) := P.2.2.2.2.2.2.2.2
theorem Pins.ext {Z : State} {h h' : Heap} {w : Nat → Addr} (E : Ext h h') (P : Pins Z h w) : Pins Z h' w := ⟨Exa.ext E (pin_E0 P), Sta.ext E (pin_S0 P), Exa.ext E (pin_E1 P), Sta.ext E (pin_S1 P), Fld.ext E (pin_F0_ordinal P), Fld.ext E (pin_F1_ordinal P), Exa.ext E (pin_E2 P), Sta.ext E (pin_S2 P), Fld.ext E (pin_F2_ordinal P)⟩
set_option maxRecDepth 65536 in
theorem own_pins {s : State} {args : Array Value} (hw : ∀ d ∈ tables_1, d.before args s = true) (hn : narrow_1.value args s none s [] = some true) : ∃ w, Pins s s.heap w := by
  obtain ⟨c0, hn⟩ := and_e hn
  obtain ⟨c1, hn⟩ := and_e hn
  obtain ⟨c2, hn⟩ := and_e hn
  obtain ⟨c3, hn⟩ := and_e hn
  obtain ⟨c4, hn⟩ := and_e hn
  have c5 := hn
  obtain ⟨a0, ev0⟩ := exa_v c0
  obtain ⟨a1, ev1⟩ := exa_v c1
  obtain ⟨a2, ev2⟩ := exa_v c4
  have E0 := Exa.start ev0 c0
  have S0 := Sta.start ev0 (Or.inr ⟨(hw _ (List.mem_of_getElem? (i := 7) rfl)), (hw _ (List.mem_of_getElem? (i := 8) rfl))⟩)
  have E1 := Exa.start ev1 c1
  have S1 := Sta.start ev1 (Or.inr ⟨(hw _ (List.mem_of_getElem? (i := 7) rfl)), (hw _ (List.mem_of_getElem? (i := 15) rfl))⟩)
  have F0_ordinal := own_fldI ev0 c2
  have F1_ordinal := own_fldI ev1 c3
  have E2 := Exa.start ev2 c4
  have S2 := Sta.start ev2 (Or.inr ⟨(hw _ (List.mem_of_getElem? (i := 7) rfl)), (hw _ (List.mem_of_getElem? (i := 18) rfl))⟩)
  have F2_ordinal := own_fldI ev2 c5
  exact ⟨fun i => [a0, a1, a2].getD i 0, E0, S0, E1, S1, F0_ordinal, F1_ordinal, E2, S2, F2_ordinal⟩
set_option maxRecDepth 65536 in
set_option maxHeartbeats 40000000 in
theorem own_fill {p : Program} {l : Launch} {e : Env} {s : State} {m : MethodId} {args : Array Value} {below : List Frame} {meth : Method} {c : Code} {s₁ : State} {Z : State} {a0 : Array Value} {h0 : Heap} {n0 : Nat} {w : Nat → Addr} {Q : Outcome → State → Prop} (p1 p2 i2 i3 : Int32)
    (X0 : Stand p l e room_1 s m args below meth c s₁ [] 0 0) (hx : p.tables.exec = Jvm.exec) (hZ : Z.Warmed39 s.vm) (hw : ∀ d ∈ tables_1, d.before a0 Z = true) (hby : c.code = code) (hml : c.maxLocals = 7) (hown : s.vm.findClass "com/example/levy/levy/ScopeGrantsPinLaw" = some m.cls) (e0 : s₁.heap = h0) (N0 : Fr n0 []) (Z0 : n0 ≤ h0.size) (P : Pins Z h0 w)
    (kt : ∀ (T1 : State) (h1 : Heap) (L1 : List Loc) (k1 : ClassId) (b1 : Addr), Stand p l e room_1 s m args below meth c T1 L1 (0 + 1) (0 + 9) → T1.heap = h1 → Ext h0 h1 → Fr n0 L1 → Arv Z h1 b1 k1 .boolean (9 : Int32) [(.int (nar .boolean (1 : Int32))), (.int (nar .boolean (0 : Int32))), (.int (nar .boolean (0 : Int32))), (.int (nar .boolean (0 : Int32))), (.int (nar .boolean (1 : Int32))), (.int (nar .boolean (0 : Int32))), (.int (nar .boolean (1 : Int32))), (.int (nar .boolean (1 : Int32))), (.int (nar .boolean (1 : Int32)))] (.int (0 : Int32)) → own_Done p e below (T1.setTop (mkF m 57 #[.val (.int p1), .val (.int p2), .val (.int i2), .val (.int i3), .unset, .unset, .unset] [(.ref b1)])) Q) :
    own_Done p e below (s₁.setTop (mkF m 14 #[.val (.int p1), .val (.int p2), .val (.int i2), .val (.int i3), .unset, .unset, .unset] [])) Q := by
  refine own_step (W' := s₁.setTop (mkF m 16 #[.val (.int p1), .val (.int p2), .val (.int i2), .val (.int i3), .unset, .unset, .unset] [(.int (9 : Int32))])) (fun _ k => XS.bipush X0.here hx rfl (hb hby at_14) k) ?_
  obtain ⟨T1, h1, k1, X1, e1, F1, A1, st1⟩ := newP X0 hx hZ (hw _ (List.mem_of_getElem? (i := 1) rfl)) e0 (g := (mkF m 16 #[.val (.int p1), .val (.int p2), .val (.int i2), .val (.int i3), .unset, .unset, .unset] [(.int (9 : Int32))])) rfl (hb hby at_16) rfl (by decide) (cap := 9) (by decide) (by decide) (by decide) (by decide)
  obtain ⟨b1, g1⟩ : ∃ z, z = h0.size := ⟨_, rfl⟩
  rw [← g1] at A1 st1
  have V1 : Arv Z h1 b1 k1 .boolean (9 : Int32) [(.int (0 : Int32)), (.int (0 : Int32)), (.int (0 : Int32)), (.int (0 : Int32)), (.int (0 : Int32)), (.int (0 : Int32)), (.int (0 : Int32)), (.int (0 : Int32)), (.int (0 : Int32))] (.int (0 : Int32)) := own_new A1 (by decide) rfl
  have E1 : Ext h0 h1 := F1
  have sz_b1 : h0.size ≤ b1 := by rw [g1]; exact Nat.le_refl _
  have gn_b1 : n0 ≤ b1 := Nat.le_trans Z0 sz_b1
  have P1 : Pins Z h1 w := P.ext E1
  have Z1 : n0 ≤ h1.size := Nat.le_trans Z0 E1.1
  refine own_step (W' := T1.setTop (mkF m 18 #[.val (.int p1), .val (.int p2), .val (.int i2), .val (.int i3), .unset, .unset, .unset] [(.ref b1)])) (fun _ k => st1 _ k) ?_
  refine own_step (W' := T1.setTop (mkF m 19 #[.val (.int p1), .val (.int p2), .val (.int i2), .val (.int i3), .unset, .unset, .unset] [(.ref b1), (.ref b1)])) (fun _ k => XS.dup X1.here hx rfl (hb hby at_18) rfl rfl k) ?_
  refine own_step (W' := T1.setTop (mkF m 20 #[.val (.int p1), .val (.int p2), .val (.int i2), .val (.int i3), .unset, .unset, .unset] [(.int (0 : Int32)), (.ref b1), (.ref b1)])) (fun _ k => XS.iconst X1.here hx rfl (hb hby at_19) k) ?_
  refine own_step (W' := T1.setTop (mkF m 21 #[.val (.int p1), .val (.int p2), .val (.int i2), .val (.int i3), .unset, .unset, .unset] [(.int (1 : Int32)), (.int (0 : Int32)), (.ref b1), (.ref b1)])) (fun _ k => XS.iconst X1.here hx rfl (hb hby at_20) k) ?_
  obtain ⟨T2, h2, L2, X2, e2, E2, N2, W2, st2⟩ := own_stZ X1 hx hZ e1 V1 (j := (0 : Int32)) (i := 0) ⟨by decide, by decide⟩ rfl (by decide) E1 sz_b1 N0 gn_b1 (g := (mkF m 21 #[.val (.int p1), .val (.int p2), .val (.int i2), .val (.int i3), .unset, .unset, .unset] [(.int (1 : Int32)), (.int (0 : Int32)), (.ref b1), (.ref b1)])) rfl rfl (hb hby at_21)
  have V2 : Arv Z h2 b1 k1 .boolean (9 : Int32) [(.int (nar .boolean (1 : Int32))), (.int (0 : Int32)), (.int (0 : Int32)), (.int (0 : Int32)), (.int (0 : Int32)), (.int (0 : Int32)), (.int (0 : Int32)), (.int (0 : Int32)), (.int (0 : Int32))] (.int (0 : Int32)) := W2
  have P2 : Pins Z h2 w := P.ext E2
  have Z2 : n0 ≤ h2.size := Nat.le_trans Z0 E2.1
  refine own_step (W' := T2.setTop (mkF m 22 #[.val (.int p1), .val (.int p2), .val (.int i2), .val (.int i3), .unset, .unset, .unset] [(.ref b1)])) (fun _ k => st2 _ k) ?_
  refine own_step (W' := T2.setTop (mkF m 23 #[.val (.int p1), .val (.int p2), .val (.int i2), .val (.int i3), .unset, .unset, .unset] [(.ref b1), (.ref b1)])) (fun _ k => XS.dup X2.here hx rfl (hb hby at_22) rfl rfl k) ?_
  refine own_step (W' := T2.setTop (mkF m 24 #[.val (.int p1), .val (.int p2), .val (.int i2), .val (.int i3), .unset, .unset, .unset] [(.int (1 : Int32)), (.ref b1), (.ref b1)])) (fun _ k => XS.iconst X2.here hx rfl (hb hby at_23) k) ?_
  refine own_step (W' := T2.setTop (mkF m 25 #[.val (.int p1), .val (.int p2), .val (.int i2), .val (.int i3), .unset, .unset, .unset] [(.int (0 : Int32)), (.int (1 : Int32)), (.ref b1), (.ref b1)])) (fun _ k => XS.iconst X2.here hx rfl (hb hby at_24) k) ?_
  obtain ⟨T3, h3, L3, X3, e3, E3, N3, W3, st3⟩ := own_stZ X2 hx hZ e2 V2 (j := (1 : Int32)) (i := 1) ⟨by decide, by decide⟩ rfl (by decide) E2 sz_b1 N2 gn_b1 (g := (mkF m 25 #[.val (.int p1), .val (.int p2), .val (.int i2), .val (.int i3), .unset, .unset, .unset] [(.int (0 : Int32)), (.int (1 : Int32)), (.ref b1), (.ref b1)])) rfl rfl (hb hby at_25)
  have V3 : Arv Z h3 b1 k1 .boolean (9 : Int32) [(.int (nar .boolean (1 : Int32))), (.int (nar .boolean (0 : Int32))), (.int (0 : Int32)), (.int (0 : Int32)), (.int (0 : Int32)), (.int (0 : Int32)), (.int (0 : Int32)), (.int (0 : Int32)), (.int (0 : Int32))] (.int (0 : Int32)) := W3
  have P3 : Pins Z h3 w := P.ext E3
  have Z3 : n0 ≤ h3.size := Nat.le_trans Z0 E3.1
  refine own_step (W' := T3.setTop (mkF m 26 #[.val (.int p1), .val (.int p2), .val (.int i2), .val (.int i3), .unset, .unset, .unset] [(.ref b1)])) (fun _ k => st3 _ k) ?_
  refine own_step (W' := T3.setTop (mkF m 27 #[.val (.int p1), .val (.int p2), .val (.int i2), .val (.int i3), .unset, .unset, .unset] [(.ref b1), (.ref b1)])) (fun _ k => XS.dup X3.here hx rfl (hb hby at_26) rfl rfl k) ?_
  refine own_step (W' := T3.setTop (mkF m 28 #[.val (.int p1), .val (.int p2), .val (.int i2), .val (.int i3), .unset, .unset, .unset] [(.int (2 : Int32)), (.ref b1), (.ref b1)])) (fun _ k => XS.iconst X3.here hx rfl (hb hby at_27) k) ?_
  refine own_step (W' := T3.setTop (mkF m 29 #[.val (.int p1), .val (.int p2), .val (.int i2), .val (.int i3), .unset, .unset, .unset] [(.int (0 : Int32)), (.int (2 : Int32)), (.ref b1), (.ref b1)])) (fun _ k => XS.iconst X3.here hx rfl (hb hby at_28) k) ?_
  obtain ⟨T4, h4, L4, X4, e4, E4, N4, W4, st4⟩ := own_stZ X3 hx hZ e3 V3 (j := (2 : Int32)) (i := 2) ⟨by decide, by decide⟩ rfl (by decide) E3 sz_b1 N3 gn_b1 (g := (mkF m 29 #[.val (.int p1), .val (.int p2), .val (.int i2), .val (.int i3), .unset, .unset, .unset] [(.int (0 : Int32)), (.int (2 : Int32)), (.ref b1), (.ref b1)])) rfl rfl (hb hby at_29)
  have V4 : Arv Z h4 b1 k1 .boolean (9 : Int32) [(.int (nar .boolean (1 : Int32))), (.int (nar .boolean (0 : Int32))), (.int (nar .boolean (0 : Int32))), (.int (0 : Int32)), (.int (0 : Int32)), (.int (0 : Int32)), (.int (0 : Int32)), (.int (0 : Int32)), (.int (0 : Int32))] (.int (0 : Int32)) := W4
  have P4 : Pins Z h4 w := P.ext E4
  have Z4 : n0 ≤ h4.size := Nat.le_trans Z0 E4.1
  refine own_step (W' := T4.setTop (mkF m 30 #[.val (.int p1), .val (.int p2), .val (.int i2), .val (.int i3), .unset, .unset, .unset] [(.ref b1)])) (fun _ k => st4 _ k) ?_
  refine own_step (W' := T4.setTop (mkF m 31 #[.val (.int p1), .val (.int p2), .val (.int i2), .val (.int i3), .unset, .unset, .unset] [(.ref b1), (.ref b1)])) (fun _ k => XS.dup X4.here hx rfl (hb hby at_30) rfl rfl k) ?_
  refine own_step (W' := T4.setTop (mkF m 32 #[.val (.int p1), .val (.int p2), .val (.int i2), .val (.int i3), .unset, .unset, .unset] [(.int (3 : Int32)), (.ref b1), (.ref b1)])) (fun _ k => XS.iconst X4.here hx rfl (hb hby at_31) k) ?_
  refine own_step (W' := T4.setTop (mkF m 33 #[.val (.int p1), .val (.int p2), .val (.int i2), .val (.int i3), .unset, .unset, .unset] [(.int (0 : Int32)), (.int (3 : Int32)), (.ref b1), (.ref b1)])) (fun _ k => XS.iconst X4.here hx rfl (hb hby at_32) k) ?_
  obtain ⟨T5, h5, L5, X5, e5, E5, N5, W5, st5⟩ := own_stZ X4 hx hZ e4 V4 (j := (3 : Int32)) (i := 3) ⟨by decide, by decide⟩ rfl (by decide) E4 sz_b1 N4 gn_b1 (g := (mkF m 33 #[.val (.int p1), .val (.int p2), .val (.int i2), .val (.int i3), .unset, .unset, .unset] [(.int (0 : Int32)), (.int (3 : Int32)), (.ref b1), (.ref b1)])) rfl rfl (hb hby at_33)
  have V5 : Arv Z h5 b1 k1 .boolean (9 : Int32) [(.int (nar .boolean (1 : Int32))), (.int (nar .boolean (0 : Int32))), (.int (nar .boolean (0 : Int32))), (.int (nar .boolean (0 : Int32))), (.int (0 : Int32)), (.int (0 : Int32)), (.int (0 : Int32)), (.int (0 : Int32)), (.int (0 : Int32))] (.int (0 : Int32)) := W5
  have P5 : Pins Z h5 w := P.ext E5
  have Z5 : n0 ≤ h5.size := Nat.le_trans Z0 E5.1
  refine own_step (W' := T5.setTop (mkF m 34 #[.val (.int p1), .val (.int p2), .val (.int i2), .val (.int i3), .unset, .unset, .unset] [(.ref b1)])) (fun _ k => st5 _ k) ?_
  refine own_step (W' := T5.setTop (mkF m 35 #[.val (.int p1), .val (.int p2), .val (.int i2), .val (.int i3), .unset, .unset, .unset] [(.ref b1), (.ref b1)])) (fun _ k => XS.dup X5.here hx rfl (hb hby at_34) rfl rfl k) ?_
  refine own_step (W' := T5.setTop (mkF m 36 #[.val (.int p1), .val (.int p2), .val (.int i2), .val (.int i3), .unset, .unset, .unset] [(.int (4 : Int32)), (.ref b1), (.ref b1)])) (fun _ k => XS.iconst X5.here hx rfl (hb hby at_35) k) ?_
  refine own_step (W' := T5.setTop (mkF m 37 #[.val (.int p1), .val (.int p2), .val (.int i2), .val (.int i3), .unset, .unset, .unset] [(.int (1 : Int32)), (.int (4 : Int32)), (.ref b1), (.ref b1)])) (fun _ k => XS.iconst X5.here hx rfl (hb hby at_36) k) ?_
  obtain ⟨T6, h6, L6, X6, e6, E6, N6, W6, st6⟩ := own_stZ X5 hx hZ e5 V5 (j := (4 : Int32)) (i := 4) ⟨by decide, by decide⟩ rfl (by decide) E5 sz_b1 N5 gn_b1 (g := (mkF m 37 #[.val (.int p1), .val (.int p2), .val (.int i2), .val (.int i3), .unset, .unset, .unset] [(.int (1 : Int32)), (.int (4 : Int32)), (.ref b1), (.ref b1)])) rfl rfl (hb hby at_37)
  have V6 : Arv Z h6 b1 k1 .boolean (9 : Int32) [(.int (nar .boolean (1 : Int32))), (.int (nar .boolean (0 : Int32))), (.int (nar .boolean (0 : Int32))), (.int (nar .boolean (0 : Int32))), (.int (nar .boolean (1 : Int32))), (.int (0 : Int32)), (.int (0 : Int32)), (.int (0 : Int32)), (.int (0 : Int32))] (.int (0 : Int32)) := W6
  have P6 : Pins Z h6 w := P.ext E6
  have Z6 : n0 ≤ h6.size := Nat.le_trans Z0 E6.1
  refine own_step (W' := T6.setTop (mkF m 38 #[.val (.int p1), .val (.int p2), .val (.int i2), .val (.int i3), .unset, .unset, .unset] [(.ref b1)])) (fun _ k => st6 _ k) ?_
  refine own_step (W' := T6.setTop (mkF m 39 #[.val (.int p1), .val (.int p2), .val (.int i2), .val (.int i3), .unset, .unset, .unset] [(.ref b1), (.ref b1)])) (fun _ k => XS.dup X6.here hx rfl (hb hby at_38) rfl rfl k) ?_
  refine own_step (W' := T6.setTop (mkF m 40 #[.val (.int p1), .val (.int p2), .val (.int i2), .val (.int i3), .unset, .unset, .unset] [(.int (5 : Int32)), (.ref b1), (.ref b1)])) (fun _ k => XS.iconst X6.here hx rfl (hb hby at_39) k) ?_
  refine own_step (W' := T6.setTop (mkF m 41 #[.val (.int p1), .val (.int p2), .val (.int i2), .val (.int i3), .unset, .unset, .unset] [(.int (0 : Int32)), (.int (5 : Int32)), (.ref b1), (.ref b1)])) (fun _ k => XS.iconst X6.here hx rfl (hb hby at_40) k) ?_
  obtain ⟨T7, h7, L7, X7, e7, E7, N7, W7, st7⟩ := own_stZ X6 hx hZ e6 V6 (j := (5 : Int32)) (i := 5) ⟨by decide, by decide⟩ rfl (by decide) E6 sz_b1 N6 gn_b1 (g := (mkF m 41 #[.val (.int p1), .val (.int p2), .val (.int i2), .val (.int i3), .unset, .unset, .unset] [(.int (0 : Int32)), (.int (5 : Int32)), (.ref b1), (.ref b1)])) rfl rfl (hb hby at_41)
  have V7 : Arv Z h7 b1 k1 .boolean (9 : Int32) [(.int (nar .boolean (1 : Int32))), (.int (nar .boolean (0 : Int32))), (.int (nar .boolean (0 : Int32))), (.int (nar .boolean (0 : Int32))), (.int (nar .boolean (1 : Int32))), (.int (nar .boolean (0 : Int32))), (.int (0 : Int32)), (.int (0 : Int32)), (.int (0 : Int32))] (.int (0 : Int32)) := W7
  have P7 : Pins Z h7 w := P.ext E7
  have Z7 : n0 ≤ h7.size := Nat.le_trans Z0 E7.1
  refine own_step (W' := T7.setTop (mkF m 42 #[.val (.int p1), .val (.int p2), .val (.int i2), .val (.int i3), .unset, .unset, .unset] [(.ref b1)])) (fun _ k => st7 _ k) ?_
  refine own_step (W' := T7.setTop (mkF m 43 #[.val (.int p1), .val (.int p2), .val (.int i2), .val (.int i3), .unset, .unset, .unset] [(.ref b1), (.ref b1)])) (fun _ k => XS.dup X7.here hx rfl (hb hby at_42) rfl rfl k) ?_
  refine own_step (W' := T7.setTop (mkF m 45 #[.val (.int p1), .val (.int p2), .val (.int i2), .val (.int i3), .unset, .unset, .unset] [(.int (6 : Int32)), (.ref b1), (.ref b1)])) (fun _ k => XS.bipush X7.here hx rfl (hb hby at_43) k) ?_
  refine own_step (W' := T7.setTop (mkF m 46 #[.val (.int p1), .val (.int p2), .val (.int i2), .val (.int i3), .unset, .unset, .unset] [(.int (1 : Int32)), (.int (6 : Int32)), (.ref b1), (.ref b1)])) (fun _ k => XS.iconst X7.here hx rfl (hb hby at_45) k) ?_
  obtain ⟨T8, h8, L8, X8, e8, E8, N8, W8, st8⟩ := own_stZ X7 hx hZ e7 V7 (j := (6 : Int32)) (i := 6) ⟨by decide, by decide⟩ rfl (by decide) E7 sz_b1 N7 gn_b1 (g := (mkF m 46 #[.val (.int p1), .val (.int p2), .val (.int i2), .val (.int i3), .unset, .unset, .unset] [(.int (1 : Int32)), (.int (6 : Int32)), (.ref b1), (.ref b1)])) rfl rfl (hb hby at_46)
  have V8 : Arv Z h8 b1 k1 .boolean (9 : Int32) [(.int (nar .boolean (1 : Int32))), (.int (nar .boolean (0 : Int32))), (.int (nar .boolean (0 : Int32))), (.int (nar .boolean (0 : Int32))), (.int (nar .boolean (1 : Int32))), (.int (nar .boolean (0 : Int32))), (.int (nar .boolean (1 : Int32))), (.int (0 : Int32)), (.int (0 : Int32))] (.int (0 : Int32)) := W8
  have P8 : Pins Z h8 w := P.ext E8
  have Z8 : n0 ≤ h8.size := Nat.le_trans Z0 E8.1
  refine own_step (W' := T8.setTop (mkF m 47 #[.val (.int p1), .val (.int p2), .val (.int i2), .val (.int i3), .unset, .unset, .unset] [(.ref b1)])) (fun _ k => st8 _ k) ?_
  refine own_step (W' := T8.setTop (mkF m 48 #[.val (.int p1), .val (.int p2), .val (.int i2), .val (.int i3), .unset, .unset, .unset] [(.ref b1), (.ref b1)])) (fun _ k => XS.dup X8.here hx rfl (hb hby at_47) rfl rfl k) ?_
  refine own_step (W' := T8.setTop (mkF m 50 #[.val (.int p1), .val (.int p2), .val (.int i2), .val (.int i3), .unset, .unset, .unset] [(.int (7 : Int32)), (.ref b1), (.ref b1)])) (fun _ k => XS.bipush X8.here hx rfl (hb hby at_48) k) ?_
  refine own_step (W' := T8.setTop (mkF m 51 #[.val (.int p1), .val (.int p2), .val (.int i2), .val (.int i3), .unset, .unset, .unset] [(.int (1 : Int32)), (.int (7 : Int32)), (.ref b1), (.ref b1)])) (fun _ k => XS.iconst X8.here hx rfl (hb hby at_50) k) ?_
  obtain ⟨T9, h9, L9, X9, e9, E9, N9, W9, st9⟩ := own_stZ X8 hx hZ e8 V8 (j := (7 : Int32)) (i := 7) ⟨by decide, by decide⟩ rfl (by decide) E8 sz_b1 N8 gn_b1 (g := (mkF m 51 #[.val (.int p1), .val (.int p2), .val (.int i2), .val (.int i3), .unset, .unset, .unset] [(.int (1 : Int32)), (.int (7 : Int32)), (.ref b1), (.ref b1)])) rfl rfl (hb hby at_51)
  have V9 : Arv Z h9 b1 k1 .boolean (9 : Int32) [(.int (nar .boolean (1 : Int32))), (.int (nar .boolean (0 : Int32))), (.int (nar .boolean (0 : Int32))), (.int (nar .boolean (0 : Int32))), (.int (nar .boolean (1 : Int32))), (.int (nar .boolean (0 : Int32))), (.int (nar .boolean (1 : Int32))), (.int (nar .boolean (1 : Int32))), (.int (0 : Int32))] (.int (0 : Int32)) := W9
  have P9 : Pins Z h9 w := P.ext E9
  have Z9 : n0 ≤ h9.size := Nat.le_trans Z0 E9.1
  refine own_step (W' := T9.setTop (mkF m 52 #[.val (.int p1), .val (.int p2), .val (.int i2), .val (.int i3), .unset, .unset, .unset] [(.ref b1)])) (fun _ k => st9 _ k) ?_
  refine own_step (W' := T9.setTop (mkF m 53 #[.val (.int p1), .val (.int p2), .val (.int i2), .val (.int i3), .unset, .unset, .unset] [(.ref b1), (.ref b1)])) (fun _ k => XS.dup X9.here hx rfl (hb hby at_52) rfl rfl k) ?_
  refine own_step (W' := T9.setTop (mkF m 55 #[.val (.int p1), .val (.int p2), .val (.int i2), .val (.int i3), .unset, .unset, .unset] [(.int (8 : Int32)), (.ref b1), (.ref b1)])) (fun _ k => XS.bipush X9.here hx rfl (hb hby at_53) k) ?_
  refine own_step (W' := T9.setTop (mkF m 56 #[.val (.int p1), .val (.int p2), .val (.int i2), .val (.int i3), .unset, .unset, .unset] [(.int (1 : Int32)), (.int (8 : Int32)), (.ref b1), (.ref b1)])) (fun _ k => XS.iconst X9.here hx rfl (hb hby at_55) k) ?_
  obtain ⟨T10, h10, L10, X10, e10, E10, N10, W10, st10⟩ := own_stZ X9 hx hZ e9 V9 (j := (8 : Int32)) (i := 8) ⟨by decide, by decide⟩ rfl (by decide) E9 sz_b1 N9 gn_b1 (g := (mkF m 56 #[.val (.int p1), .val (.int p2), .val (.int i2), .val (.int i3), .unset, .unset, .unset] [(.int (1 : Int32)), (.int (8 : Int32)), (.ref b1), (.ref b1)])) rfl rfl (hb hby at_56)
  have V10 : Arv Z h10 b1 k1 .boolean (9 : Int32) [(.int (nar .boolean (1 : Int32))), (.int (nar .boolean (0 : Int32))), (.int (nar .boolean (0 : Int32))), (.int (nar .boolean (0 : Int32))), (.int (nar .boolean (1 : Int32))), (.int (nar .boolean (0 : Int32))), (.int (nar .boolean (1 : Int32))), (.int (nar .boolean (1 : Int32))), (.int (nar .boolean (1 : Int32)))] (.int (0 : Int32)) := W10
  have P10 : Pins Z h10 w := P.ext E10
  have Z10 : n0 ≤ h10.size := Nat.le_trans Z0 E10.1
  refine own_step (W' := T10.setTop (mkF m 57 #[.val (.int p1), .val (.int p2), .val (.int i2), .val (.int i3), .unset, .unset, .unset] [(.ref b1)])) (fun _ k => st10 _ k) ?_
  exact kt _ _ _ _ _ X10 e10 E10 N10 V10
set_option maxRecDepth 65536 in
set_option maxHeartbeats 40000000 in
theorem rm1_0 (l : Launch) (Z : State) (a0 : Array Value) (hw : ∀ d ∈ tables_1, d.before a0 Z = true) (ws : List Jvm.Cond) (w : Nat → Addr) (h0 : Heap) (n0 : Nat) (Z0 : n0 ≤ h0.size) (P : Pins Z h0 w) :
    MetFree l (⟨"com/example/levy/levy/ScopeGrantsPinLaw", "pick", "(I)Lcom/example/levy/levy/Scope;"⟩ : MethodName) (head1 (Jvm.Cond.code (⟨"com/example/levy/levy/ScopeGrantsPinLaw", "pick", "(I)Lcom/example/levy/levy/Scope;"⟩ : MethodName) method_2_code 1 (some (.object "com/example/levy/levy/Scope")) :: ws) ({ frames := 0, cells := 0, slots := 0, locals := 0 } : Room)) (fun a U => a = #[(.int (0 : Int32))] ∧ Z.Warmed39 U.vm ∧ U.heap = h0) (fun _ _ _ _ _ => True) (fun _ U o U' => ∃ v L, o = .returned v ∧ own_QK (some (.ref (w 0))) h0 n0 v U'.heap L ∧ FrameEnd U o U' L ({ frames := 0, cells := 0, slots := 0, locals := 0 } : Room).cells ({ frames := 0, cells := 0, slots := 0, locals := 0 } : Room).slots) := by
  refine MetFree.of_bodySF (plainFor_of_name pn_com_example_levy_levy_ScopeGrantsPinLaw) hisR ?_
  intro p e s m args below meth c s₁ Bd hml0 hP hK
  obtain ⟨rfl, hZ, hh⟩ := hP
  have hx := Bd.exec
  have hby := Bd.bytes
  have hml : c.maxLocals = 1 := hml0
  have hown : s.vm.findClass "com/example/levy/levy/ScopeGrantsPinLaw" = some m.cls := findClass_of_methodNamed Bd.named
  have hnm := (name_of_methodNamed Bd.named Bd.method).1
  have X0 : Stand p l e ({ frames := 0, cells := 0, slots := 0, locals := 0 } : Room) s m #[(.int (0 : Int32))] below meth c s₁ [] 0 0 := Stand.of_body Bd
  have e0 : s₁.heap = h0 := by rw [← hh, Bd.state]; rfl
  have N0 := Fr.nil n0
  refine own_enter (ef_1_I m (0 : Int32)) ?_
  refine own_step (W' := s₁.setTop (mkF m 1 #[.val (.int (0 : Int32))] [(.int (0 : Int32))])) (fun _ k => XS.iloadN X0.here hx rfl (hb hby d1_0) rfl k) ?_
  refine own_step (W' := s₁.setTop (mkF m 4 #[.val (.int (0 : Int32))] [])) (fun _ k => XS.ifNo X0.here hx rfl (hb hby d1_1) rfl (by decide) k) ?_
  obtain ⟨T1, X1, e1, st1⟩ := getS2 X0 hx hZ hown (host := "") (Or.inl (hw _ (List.mem_of_getElem? (i := 6) rfl))) Via.refl e0 (pin_S0 P) (g := (mkF m 4 #[.val (.int (0 : Int32))] [])) rfl (hb hby d1_4)
  refine own_step (W' := T1.setTop (mkF m 7 #[.val (.int (0 : Int32))] [(.ref (w 0))])) (fun _ k => st1 _ k) ?_
  exact own_ret X1 Bd.notSynchronized Bd.returns (v := (.ref (w 0))) (fun fs hr => retOut X1 hx Bd.returns rfl (Or.inr (Or.inr (Or.inr (Or.inr ⟨rfl, rfl, rfl⟩)))) (hb hby d1_7) hr) ⟨rfl, N0, e1⟩ (by decide) (by decide)
set_option maxRecDepth 65536 in
set_option maxHeartbeats 40000000 in
theorem rm2_w0_w0 (l : Launch) (Z : State) (a0 : Array Value) (hw : ∀ d ∈ tables_1, d.before a0 Z = true) (ws : List Jvm.Cond) (w : Nat → Addr) (h0 : Heap) (n0 : Nat) (Z0 : n0 ≤ h0.size) (P : Pins Z h0 w) :
    MetFree l (⟨"com/example/levy/levy/Scope", "grants", "(Lcom/example/levy/levy/Scope;)Z"⟩ : MethodName) (head1 (Jvm.Cond.code (⟨"com/example/levy/levy/Scope", "grants", "(Lcom/example/levy/levy/Scope;)Z"⟩ : MethodName) prog_23_method_5_code 2 (some .boolean) :: ws) ({ frames := 0, cells := 0, slots := 0, locals := 0 } : Room)) (fun a U => a = #[(.ref (w 0)), (.ref (w 0))] ∧ Z.Warmed39 U.vm ∧ U.heap = h0) (fun _ _ _ _ _ => True) (fun _ U o U' => ∃ v L, o = .returned v ∧ own_QK (some (.int (1 : Int32))) h0 n0 v U'.heap L ∧ FrameEnd U o U' L ({ frames := 0, cells := 0, slots := 0, locals := 0 } : Room).cells ({ frames := 0, cells := 0, slots := 0, locals := 0 } : Room).slots) := by
  refine MetFree.of_bodySF (plainFor_of_name pn_com_example_levy_levy_Scope) hisR ?_
  intro p e s m args below meth c s₁ Bd hml0 hP hK
  obtain ⟨rfl, hZ, hh⟩ := hP
  have hx := Bd.exec
  have hby := Bd.bytes
  have hml : c.maxLocals = 2 := hml0
  have hown : s.vm.findClass "com/example/levy/levy/Scope" = some m.cls := findClass_of_methodNamed Bd.named
  have hnm := (name_of_methodNamed Bd.named Bd.method).1
  have X0 : Stand p l e ({ frames := 0, cells := 0, slots := 0, locals := 0 } : Room) s m #[(.ref (w 0)), (.ref (w 0))] below meth c s₁ [] 0 0 := Stand.of_body Bd
  have e0 : s₁.heap = h0 := by rw [← hh, Bd.state]; rfl
  have N0 := Fr.nil n0
  refine own_enter (ef_2_RR m (w 0) (w 0)) ?_
  refine own_step (W' := s₁.setTop (mkF m 1 #[.val (.ref (w 0)), .val (.ref (w 0))] [(.ref (w 0))])) (fun _ k => XS.aloadN X0.here hx rfl (hb hby d2_0) rfl rfl k) ?_
  obtain ⟨T1, X1, e1, st1⟩ := getS2 X0 hx hZ hown (host := "") (Or.inl (hw _ (List.mem_of_getElem? (i := 14) rfl))) Via.refl e0 (pin_S1 P) (g := (mkF m 1 #[.val (.ref (w 0)), .val (.ref (w 0))] [(.ref (w 0))])) rfl (hb hby d2_1)
  refine own_step (W' := T1.setTop (mkF m 4 #[.val (.ref (w 0)), .val (.ref (w 0))] [(.ref (w 1)), (.ref (w 0))])) (fun _ k => st1 _ k) ?_
  refine own_step (W' := T1.setTop (mkF m 7 #[.val (.ref (w 0)), .val (.ref (w 0))] [])) (fun _ k => Jvm.RoadKit.acmp (g := (mkF m 4 #[.val (.ref (w 0)), .val (.ref (w 0))] [(.ref (w 1)), (.ref (w 0))])) X1 hx rfl rfl rfl (pc0 := 4) (pc' := 7) (same := false) rfl (hb hby d2_4) rfl (decide_eq_false fun q => (Fld.ne (pin_F0_ordinal P) (pin_F1_ordinal P) (by decide)) (Value.ref.inj q)) (by decide) (by decide) k) ?_
  refine own_step (W' := T1.setTop (mkF m 8 #[.val (.ref (w 0)), .val (.ref (w 0))] [(.ref (w 0))])) (fun _ k => XS.aloadN X1.here hx rfl (hb hby d2_7) rfl rfl k) ?_
  refine own_step (W' := T1.setTop (mkF m 9 #[.val (.ref (w 0)), .val (.ref (w 0))] [(.ref (w 0)), (.ref (w 0))])) (fun _ k => XS.aloadN X1.here hx rfl (hb hby d2_8) rfl rfl k) ?_
  refine own_step (W' := T1.setTop (mkF m 12 #[.val (.ref (w 0)), .val (.ref (w 0))] [])) (fun _ k => Jvm.RoadKit.acmp (g := (mkF m 9 #[.val (.ref (w 0)), .val (.ref (w 0))] [(.ref (w 0)), (.ref (w 0))])) X1 hx rfl rfl rfl (pc0 := 9) (pc' := 12) (same := true) rfl (hb hby d2_9) rfl (decide_eq_true rfl) (by decide) (by decide) k) ?_
  refine own_step (W' := T1.setTop (mkF m 13 #[.val (.ref (w 0)), .val (.ref (w 0))] [(.int (1 : Int32))])) (fun _ k => XS.iconst X1.here hx rfl (hb hby d2_12) k) ?_
  refine own_step (W' := T1.setTop (mkF m 17 #[.val (.ref (w 0)), .val (.ref (w 0))] [(.int (1 : Int32))])) (fun _ k => XS.goto X1.here hx rfl (pc0 := 13) (pc' := 17) rfl (hb hby d2_13) (by decide) (by decide) k) ?_
  exact own_ret X1 Bd.notSynchronized Bd.returns (v := (.int (1 : Int32))) (fun fs hr => retN X1 hx (t := .boolean) Bd.returns (by simp) (hb hby d2_17) hr) ⟨rfl, N0, e1⟩ (by decide) (by decide)
set_option maxRecDepth 65536 in
set_option maxHeartbeats 40000000 in
theorem rm0_00 (l : Launch) (Z : State) (a0 : Array Value) (hw : ∀ d ∈ tables_1, d.before a0 Z = true) (ws : List Jvm.Cond) (p1 p2 : Int32) (ha : ((p1 &&& (2147483647 : Int32)) % (3 : Int32)) = (0 : Int32)) (hb' : ((p2 &&& (2147483647 : Int32)) % (3 : Int32)) = (0 : Int32)) (w : Nat → Addr) (h0 : Heap) (n0 : Nat) (Z0 : n0 ≤ h0.size) (P : Pins Z h0 w) :
    MetFree l x (head1 (Jvm.Cond.code x code maxLocals ret :: ws) room_1) (fun a U => a = #[(.int p1), (.int p2)] ∧ Z.Warmed39 U.vm ∧ U.heap = h0) (fun _ _ _ _ _ => True) (fun _ U o U' => ∃ v L, o = .returned v ∧ own_Q0 n0 v U'.heap L ∧ FrameEnd U o U' L room_1.cells room_1.slots) := by
  refine MetFree.of_bodySF (plainFor_of_name pn_com_example_levy_levy_ScopeGrantsPinLaw) hisR ?_
  intro p e s m args below meth c s₁ Bd hml0 hP hK
  obtain ⟨rfl, hZ, hh⟩ := hP
  have hx := Bd.exec
  have hby := Bd.bytes
  have hml : c.maxLocals = 7 := hml0
  have hown : s.vm.findClass "com/example/levy/levy/ScopeGrantsPinLaw" = some m.cls := findClass_of_methodNamed Bd.named
  have hnm := (name_of_methodNamed Bd.named Bd.method).1
  have X0 : Stand p l e room_1 s m #[(.int p1), (.int p2)] below meth c s₁ [] 0 0 := Stand.of_body Bd
  have e0 : s₁.heap = h0 := by rw [← hh, Bd.state]; rfl
  have N0 := Fr.nil n0
  refine own_enter (ef_0_II m p1 p2) ?_
  refine own_step (W' := s₁.setTop (mkF m 1 #[.val (.int p1), .val (.int p2), .unset, .unset, .unset, .unset, .unset] [(.int p1)])) (fun _ k => XS.iloadN X0.here hx rfl (hb hby at_0) rfl k) ?_
  refine own_step (W' := s₁.setTop (mkF m 3 #[.val (.int p1), .val (.int p2), .unset, .unset, .unset, .unset, .unset] [(.int (2147483647 : Int32)), (.int p1)])) (fun _ k => X0.ldcInt hx hown (mvT hZ (hw _ (List.mem_of_getElem? (i := 0) rfl))) (g := (mkF m 1 #[.val (.int p1), .val (.int p2), .unset, .unset, .unset, .unset, .unset] [(.int p1)])) rfl (hb hby at_1) _ k) ?_
  refine own_step (W' := s₁.setTop (mkF m 4 #[.val (.int p1), .val (.int p2), .unset, .unset, .unset, .unset, .unset] [(.int (p1 &&& (2147483647 : Int32)))])) (fun _ k => XS.iand X0.here hx rfl (hb hby at_3) rfl k) ?_
  refine own_step (W' := s₁.setTop (mkF m 5 #[.val (.int p1), .val (.int p2), .unset, .unset, .unset, .unset, .unset] [(.int (3 : Int32)), (.int (p1 &&& (2147483647 : Int32)))])) (fun _ k => XS.iconst X0.here hx rfl (hb hby at_4) k) ?_
  refine own_step (W' := s₁.setTop (mkF m 6 #[.val (.int p1), .val (.int p2), .unset, .unset, .unset, .unset, .unset] [(.int ((p1 &&& (2147483647 : Int32)) % (3 : Int32)))])) (fun _ k => iremM X0 hx rfl (hb hby at_5) rfl (by decide) k) ?_
  rw [ha]
  refine own_step (W' := s₁.setTop (mkF m 7 #[.val (.int p1), .val (.int p2), .val (.int (0 : Int32)), .unset, .unset, .unset, .unset] [])) (fun _ k => XS.istoreN X0.here hx rfl (hb hby at_6) rfl (l' := #[.val (.int p1), .val (.int p2), .val (.int (0 : Int32)), .unset, .unset, .unset, .unset]) rfl k) ?_
  refine own_step (W' := s₁.setTop (mkF m 8 #[.val (.int p1), .val (.int p2), .val (.int (0 : Int32)), .unset, .unset, .unset, .unset] [(.int p2)])) (fun _ k => XS.iloadN X0.here hx rfl (hb hby at_7) rfl k) ?_
  refine own_step (W' := s₁.setTop (mkF m 10 #[.val (.int p1), .val (.int p2), .val (.int (0 : Int32)), .unset, .unset, .unset, .unset] [(.int (2147483647 : Int32)), (.int p2)])) (fun _ k => X0.ldcInt hx hown (mvT hZ (hw _ (List.mem_of_getElem? (i := 0) rfl))) (g := (mkF m 8 #[.val (.int p1), .val (.int p2), .val (.int (0 : Int32)), .unset, .unset, .unset, .unset] [(.int p2)])) rfl (hb hby at_8) _ k) ?_
  refine own_step (W' := s₁.setTop (mkF m 11 #[.val (.int p1), .val (.int p2), .val (.int (0 : Int32)), .unset, .unset, .unset, .unset] [(.int (p2 &&& (2147483647 : Int32)))])) (fun _ k => XS.iand X0.here hx rfl (hb hby at_10) rfl k) ?_
  refine own_step (W' := s₁.setTop (mkF m 12 #[.val (.int p1), .val (.int p2), .val (.int (0 : Int32)), .unset, .unset, .unset, .unset] [(.int (3 : Int32)), (.int (p2 &&& (2147483647 : Int32)))])) (fun _ k => XS.iconst X0.here hx rfl (hb hby at_11) k) ?_
  refine own_step (W' := s₁.setTop (mkF m 13 #[.val (.int p1), .val (.int p2), .val (.int (0 : Int32)), .unset, .unset, .unset, .unset] [(.int ((p2 &&& (2147483647 : Int32)) % (3 : Int32)))])) (fun _ k => iremM X0 hx rfl (hb hby at_12) rfl (by decide) k) ?_
  rw [hb']
  refine own_step (W' := s₁.setTop (mkF m 14 #[.val (.int p1), .val (.int p2), .val (.int (0 : Int32)), .val (.int (0 : Int32)), .unset, .unset, .unset] [])) (fun _ k => XS.istoreN X0.here hx rfl (hb hby at_13) rfl (l' := #[.val (.int p1), .val (.int p2), .val (.int (0 : Int32)), .val (.int (0 : Int32)), .unset, .unset, .unset]) rfl k) ?_
  refine own_fill p1 p2 (0 : Int32) (0 : Int32) X0 hx hZ hw hby hml hown e0 N0 Z0 P ?_
  intro T1 h1 L1 k1 b1 X1 e1 E1 N1 V1
  have P1 : Pins Z h1 w := P.ext E1
  have Z1 : n0 ≤ h1.size := Nat.le_trans Z0 E1.1
  refine own_step (W' := T1.setTop (mkF m 59 #[.val (.int p1), .val (.int p2), .val (.int (0 : Int32)), .val (.int (0 : Int32)), .val (.ref b1), .unset, .unset] [])) (fun _ k => XS.astore X1.here hx rfl (hb hby at_57) rfl rfl (l' := #[.val (.int p1), .val (.int p2), .val (.int (0 : Int32)), .val (.int (0 : Int32)), .val (.ref b1), .unset, .unset]) rfl k) ?_
  refine own_step (W' := T1.setTop (mkF m 60 #[.val (.int p1), .val (.int p2), .val (.int (0 : Int32)), .val (.int (0 : Int32)), .val (.ref b1), .unset, .unset] [(.int (0 : Int32))])) (fun _ k => XS.iloadN X1.here hx rfl (hb hby at_59) rfl k) ?_
  obtain ⟨_, _, ⟨T2, L2, k2, n2⟩, -, X2, ⟨Lc2, hQ2, l2, y2, z2⟩, st2⟩ := Jvm.LawKit.callS X1 hx (y := (⟨"com/example/levy/levy/ScopeGrantsPinLaw", "pick", "(I)Lcom/example/levy/levy/Scope;"⟩ : MethodName)) hown (mvT hZ (hw _ (List.mem_of_getElem? (i := 2) rfl))) (mvT hZ (hw _ (List.mem_of_getElem? (i := 3) rfl))) (mvT hZ (hw _ (List.mem_of_getElem? (i := 4) rfl))) (mvT hZ (hw _ (List.mem_of_getElem? (i := 5) rfl))) (by decide) (backOf (W := 0) (rm1_0 l Z a0 hw [] w h1 n0 Z1 P1) hZ (hw _ (List.mem_of_getElem? (i := 5) rfl)) (hw _ (List.mem_of_getElem? (i := 4) rfl)) (by decide) (by decide)) (g := (mkF m 60 #[.val (.int p1), .val (.int p2), .val (.int (0 : Int32)), .val (.int (0 : Int32)), .val (.ref b1), .unset, .unset] [(.int (0 : Int32))])) rfl (by rw [hml]; rfl) (argsL := [(.int (0 : Int32))]) (rest := []) (lenOf pd_0 rfl) rfl (by show 2 * 0 + _ ≤ _; exact Nat.le_of_eq rfl) (hb hby at_60) (fun _ _ => ⟨rfl, e1, (by decide : 1 + 0 ≤ _), (by decide : 9 + 0 ≤ _)⟩)
  dsimp only [Pt.U, Pt.locs, Pt.cells, Pt.slots] at X2 l2 y2 z2 st2 hQ2
  subst l2 y2 z2
  obtain ⟨rfl, N2q, e2⟩ := hQ2
  have N2 := Fr.app N1 N2q
  refine own_step (W' := T2.setTop (mkF m 63 #[.val (.int p1), .val (.int p2), .val (.int (0 : Int32)), .val (.int (0 : Int32)), .val (.ref b1), .unset, .unset] [(.ref (w 0))])) (fun _ k => st2 _ k) ?_
  refine own_step (W' := T2.setTop (mkF m 65 #[.val (.int p1), .val (.int p2), .val (.int (0 : Int32)), .val (.int (0 : Int32)), .val (.ref b1), .val (.ref (w 0)), .unset] [])) (fun _ k => XS.astore X2.here hx rfl (hb hby at_63) rfl rfl (l' := #[.val (.int p1), .val (.int p2), .val (.int (0 : Int32)), .val (.int (0 : Int32)), .val (.ref b1), .val (.ref (w 0)), .unset]) rfl k) ?_
  refine own_step (W' := T2.setTop (mkF m 66 #[.val (.int p1), .val (.int p2), .val (.int (0 : Int32)), .val (.int (0 : Int32)), .val (.ref b1), .val (.ref (w 0)), .unset] [(.int (0 : Int32))])) (fun _ k => XS.iloadN X2.here hx rfl (hb hby at_65) rfl k) ?_
  obtain ⟨_, _, ⟨T3, L3, k3, n3⟩, -, X3, ⟨Lc3, hQ3, l3, y3, z3⟩, st3⟩ := Jvm.LawKit.callS X2 hx (y := (⟨"com/example/levy/levy/ScopeGrantsPinLaw", "pick", "(I)Lcom/example/levy/levy/Scope;"⟩ : MethodName)) hown (mvT hZ (hw _ (List.mem_of_getElem? (i := 2) rfl))) (mvT hZ (hw _ (List.mem_of_getElem? (i := 3) rfl))) (mvT hZ (hw _ (List.mem_of_getElem? (i := 4) rfl))) (mvT hZ (hw _ (List.mem_of_getElem? (i := 5) rfl))) (by decide) (backOf (W := 0) (rm1_0 l Z a0 hw [] w h1 n0 Z1 P1) hZ (hw _ (List.mem_of_getElem? (i := 5) rfl)) (hw _ (List.mem_of_getElem? (i := 4) rfl)) (by decide) (by decide)) (g := (mkF m 66 #[.val (.int p1), .val (.int p2), .val (.int (0 : Int32)), .val (.int (0 : Int32)), .val (.ref b1), .val (.ref (w 0)), .unset] [(.int (0 : Int32))])) rfl (by rw [hml]; rfl) (argsL := [(.int (0 : Int32))]) (rest := []) (lenOf pd_0 rfl) rfl (by show 2 * 0 + _ ≤ _; exact Nat.le_of_eq rfl) (hb hby at_66) (fun _ _ => ⟨rfl, e2, (by decide : 1 + 0 ≤ _), (by decide : 9 + 0 ≤ _)⟩)
  dsimp only [Pt.U, Pt.locs, Pt.cells, Pt.slots] at X3 l3 y3 z3 st3 hQ3
  subst l3 y3 z3
  obtain ⟨rfl, N3q, e3⟩ := hQ3
  have N3 := Fr.app N2 N3q
  refine own_step (W' := T3.setTop (mkF m 69 #[.val (.int p1), .val (.int p2), .val (.int (0 : Int32)), .val (.int (0 : Int32)), .val (.ref b1), .val (.ref (w 0)), .unset] [(.ref (w 0))])) (fun _ k => st3 _ k) ?_
  refine own_step (W' := T3.setTop (mkF m 71 #[.val (.int p1), .val (.int p2), .val (.int (0 : Int32)), .val (.int (0 : Int32)), .val (.ref b1), .val (.ref (w 0)), .val (.ref (w 0))] [])) (fun _ k => XS.astore X3.here hx rfl (hb hby at_69) rfl rfl (l' := #[.val (.int p1), .val (.int p2), .val (.int (0 : Int32)), .val (.int (0 : Int32)), .val (.ref b1), .val (.ref (w 0)), .val (.ref (w 0))]) rfl k) ?_
  refine own_step (W' := T3.setTop (mkF m 73 #[.val (.int p1), .val (.int p2), .val (.int (0 : Int32)), .val (.int (0 : Int32)), .val (.ref b1), .val (.ref (w 0)), .val (.ref (w 0))] [(.ref (w 0))])) (fun _ k => XS.aload X3.here hx rfl (hb hby at_71) rfl rfl k) ?_
  refine own_step (W' := T3.setTop (mkF m 75 #[.val (.int p1), .val (.int p2), .val (.int (0 : Int32)), .val (.int (0 : Int32)), .val (.ref b1), .val (.ref (w 0)), .val (.ref (w 0))] [(.ref (w 0)), (.ref (w 0))])) (fun _ k => XS.aload X3.here hx rfl (hb hby at_73) rfl rfl k) ?_
  obtain ⟨cq4, kq4, q4a, q4b, q4c⟩ := isOf hZ e3 (pin_E0 P1)
  obtain ⟨_, _, ⟨T4, L4, k4, n4⟩, -, X4, ⟨Lc4, hQ4, l4, y4, z4⟩, st4⟩ := X3.virtualBack hx (y := (⟨"com/example/levy/levy/Scope", "grants", "(Lcom/example/levy/levy/Scope;)Z"⟩ : MethodName)) (z := (⟨"com/example/levy/levy/Scope", "grants", "(Lcom/example/levy/levy/Scope;)Z"⟩ : MethodName)) hown (mvT hZ (hw _ (List.mem_of_getElem? (i := 9) rfl))) (mvT hZ (hw _ (List.mem_of_getElem? (i := 10) rfl))) (notFace_of_selects (args := #[]) (mvT hZ (hw _ (List.mem_of_getElem? (i := 12) rfl)))) (mvT hZ (hw _ (List.mem_of_getElem? (i := 12) rfl))) (mvT hZ (hw _ (List.mem_of_getElem? (i := 11) rfl))) (by decide) (backOf (W := 0) (rm2_w0_w0 l Z a0 hw [] w h1 n0 Z1 P1) hZ (hw _ (List.mem_of_getElem? (i := 13) rfl)) (hw _ (List.mem_of_getElem? (i := 7) rfl)) (by decide) (by decide)) q4a q4c (g := (mkF m 75 #[.val (.int p1), .val (.int p2), .val (.int (0 : Int32)), .val (.int (0 : Int32)), .val (.ref b1), .val (.ref (w 0)), .val (.ref (w 0))] [(.ref (w 0)), (.ref (w 0))])) rfl (by rw [hml]; rfl) (Steps.refl _) (argsL := [(.ref (w 0))]) (rest := []) (lenOf pd_1 rfl) rfl (by show 2 * 0 + _ ≤ _; exact Nat.le_of_eq rfl) (hb hby at_75) (fun _ _ => ⟨rfl, e3, (by decide : 1 + 0 ≤ _), (by decide : 9 + 0 ≤ _)⟩)
  dsimp only [Pt.U, Pt.locs, Pt.cells, Pt.slots] at X4 l4 y4 z4 st4 hQ4
  subst l4 y4 z4
  obtain ⟨rfl, N4q, e4⟩ := hQ4
  have N4 := Fr.app N3 N4q
  refine own_step (W' := T4.setTop (mkF m 78 #[.val (.int p1), .val (.int p2), .val (.int (0 : Int32)), .val (.int (0 : Int32)), .val (.ref b1), .val (.ref (w 0)), .val (.ref (w 0))] [(.int (1 : Int32))])) (fun _ k => st4.trans k) ?_
  refine own_step (W' := T4.setTop (mkF m 80 #[.val (.int p1), .val (.int p2), .val (.int (0 : Int32)), .val (.int (0 : Int32)), .val (.ref b1), .val (.ref (w 0)), .val (.ref (w 0))] [(.ref b1), (.int (1 : Int32))])) (fun _ k => XS.aload X4.here hx rfl (hb hby at_78) rfl rfl k) ?_
  refine own_step (W' := T4.setTop (mkF m 81 #[.val (.int p1), .val (.int p2), .val (.int (0 : Int32)), .val (.int (0 : Int32)), .val (.ref b1), .val (.ref (w 0)), .val (.ref (w 0))] [(.int (0 : Int32)), (.ref b1), (.int (1 : Int32))])) (fun _ k => XS.iloadN X4.here hx rfl (hb hby at_80) rfl k) ?_
  refine own_step (W' := T4.setTop (mkF m 82 #[.val (.int p1), .val (.int p2), .val (.int (0 : Int32)), .val (.int (0 : Int32)), .val (.ref b1), .val (.ref (w 0)), .val (.ref (w 0))] [(.int (3 : Int32)), (.int (0 : Int32)), (.ref b1), (.int (1 : Int32))])) (fun _ k => XS.iconst X4.here hx rfl (hb hby at_81) k) ?_
  refine own_step (W' := T4.setTop (mkF m 83 #[.val (.int p1), .val (.int p2), .val (.int (0 : Int32)), .val (.int (0 : Int32)), .val (.ref b1), .val (.ref (w 0)), .val (.ref (w 0))] [(.int ((0 : Int32) * (3 : Int32))), (.ref b1), (.int (1 : Int32))])) (fun _ k => XS.imul X4.here hx rfl (hb hby at_82) rfl k) ?_
  rw [show ((0 : Int32) * (3 : Int32)) = (0 : Int32) from by decide]
  refine own_step (W' := T4.setTop (mkF m 84 #[.val (.int p1), .val (.int p2), .val (.int (0 : Int32)), .val (.int (0 : Int32)), .val (.ref b1), .val (.ref (w 0)), .val (.ref (w 0))] [(.int (0 : Int32)), (.int (0 : Int32)), (.ref b1), (.int (1 : Int32))])) (fun _ k => XS.iloadN X4.here hx rfl (hb hby at_83) rfl k) ?_
  refine own_step (W' := T4.setTop (mkF m 85 #[.val (.int p1), .val (.int p2), .val (.int (0 : Int32)), .val (.int (0 : Int32)), .val (.ref b1), .val (.ref (w 0)), .val (.ref (w 0))] [(.int ((0 : Int32) + (0 : Int32))), (.ref b1), (.int (1 : Int32))])) (fun _ k => XS.iadd X4.here hx rfl (hb hby at_84) rfl k) ?_
  rw [show ((0 : Int32) + (0 : Int32)) = (0 : Int32) from by decide]
  refine own_step (W' := T4.setTop (mkF m 86 #[.val (.int p1), .val (.int p2), .val (.int (0 : Int32)), .val (.int (0 : Int32)), .val (.ref b1), .val (.ref (w 0)), .val (.ref (w 0))] [(.int (nar .boolean (1 : Int32))), (.int (1 : Int32))])) (fun _ k => own_ldZ X4 hx hZ e4 V1 (j := (0 : Int32)) (v := (.int (nar .boolean (1 : Int32)))) ⟨by decide, by decide⟩ rfl (g := (mkF m 85 #[.val (.int p1), .val (.int p2), .val (.int (0 : Int32)), .val (.int (0 : Int32)), .val (.ref b1), .val (.ref (w 0)), .val (.ref (w 0))] [(.int (0 : Int32)), (.ref b1), (.int (1 : Int32))])) rfl rfl (hb hby at_85) _ k) ?_
  refine own_step (W' := T4.setTop (mkF m 89 #[.val (.int p1), .val (.int p2), .val (.int (0 : Int32)), .val (.int (0 : Int32)), .val (.ref b1), .val (.ref (w 0)), .val (.ref (w 0))] [])) (fun _ k => XS.icmpNo X4.here hx rfl (hb hby at_86) rfl (by decide) k) ?_
  refine own_step (W' := T4.setTop (mkF m 90 #[.val (.int p1), .val (.int p2), .val (.int (0 : Int32)), .val (.int (0 : Int32)), .val (.ref b1), .val (.ref (w 0)), .val (.ref (w 0))] [(.int (1 : Int32))])) (fun _ k => XS.iconst X4.here hx rfl (hb hby at_89) k) ?_
  refine own_step (W' := T4.setTop (mkF m 94 #[.val (.int p1), .val (.int p2), .val (.int (0 : Int32)), .val (.int (0 : Int32)), .val (.ref b1), .val (.ref (w 0)), .val (.ref (w 0))] [(.int (1 : Int32))])) (fun _ k => XS.goto X4.here hx rfl (pc0 := 90) (pc' := 94) rfl (hb hby at_90) (by decide) (by decide) k) ?_
  exact own_ret X4 Bd.notSynchronized Bd.returns (v := (.int (1 : Int32))) (fun fs hr => retN X4 hx (t := .boolean) Bd.returns (by simp) (hb hby at_94) hr) ⟨rfl, N4⟩ (by decide) (by decide)
set_option maxRecDepth 65536 in
set_option maxHeartbeats 40000000 in
theorem rm1_1 (l : Launch) (Z : State) (a0 : Array Value) (hw : ∀ d ∈ tables_1, d.before a0 Z = true) (ws : List Jvm.Cond) (w : Nat → Addr) (h0 : Heap) (n0 : Nat) (Z0 : n0 ≤ h0.size) (P : Pins Z h0 w) :
    MetFree l (⟨"com/example/levy/levy/ScopeGrantsPinLaw", "pick", "(I)Lcom/example/levy/levy/Scope;"⟩ : MethodName) (head1 (Jvm.Cond.code (⟨"com/example/levy/levy/ScopeGrantsPinLaw", "pick", "(I)Lcom/example/levy/levy/Scope;"⟩ : MethodName) method_2_code 1 (some (.object "com/example/levy/levy/Scope")) :: ws) ({ frames := 0, cells := 0, slots := 0, locals := 0 } : Room)) (fun a U => a = #[(.int (1 : Int32))] ∧ Z.Warmed39 U.vm ∧ U.heap = h0) (fun _ _ _ _ _ => True) (fun _ U o U' => ∃ v L, o = .returned v ∧ own_QK (some (.ref (w 2))) h0 n0 v U'.heap L ∧ FrameEnd U o U' L ({ frames := 0, cells := 0, slots := 0, locals := 0 } : Room).cells ({ frames := 0, cells := 0, slots := 0, locals := 0 } : Room).slots) := by
  refine MetFree.of_bodySF (plainFor_of_name pn_com_example_levy_levy_ScopeGrantsPinLaw) hisR ?_
  intro p e s m args below meth c s₁ Bd hml0 hP hK
  obtain ⟨rfl, hZ, hh⟩ := hP
  have hx := Bd.exec
  have hby := Bd.bytes
  have hml : c.maxLocals = 1 := hml0
  have hown : s.vm.findClass "com/example/levy/levy/ScopeGrantsPinLaw" = some m.cls := findClass_of_methodNamed Bd.named
  have hnm := (name_of_methodNamed Bd.named Bd.method).1
  have X0 : Stand p l e ({ frames := 0, cells := 0, slots := 0, locals := 0 } : Room) s m #[(.int (1 : Int32))] below meth c s₁ [] 0 0 := Stand.of_body Bd
  have e0 : s₁.heap = h0 := by rw [← hh, Bd.state]; rfl
  have N0 := Fr.nil n0
  refine own_enter (ef_1_I m (1 : Int32)) ?_
  refine own_step (W' := s₁.setTop (mkF m 1 #[.val (.int (1 : Int32))] [(.int (1 : Int32))])) (fun _ k => XS.iloadN X0.here hx rfl (hb hby d1_0) rfl k) ?_
  refine own_step (W' := s₁.setTop (mkF m 8 #[.val (.int (1 : Int32))] [])) (fun _ k => XS.ifYes X0.here hx rfl (pc0 := 1) (pc' := 8) rfl (hb hby d1_1) rfl (by decide) (by decide) (by decide) k) ?_
  refine own_step (W' := s₁.setTop (mkF m 9 #[.val (.int (1 : Int32))] [(.int (1 : Int32))])) (fun _ k => XS.iloadN X0.here hx rfl (hb hby d1_8) rfl k) ?_
  refine own_step (W' := s₁.setTop (mkF m 10 #[.val (.int (1 : Int32))] [(.int (1 : Int32)), (.int (1 : Int32))])) (fun _ k => XS.iconst X0.here hx rfl (hb hby d1_9) k) ?_
  refine own_step (W' := s₁.setTop (mkF m 13 #[.val (.int (1 : Int32))] [])) (fun _ k => XS.icmpNo X0.here hx rfl (hb hby d1_10) rfl (by decide) k) ?_
  obtain ⟨T1, X1, e1, st1⟩ := getS2 X0 hx hZ hown (host := "") (Or.inl (hw _ (List.mem_of_getElem? (i := 17) rfl))) Via.refl e0 (pin_S2 P) (g := (mkF m 13 #[.val (.int (1 : Int32))] [])) rfl (hb hby d1_13)
  refine own_step (W' := T1.setTop (mkF m 16 #[.val (.int (1 : Int32))] [(.ref (w 2))])) (fun _ k => st1 _ k) ?_
  exact own_ret X1 Bd.notSynchronized Bd.returns (v := (.ref (w 2))) (fun fs hr => retOut X1 hx Bd.returns rfl (Or.inr (Or.inr (Or.inr (Or.inr ⟨rfl, rfl, rfl⟩)))) (hb hby d1_16) hr) ⟨rfl, N0, e1⟩ (by decide) (by decide)
set_option maxRecDepth 65536 in
set_option maxHeartbeats 40000000 in
theorem rm2_w0_w2 (l : Launch) (Z : State) (a0 : Array Value) (hw : ∀ d ∈ tables_1, d.before a0 Z = true) (ws : List Jvm.Cond) (w : Nat → Addr) (h0 : Heap) (n0 : Nat) (Z0 : n0 ≤ h0.size) (P : Pins Z h0 w) :
    MetFree l (⟨"com/example/levy/levy/Scope", "grants", "(Lcom/example/levy/levy/Scope;)Z"⟩ : MethodName) (head1 (Jvm.Cond.code (⟨"com/example/levy/levy/Scope", "grants", "(Lcom/example/levy/levy/Scope;)Z"⟩ : MethodName) prog_23_method_5_code 2 (some .boolean) :: ws) ({ frames := 0, cells := 0, slots := 0, locals := 0 } : Room)) (fun a U => a = #[(.ref (w 0)), (.ref (w 2))] ∧ Z.Warmed39 U.vm ∧ U.heap = h0) (fun _ _ _ _ _ => True) (fun _ U o U' => ∃ v L, o = .returned v ∧ own_QK (some (.int (0 : Int32))) h0 n0 v U'.heap L ∧ FrameEnd U o U' L ({ frames := 0, cells := 0, slots := 0, locals := 0 } : Room).cells ({ frames := 0, cells := 0, slots := 0, locals := 0 } : Room).slots) := by
  refine MetFree.of_bodySF (plainFor_of_name pn_com_example_levy_levy_Scope) hisR ?_
  intro p e s m args below meth c s₁ Bd hml0 hP hK
  obtain ⟨rfl, hZ, hh⟩ := hP
  have hx := Bd.exec
  have hby := Bd.bytes
  have hml : c.maxLocals = 2 := hml0
  have hown : s.vm.findClass "com/example/levy/levy/Scope" = some m.cls := findClass_of_methodNamed Bd.named
  have hnm := (name_of_methodNamed Bd.named Bd.method).1
  have X0 : Stand p l e ({ frames := 0, cells := 0, slots := 0, locals := 0 } : Room) s m #[(.ref (w 0)), (.ref (w 2))] below meth c s₁ [] 0 0 := Stand.of_body Bd
  have e0 : s₁.heap = h0 := by rw [← hh, Bd.state]; rfl
  have N0 := Fr.nil n0
  refine own_enter (ef_2_RR m (w 0) (w 2)) ?_
  refine own_step (W' := s₁.setTop (mkF m 1 #[.val (.ref (w 0)), .val (.ref (w 2))] [(.ref (w 0))])) (fun _ k => XS.aloadN X0.here hx rfl (hb hby d2_0) rfl rfl k) ?_
  obtain ⟨T1, X1, e1, st1⟩ := getS2 X0 hx hZ hown (host := "") (Or.inl (hw _ (List.mem_of_getElem? (i := 14) rfl))) Via.refl e0 (pin_S1 P) (g := (mkF m 1 #[.val (.ref (w 0)), .val (.ref (w 2))] [(.ref (w 0))])) rfl (hb hby d2_1)
  refine own_step (W' := T1.setTop (mkF m 4 #[.val (.ref (w 0)), .val (.ref (w 2))] [(.ref (w 1)), (.ref (w 0))])) (fun _ k => st1 _ k) ?_
  refine own_step (W' := T1.setTop (mkF m 7 #[.val (.ref (w 0)), .val (.ref (w 2))] [])) (fun _ k => Jvm.RoadKit.acmp (g := (mkF m 4 #[.val (.ref (w 0)), .val (.ref (w 2))] [(.ref (w 1)), (.ref (w 0))])) X1 hx rfl rfl rfl (pc0 := 4) (pc' := 7) (same := false) rfl (hb hby d2_4) rfl (decide_eq_false fun q => (Fld.ne (pin_F0_ordinal P) (pin_F1_ordinal P) (by decide)) (Value.ref.inj q)) (by decide) (by decide) k) ?_
  refine own_step (W' := T1.setTop (mkF m 8 #[.val (.ref (w 0)), .val (.ref (w 2))] [(.ref (w 0))])) (fun _ k => XS.aloadN X1.here hx rfl (hb hby d2_7) rfl rfl k) ?_
  refine own_step (W' := T1.setTop (mkF m 9 #[.val (.ref (w 0)), .val (.ref (w 2))] [(.ref (w 2)), (.ref (w 0))])) (fun _ k => XS.aloadN X1.here hx rfl (hb hby d2_8) rfl rfl k) ?_
  refine own_step (W' := T1.setTop (mkF m 16 #[.val (.ref (w 0)), .val (.ref (w 2))] [])) (fun _ k => Jvm.RoadKit.acmp (g := (mkF m 9 #[.val (.ref (w 0)), .val (.ref (w 2))] [(.ref (w 2)), (.ref (w 0))])) X1 hx rfl rfl rfl (pc0 := 9) (pc' := 16) (same := false) rfl (hb hby d2_9) rfl (decide_eq_false fun q => (Fld.ne (pin_F0_ordinal P) (pin_F2_ordinal P) (by decide)) (Value.ref.inj q)) (by decide) (by decide) k) ?_
  refine own_step (W' := T1.setTop (mkF m 17 #[.val (.ref (w 0)), .val (.ref (w 2))] [(.int (0 : Int32))])) (fun _ k => XS.iconst X1.here hx rfl (hb hby d2_16) k) ?_
  exact own_ret X1 Bd.notSynchronized Bd.returns (v := (.int (0 : Int32))) (fun fs hr => retN X1 hx (t := .boolean) Bd.returns (by simp) (hb hby d2_17) hr) ⟨rfl, N0, e1⟩ (by decide) (by decide)
set_option maxRecDepth 65536 in
set_option maxHeartbeats 40000000 in
theorem rm0_01 (l : Launch) (Z : State) (a0 : Array Value) (hw : ∀ d ∈ tables_1, d.before a0 Z = true) (ws : List Jvm.Cond) (p1 p2 : Int32) (ha : ((p1 &&& (2147483647 : Int32)) % (3 : Int32)) = (0 : Int32)) (hb' : ((p2 &&& (2147483647 : Int32)) % (3 : Int32)) = (1 : Int32)) (w : Nat → Addr) (h0 : Heap) (n0 : Nat) (Z0 : n0 ≤ h0.size) (P : Pins Z h0 w) :
    MetFree l x (head1 (Jvm.Cond.code x code maxLocals ret :: ws) room_1) (fun a U => a = #[(.int p1), (.int p2)] ∧ Z.Warmed39 U.vm ∧ U.heap = h0) (fun _ _ _ _ _ => True) (fun _ U o U' => ∃ v L, o = .returned v ∧ own_Q0 n0 v U'.heap L ∧ FrameEnd U o U' L room_1.cells room_1.slots) := by
  refine MetFree.of_bodySF (plainFor_of_name pn_com_example_levy_levy_ScopeGrantsPinLaw) hisR ?_
  intro p e s m args below meth c s₁ Bd hml0 hP hK
  obtain ⟨rfl, hZ, hh⟩ := hP
  have hx := Bd.exec
  have hby := Bd.bytes
  have hml : c.maxLocals = 7 := hml0
  have hown : s.vm.findClass "com/example/levy/levy/ScopeGrantsPinLaw" = some m.cls := findClass_of_methodNamed Bd.named
  have hnm := (name_of_methodNamed Bd.named Bd.method).1
  have X0 : Stand p l e room_1 s m #[(.int p1), (.int p2)] below meth c s₁ [] 0 0 := Stand.of_body Bd
  have e0 : s₁.heap = h0 := by rw [← hh, Bd.state]; rfl
  have N0 := Fr.nil n0
  refine own_enter (ef_0_II m p1 p2) ?_
  refine own_step (W' := s₁.setTop (mkF m 1 #[.val (.int p1), .val (.int p2), .unset, .unset, .unset, .unset, .unset] [(.int p1)])) (fun _ k => XS.iloadN X0.here hx rfl (hb hby at_0) rfl k) ?_
  refine own_step (W' := s₁.setTop (mkF m 3 #[.val (.int p1), .val (.int p2), .unset, .unset, .unset, .unset, .unset] [(.int (2147483647 : Int32)), (.int p1)])) (fun _ k => X0.ldcInt hx hown (mvT hZ (hw _ (List.mem_of_getElem? (i := 0) rfl))) (g := (mkF m 1 #[.val (.int p1), .val (.int p2), .unset, .unset, .unset, .unset, .unset] [(.int p1)])) rfl (hb hby at_1) _ k) ?_
  refine own_step (W' := s₁.setTop (mkF m 4 #[.val (.int p1), .val (.int p2), .unset, .unset, .unset, .unset, .unset] [(.int (p1 &&& (2147483647 : Int32)))])) (fun _ k => XS.iand X0.here hx rfl (hb hby at_3) rfl k) ?_
  refine own_step (W' := s₁.setTop (mkF m 5 #[.val (.int p1), .val (.int p2), .unset, .unset, .unset, .unset, .unset] [(.int (3 : Int32)), (.int (p1 &&& (2147483647 : Int32)))])) (fun _ k => XS.iconst X0.here hx rfl (hb hby at_4) k) ?_
  refine own_step (W' := s₁.setTop (mkF m 6 #[.val (.int p1), .val (.int p2), .unset, .unset, .unset, .unset, .unset] [(.int ((p1 &&& (2147483647 : Int32)) % (3 : Int32)))])) (fun _ k => iremM X0 hx rfl (hb hby at_5) rfl (by decide) k) ?_
  rw [ha]
  refine own_step (W' := s₁.setTop (mkF m 7 #[.val (.int p1), .val (.int p2), .val (.int (0 : Int32)), .unset, .unset, .unset, .unset] [])) (fun _ k => XS.istoreN X0.here hx rfl (hb hby at_6) rfl (l' := #[.val (.int p1), .val (.int p2), .val (.int (0 : Int32)), .unset, .unset, .unset, .unset]) rfl k) ?_
  refine own_step (W' := s₁.setTop (mkF m 8 #[.val (.int p1), .val (.int p2), .val (.int (0 : Int32)), .unset, .unset, .unset, .unset] [(.int p2)])) (fun _ k => XS.iloadN X0.here hx rfl (hb hby at_7) rfl k) ?_
  refine own_step (W' := s₁.setTop (mkF m 10 #[.val (.int p1), .val (.int p2), .val (.int (0 : Int32)), .unset, .unset, .unset, .unset] [(.int (2147483647 : Int32)), (.int p2)])) (fun _ k => X0.ldcInt hx hown (mvT hZ (hw _ (List.mem_of_getElem? (i := 0) rfl))) (g := (mkF m 8 #[.val (.int p1), .val (.int p2), .val (.int (0 : Int32)), .unset, .unset, .unset, .unset] [(.int p2)])) rfl (hb hby at_8) _ k) ?_
  refine own_step (W' := s₁.setTop (mkF m 11 #[.val (.int p1), .val (.int p2), .val (.int (0 : Int32)), .unset, .unset, .unset, .unset] [(.int (p2 &&& (2147483647 : Int32)))])) (fun _ k => XS.iand X0.here hx rfl (hb hby at_10) rfl k) ?_
  refine own_step (W' := s₁.setTop (mkF m 12 #[.val (.int p1), .val (.int p2), .val (.int (0 : Int32)), .unset, .unset, .unset, .unset] [(.int (3 : Int32)), (.int (p2 &&& (2147483647 : Int32)))])) (fun _ k => XS.iconst X0.here hx rfl (hb hby at_11) k) ?_
  refine own_step (W' := s₁.setTop (mkF m 13 #[.val (.int p1), .val (.int p2), .val (.int (0 : Int32)), .unset, .unset, .unset, .unset] [(.int ((p2 &&& (2147483647 : Int32)) % (3 : Int32)))])) (fun _ k => iremM X0 hx rfl (hb hby at_12) rfl (by decide) k) ?_
  rw [hb']
  refine own_step (W' := s₁.setTop (mkF m 14 #[.val (.int p1), .val (.int p2), .val (.int (0 : Int32)), .val (.int (1 : Int32)), .unset, .unset, .unset] [])) (fun _ k => XS.istoreN X0.here hx rfl (hb hby at_13) rfl (l' := #[.val (.int p1), .val (.int p2), .val (.int (0 : Int32)), .val (.int (1 : Int32)), .unset, .unset, .unset]) rfl k) ?_
  refine own_fill p1 p2 (0 : Int32) (1 : Int32) X0 hx hZ hw hby hml hown e0 N0 Z0 P ?_
  intro T1 h1 L1 k1 b1 X1 e1 E1 N1 V1
  have P1 : Pins Z h1 w := P.ext E1
  have Z1 : n0 ≤ h1.size := Nat.le_trans Z0 E1.1
  refine own_step (W' := T1.setTop (mkF m 59 #[.val (.int p1), .val (.int p2), .val (.int (0 : Int32)), .val (.int (1 : Int32)), .val (.ref b1), .unset, .unset] [])) (fun _ k => XS.astore X1.here hx rfl (hb hby at_57) rfl rfl (l' := #[.val (.int p1), .val (.int p2), .val (.int (0 : Int32)), .val (.int (1 : Int32)), .val (.ref b1), .unset, .unset]) rfl k) ?_
  refine own_step (W' := T1.setTop (mkF m 60 #[.val (.int p1), .val (.int p2), .val (.int (0 : Int32)), .val (.int (1 : Int32)), .val (.ref b1), .unset, .unset] [(.int (0 : Int32))])) (fun _ k => XS.iloadN X1.here hx rfl (hb hby at_59) rfl k) ?_
  obtain ⟨_, _, ⟨T2, L2, k2, n2⟩, -, X2, ⟨Lc2, hQ2, l2, y2, z2⟩, st2⟩ := Jvm.LawKit.callS X1 hx (y := (⟨"com/example/levy/levy/ScopeGrantsPinLaw", "pick", "(I)Lcom/example/levy/levy/Scope;"⟩ : MethodName)) hown (mvT hZ (hw _ (List.mem_of_getElem? (i := 2) rfl))) (mvT hZ (hw _ (List.mem_of_getElem? (i := 3) rfl))) (mvT hZ (hw _ (List.mem_of_getElem? (i := 4) rfl))) (mvT hZ (hw _ (List.mem_of_getElem? (i := 5) rfl))) (by decide) (backOf (W := 0) (rm1_0 l Z a0 hw [] w h1 n0 Z1 P1) hZ (hw _ (List.mem_of_getElem? (i := 5) rfl)) (hw _ (List.mem_of_getElem? (i := 4) rfl)) (by decide) (by decide)) (g := (mkF m 60 #[.val (.int p1), .val (.int p2), .val (.int (0 : Int32)), .val (.int (1 : Int32)), .val (.ref b1), .unset, .unset] [(.int (0 : Int32))])) rfl (by rw [hml]; rfl) (argsL := [(.int (0 : Int32))]) (rest := []) (lenOf pd_0 rfl) rfl (by show 2 * 0 + _ ≤ _; exact Nat.le_of_eq rfl) (hb hby at_60) (fun _ _ => ⟨rfl, e1, (by decide : 1 + 0 ≤ _), (by decide : 9 + 0 ≤ _)⟩)
  dsimp only [Pt.U, Pt.locs, Pt.cells, Pt.slots] at X2 l2 y2 z2 st2 hQ2
  subst l2 y2 z2
  obtain ⟨rfl, N2q, e2⟩ := hQ2
  have N2 := Fr.app N1 N2q
  refine own_step (W' := T2.setTop (mkF m 63 #[.val (.int p1), .val (.int p2), .val (.int (0 : Int32)), .val (.int (1 : Int32)), .val (.ref b1), .unset, .unset] [(.ref (w 0))])) (fun _ k => st2 _ k) ?_
  refine own_step (W' := T2.setTop (mkF m 65 #[.val (.int p1), .val (.int p2), .val (.int (0 : Int32)), .val (.int (1 : Int32)), .val (.ref b1), .val (.ref (w 0)), .unset] [])) (fun _ k => XS.astore X2.here hx rfl (hb hby at_63) rfl rfl (l' := #[.val (.int p1), .val (.int p2), .val (.int (0 : Int32)), .val (.int (1 : Int32)), .val (.ref b1), .val (.ref (w 0)), .unset]) rfl k) ?_
  refine own_step (W' := T2.setTop (mkF m 66 #[.val (.int p1), .val (.int p2), .val (.int (0 : Int32)), .val (.int (1 : Int32)), .val (.ref b1), .val (.ref (w 0)), .unset] [(.int (1 : Int32))])) (fun _ k => XS.iloadN X2.here hx rfl (hb hby at_65) rfl k) ?_
  obtain ⟨_, _, ⟨T3, L3, k3, n3⟩, -, X3, ⟨Lc3, hQ3, l3, y3, z3⟩, st3⟩ := Jvm.LawKit.callS X2 hx (y := (⟨"com/example/levy/levy/ScopeGrantsPinLaw", "pick", "(I)Lcom/example/levy/levy/Scope;"⟩ : MethodName)) hown (mvT hZ (hw _ (List.mem_of_getElem? (i := 2) rfl))) (mvT hZ (hw _ (List.mem_of_getElem? (i := 3) rfl))) (mvT hZ (hw _ (List.mem_of_getElem? (i := 4) rfl))) (mvT hZ (hw _ (List.mem_of_getElem? (i := 5) rfl))) (by decide) (backOf (W := 0) (rm1_1 l Z a0 hw [] w h1 n0 Z1 P1) hZ (hw _ (List.mem_of_getElem? (i := 5) rfl)) (hw _ (List.mem_of_getElem? (i := 4) rfl)) (by decide) (by decide)) (g := (mkF m 66 #[.val (.int p1), .val (.int p2), .val (.int (0 : Int32)), .val (.int (1 : Int32)), .val (.ref b1), .val (.ref (w 0)), .unset] [(.int (1 : Int32))])) rfl (by rw [hml]; rfl) (argsL := [(.int (1 : Int32))]) (rest := []) (lenOf pd_0 rfl) rfl (by show 2 * 0 + _ ≤ _; exact Nat.le_of_eq rfl) (hb hby at_66) (fun _ _ => ⟨rfl, e2, (by decide : 1 + 0 ≤ _), (by decide : 9 + 0 ≤ _)⟩)
  dsimp only [Pt.U, Pt.locs, Pt.cells, Pt.slots] at X3 l3 y3 z3 st3 hQ3
  subst l3 y3 z3
  obtain ⟨rfl, N3q, e3⟩ := hQ3
  have N3 := Fr.app N2 N3q
  refine own_step (W' := T3.setTop (mkF m 69 #[.val (.int p1), .val (.int p2), .val (.int (0 : Int32)), .val (.int (1 : Int32)), .val (.ref b1), .val (.ref (w 0)), .unset] [(.ref (w 2))])) (fun _ k => st3 _ k) ?_
  refine own_step (W' := T3.setTop (mkF m 71 #[.val (.int p1), .val (.int p2), .val (.int (0 : Int32)), .val (.int (1 : Int32)), .val (.ref b1), .val (.ref (w 0)), .val (.ref (w 2))] [])) (fun _ k => XS.astore X3.here hx rfl (hb hby at_69) rfl rfl (l' := #[.val (.int p1), .val (.int p2), .val (.int (0 : Int32)), .val (.int (1 : Int32)), .val (.ref b1), .val (.ref (w 0)), .val (.ref (w 2))]) rfl k) ?_
  refine own_step (W' := T3.setTop (mkF m 73 #[.val (.int p1), .val (.int p2), .val (.int (0 : Int32)), .val (.int (1 : Int32)), .val (.ref b1), .val (.ref (w 0)), .val (.ref (w 2))] [(.ref (w 0))])) (fun _ k => XS.aload X3.here hx rfl (hb hby at_71) rfl rfl k) ?_
  refine own_step (W' := T3.setTop (mkF m 75 #[.val (.int p1), .val (.int p2), .val (.int (0 : Int32)), .val (.int (1 : Int32)), .val (.ref b1), .val (.ref (w 0)), .val (.ref (w 2))] [(.ref (w 2)), (.ref (w 0))])) (fun _ k => XS.aload X3.here hx rfl (hb hby at_73) rfl rfl k) ?_
  obtain ⟨cq4, kq4, q4a, q4b, q4c⟩ := isOf hZ e3 (pin_E0 P1)
  obtain ⟨_, _, ⟨T4, L4, k4, n4⟩, -, X4, ⟨Lc4, hQ4, l4, y4, z4⟩, st4⟩ := X3.virtualBack hx (y := (⟨"com/example/levy/levy/Scope", "grants", "(Lcom/example/levy/levy/Scope;)Z"⟩ : MethodName)) (z := (⟨"com/example/levy/levy/Scope", "grants", "(Lcom/example/levy/levy/Scope;)Z"⟩ : MethodName)) hown (mvT hZ (hw _ (List.mem_of_getElem? (i := 9) rfl))) (mvT hZ (hw _ (List.mem_of_getElem? (i := 10) rfl))) (notFace_of_selects (args := #[]) (mvT hZ (hw _ (List.mem_of_getElem? (i := 12) rfl)))) (mvT hZ (hw _ (List.mem_of_getElem? (i := 12) rfl))) (mvT hZ (hw _ (List.mem_of_getElem? (i := 11) rfl))) (by decide) (backOf (W := 0) (rm2_w0_w2 l Z a0 hw [] w h1 n0 Z1 P1) hZ (hw _ (List.mem_of_getElem? (i := 13) rfl)) (hw _ (List.mem_of_getElem? (i := 7) rfl)) (by decide) (by decide)) q4a q4c (g := (mkF m 75 #[.val (.int p1), .val (.int p2), .val (.int (0 : Int32)), .val (.int (1 : Int32)), .val (.ref b1), .val (.ref (w 0)), .val (.ref (w 2))] [(.ref (w 2)), (.ref (w 0))])) rfl (by rw [hml]; rfl) (Steps.refl _) (argsL := [(.ref (w 2))]) (rest := []) (lenOf pd_1 rfl) rfl (by show 2 * 0 + _ ≤ _; exact Nat.le_of_eq rfl) (hb hby at_75) (fun _ _ => ⟨rfl, e3, (by decide : 1 + 0 ≤ _), (by decide : 9 + 0 ≤ _)⟩)
  dsimp only [Pt.U, Pt.locs, Pt.cells, Pt.slots] at X4 l4 y4 z4 st4 hQ4
  subst l4 y4 z4
  obtain ⟨rfl, N4q, e4⟩ := hQ4
  have N4 := Fr.app N3 N4q
  refine own_step (W' := T4.setTop (mkF m 78 #[.val (.int p1), .val (.int p2), .val (.int (0 : Int32)), .val (.int (1 : Int32)), .val (.ref b1), .val (.ref (w 0)), .val (.ref (w 2))] [(.int (0 : Int32))])) (fun _ k => st4.trans k) ?_
  refine own_step (W' := T4.setTop (mkF m 80 #[.val (.int p1), .val (.int p2), .val (.int (0 : Int32)), .val (.int (1 : Int32)), .val (.ref b1), .val (.ref (w 0)), .val (.ref (w 2))] [(.ref b1), (.int (0 : Int32))])) (fun _ k => XS.aload X4.here hx rfl (hb hby at_78) rfl rfl k) ?_
  refine own_step (W' := T4.setTop (mkF m 81 #[.val (.int p1), .val (.int p2), .val (.int (0 : Int32)), .val (.int (1 : Int32)), .val (.ref b1), .val (.ref (w 0)), .val (.ref (w 2))] [(.int (0 : Int32)), (.ref b1), (.int (0 : Int32))])) (fun _ k => XS.iloadN X4.here hx rfl (hb hby at_80) rfl k) ?_
  refine own_step (W' := T4.setTop (mkF m 82 #[.val (.int p1), .val (.int p2), .val (.int (0 : Int32)), .val (.int (1 : Int32)), .val (.ref b1), .val (.ref (w 0)), .val (.ref (w 2))] [(.int (3 : Int32)), (.int (0 : Int32)), (.ref b1), (.int (0 : Int32))])) (fun _ k => XS.iconst X4.here hx rfl (hb hby at_81) k) ?_
  refine own_step (W' := T4.setTop (mkF m 83 #[.val (.int p1), .val (.int p2), .val (.int (0 : Int32)), .val (.int (1 : Int32)), .val (.ref b1), .val (.ref (w 0)), .val (.ref (w 2))] [(.int ((0 : Int32) * (3 : Int32))), (.ref b1), (.int (0 : Int32))])) (fun _ k => XS.imul X4.here hx rfl (hb hby at_82) rfl k) ?_
  rw [show ((0 : Int32) * (3 : Int32)) = (0 : Int32) from by decide]
  refine own_step (W' := T4.setTop (mkF m 84 #[.val (.int p1), .val (.int p2), .val (.int (0 : Int32)), .val (.int (1 : Int32)), .val (.ref b1), .val (.ref (w 0)), .val (.ref (w 2))] [(.int (1 : Int32)), (.int (0 : Int32)), (.ref b1), (.int (0 : Int32))])) (fun _ k => XS.iloadN X4.here hx rfl (hb hby at_83) rfl k) ?_
  refine own_step (W' := T4.setTop (mkF m 85 #[.val (.int p1), .val (.int p2), .val (.int (0 : Int32)), .val (.int (1 : Int32)), .val (.ref b1), .val (.ref (w 0)), .val (.ref (w 2))] [(.int ((0 : Int32) + (1 : Int32))), (.ref b1), (.int (0 : Int32))])) (fun _ k => XS.iadd X4.here hx rfl (hb hby at_84) rfl k) ?_
  rw [show ((0 : Int32) + (1 : Int32)) = (1 : Int32) from by decide]
  refine own_step (W' := T4.setTop (mkF m 86 #[.val (.int p1), .val (.int p2), .val (.int (0 : Int32)), .val (.int (1 : Int32)), .val (.ref b1), .val (.ref (w 0)), .val (.ref (w 2))] [(.int (nar .boolean (0 : Int32))), (.int (0 : Int32))])) (fun _ k => own_ldZ X4 hx hZ e4 V1 (j := (1 : Int32)) (v := (.int (nar .boolean (0 : Int32)))) ⟨by decide, by decide⟩ rfl (g := (mkF m 85 #[.val (.int p1), .val (.int p2), .val (.int (0 : Int32)), .val (.int (1 : Int32)), .val (.ref b1), .val (.ref (w 0)), .val (.ref (w 2))] [(.int (1 : Int32)), (.ref b1), (.int (0 : Int32))])) rfl rfl (hb hby at_85) _ k) ?_
  refine own_step (W' := T4.setTop (mkF m 89 #[.val (.int p1), .val (.int p2), .val (.int (0 : Int32)), .val (.int (1 : Int32)), .val (.ref b1), .val (.ref (w 0)), .val (.ref (w 2))] [])) (fun _ k => XS.icmpNo X4.here hx rfl (hb hby at_86) rfl (by decide) k) ?_
  refine own_step (W' := T4.setTop (mkF m 90 #[.val (.int p1), .val (.int p2), .val (.int (0 : Int32)), .val (.int (1 : Int32)), .val (.ref b1), .val (.ref (w 0)), .val (.ref (w 2))] [(.int (1 : Int32))])) (fun _ k => XS.iconst X4.here hx rfl (hb hby at_89) k) ?_
  refine own_step (W' := T4.setTop (mkF m 94 #[.val (.int p1), .val (.int p2), .val (.int (0 : Int32)), .val (.int (1 : Int32)), .val (.ref b1), .val (.ref (w 0)), .val (.ref (w 2))] [(.int (1 : Int32))])) (fun _ k => XS.goto X4.here hx rfl (pc0 := 90) (pc' := 94) rfl (hb hby at_90) (by decide) (by decide) k) ?_
  exact own_ret X4 Bd.notSynchronized Bd.returns (v := (.int (1 : Int32))) (fun fs hr => retN X4 hx (t := .boolean) Bd.returns (by simp) (hb hby at_94) hr) ⟨rfl, N4⟩ (by decide) (by decide)
set_option maxRecDepth 65536 in
set_option maxHeartbeats 40000000 in
theorem rm1_2 (l : Launch) (Z : State) (a0 : Array Value) (hw : ∀ d ∈ tables_1, d.before a0 Z = true) (ws : List Jvm.Cond) (w : Nat → Addr) (h0 : Heap) (n0 : Nat) (Z0 : n0 ≤ h0.size) (P : Pins Z h0 w) :
    MetFree l (⟨"com/example/levy/levy/ScopeGrantsPinLaw", "pick", "(I)Lcom/example/levy/levy/Scope;"⟩ : MethodName) (head1 (Jvm.Cond.code (⟨"com/example/levy/levy/ScopeGrantsPinLaw", "pick", "(I)Lcom/example/levy/levy/Scope;"⟩ : MethodName) method_2_code 1 (some (.object "com/example/levy/levy/Scope")) :: ws) ({ frames := 0, cells := 0, slots := 0, locals := 0 } : Room)) (fun a U => a = #[(.int (2 : Int32))] ∧ Z.Warmed39 U.vm ∧ U.heap = h0) (fun _ _ _ _ _ => True) (fun _ U o U' => ∃ v L, o = .returned v ∧ own_QK (some (.ref (w 1))) h0 n0 v U'.heap L ∧ FrameEnd U o U' L ({ frames := 0, cells := 0, slots := 0, locals := 0 } : Room).cells ({ frames := 0, cells := 0, slots := 0, locals := 0 } : Room).slots) := by
  refine MetFree.of_bodySF (plainFor_of_name pn_com_example_levy_levy_ScopeGrantsPinLaw) hisR ?_
  intro p e s m args below meth c s₁ Bd hml0 hP hK
  obtain ⟨rfl, hZ, hh⟩ := hP
  have hx := Bd.exec
  have hby := Bd.bytes
  have hml : c.maxLocals = 1 := hml0
  have hown : s.vm.findClass "com/example/levy/levy/ScopeGrantsPinLaw" = some m.cls := findClass_of_methodNamed Bd.named
  have hnm := (name_of_methodNamed Bd.named Bd.method).1
  have X0 : Stand p l e ({ frames := 0, cells := 0, slots := 0, locals := 0 } : Room) s m #[(.int (2 : Int32))] below meth c s₁ [] 0 0 := Stand.of_body Bd
  have e0 : s₁.heap = h0 := by rw [← hh, Bd.state]; rfl
  have N0 := Fr.nil n0
  refine own_enter (ef_1_I m (2 : Int32)) ?_
  refine own_step (W' := s₁.setTop (mkF m 1 #[.val (.int (2 : Int32))] [(.int (2 : Int32))])) (fun _ k => XS.iloadN X0.here hx rfl (hb hby d1_0) rfl k) ?_
  refine own_step (W' := s₁.setTop (mkF m 8 #[.val (.int (2 : Int32))] [])) (fun _ k => XS.ifYes X0.here hx rfl (pc0 := 1) (pc' := 8) rfl (hb hby d1_1) rfl (by decide) (by decide) (by decide) k) ?_
  refine own_step (W' := s₁.setTop (mkF m 9 #[.val (.int (2 : Int32))] [(.int (2 : Int32))])) (fun _ k => XS.iloadN X0.here hx rfl (hb hby d1_8) rfl k) ?_
  refine own_step (W' := s₁.setTop (mkF m 10 #[.val (.int (2 : Int32))] [(.int (1 : Int32)), (.int (2 : Int32))])) (fun _ k => XS.iconst X0.here hx rfl (hb hby d1_9) k) ?_
  refine own_step (W' := s₁.setTop (mkF m 17 #[.val (.int (2 : Int32))] [])) (fun _ k => XS.icmpYes X0.here hx rfl (pc0 := 10) (pc' := 17) rfl (hb hby d1_10) rfl (by decide) (by decide) (by decide) k) ?_
  obtain ⟨T1, X1, e1, st1⟩ := getS2 X0 hx hZ hown (host := "") (Or.inl (hw _ (List.mem_of_getElem? (i := 16) rfl))) Via.refl e0 (pin_S1 P) (g := (mkF m 17 #[.val (.int (2 : Int32))] [])) rfl (hb hby d1_17)
  refine own_step (W' := T1.setTop (mkF m 20 #[.val (.int (2 : Int32))] [(.ref (w 1))])) (fun _ k => st1 _ k) ?_
  exact own_ret X1 Bd.notSynchronized Bd.returns (v := (.ref (w 1))) (fun fs hr => retOut X1 hx Bd.returns rfl (Or.inr (Or.inr (Or.inr (Or.inr ⟨rfl, rfl, rfl⟩)))) (hb hby d1_20) hr) ⟨rfl, N0, e1⟩ (by decide) (by decide)
set_option maxRecDepth 65536 in
set_option maxHeartbeats 40000000 in
theorem rm2_w0_w1 (l : Launch) (Z : State) (a0 : Array Value) (hw : ∀ d ∈ tables_1, d.before a0 Z = true) (ws : List Jvm.Cond) (w : Nat → Addr) (h0 : Heap) (n0 : Nat) (Z0 : n0 ≤ h0.size) (P : Pins Z h0 w) :
    MetFree l (⟨"com/example/levy/levy/Scope", "grants", "(Lcom/example/levy/levy/Scope;)Z"⟩ : MethodName) (head1 (Jvm.Cond.code (⟨"com/example/levy/levy/Scope", "grants", "(Lcom/example/levy/levy/Scope;)Z"⟩ : MethodName) prog_23_method_5_code 2 (some .boolean) :: ws) ({ frames := 0, cells := 0, slots := 0, locals := 0 } : Room)) (fun a U => a = #[(.ref (w 0)), (.ref (w 1))] ∧ Z.Warmed39 U.vm ∧ U.heap = h0) (fun _ _ _ _ _ => True) (fun _ U o U' => ∃ v L, o = .returned v ∧ own_QK (some (.int (0 : Int32))) h0 n0 v U'.heap L ∧ FrameEnd U o U' L ({ frames := 0, cells := 0, slots := 0, locals := 0 } : Room).cells ({ frames := 0, cells := 0, slots := 0, locals := 0 } : Room).slots) := by
  refine MetFree.of_bodySF (plainFor_of_name pn_com_example_levy_levy_Scope) hisR ?_
  intro p e s m args below meth c s₁ Bd hml0 hP hK
  obtain ⟨rfl, hZ, hh⟩ := hP
  have hx := Bd.exec
  have hby := Bd.bytes
  have hml : c.maxLocals = 2 := hml0
  have hown : s.vm.findClass "com/example/levy/levy/Scope" = some m.cls := findClass_of_methodNamed Bd.named
  have hnm := (name_of_methodNamed Bd.named Bd.method).1
  have X0 : Stand p l e ({ frames := 0, cells := 0, slots := 0, locals := 0 } : Room) s m #[(.ref (w 0)), (.ref (w 1))] below meth c s₁ [] 0 0 := Stand.of_body Bd
  have e0 : s₁.heap = h0 := by rw [← hh, Bd.state]; rfl
  have N0 := Fr.nil n0
  refine own_enter (ef_2_RR m (w 0) (w 1)) ?_
  refine own_step (W' := s₁.setTop (mkF m 1 #[.val (.ref (w 0)), .val (.ref (w 1))] [(.ref (w 0))])) (fun _ k => XS.aloadN X0.here hx rfl (hb hby d2_0) rfl rfl k) ?_
  obtain ⟨T1, X1, e1, st1⟩ := getS2 X0 hx hZ hown (host := "") (Or.inl (hw _ (List.mem_of_getElem? (i := 14) rfl))) Via.refl e0 (pin_S1 P) (g := (mkF m 1 #[.val (.ref (w 0)), .val (.ref (w 1))] [(.ref (w 0))])) rfl (hb hby d2_1)
  refine own_step (W' := T1.setTop (mkF m 4 #[.val (.ref (w 0)), .val (.ref (w 1))] [(.ref (w 1)), (.ref (w 0))])) (fun _ k => st1 _ k) ?_
  refine own_step (W' := T1.setTop (mkF m 7 #[.val (.ref (w 0)), .val (.ref (w 1))] [])) (fun _ k => Jvm.RoadKit.acmp (g := (mkF m 4 #[.val (.ref (w 0)), .val (.ref (w 1))] [(.ref (w 1)), (.ref (w 0))])) X1 hx rfl rfl rfl (pc0 := 4) (pc' := 7) (same := false) rfl (hb hby d2_4) rfl (decide_eq_false fun q => (Fld.ne (pin_F0_ordinal P) (pin_F1_ordinal P) (by decide)) (Value.ref.inj q)) (by decide) (by decide) k) ?_
  refine own_step (W' := T1.setTop (mkF m 8 #[.val (.ref (w 0)), .val (.ref (w 1))] [(.ref (w 0))])) (fun _ k => XS.aloadN X1.here hx rfl (hb hby d2_7) rfl rfl k) ?_
  refine own_step (W' := T1.setTop (mkF m 9 #[.val (.ref (w 0)), .val (.ref (w 1))] [(.ref (w 1)), (.ref (w 0))])) (fun _ k => XS.aloadN X1.here hx rfl (hb hby d2_8) rfl rfl k) ?_
  refine own_step (W' := T1.setTop (mkF m 16 #[.val (.ref (w 0)), .val (.ref (w 1))] [])) (fun _ k => Jvm.RoadKit.acmp (g := (mkF m 9 #[.val (.ref (w 0)), .val (.ref (w 1))] [(.ref (w 1)), (.ref (w 0))])) X1 hx rfl rfl rfl (pc0 := 9) (pc' := 16) (same := false) rfl (hb hby d2_9) rfl (decide_eq_false fun q => (Fld.ne (pin_F0_ordinal P) (pin_F1_ordinal P) (by decide)) (Value.ref.inj q)) (by decide) (by decide) k) ?_
  refine own_step (W' := T1.setTop (mkF m 17 #[.val (.ref (w 0)), .val (.ref (w 1))] [(.int (0 : Int32))])) (fun _ k => XS.iconst X1.here hx rfl (hb hby d2_16) k) ?_
  exact own_ret X1 Bd.notSynchronized Bd.returns (v := (.int (0 : Int32))) (fun fs hr => retN X1 hx (t := .boolean) Bd.returns (by simp) (hb hby d2_17) hr) ⟨rfl, N0, e1⟩ (by decide) (by decide)
set_option maxRecDepth 65536 in
set_option maxHeartbeats 40000000 in
theorem rm0_02 (l : Launch) (Z : State) (a0 : Array Value) (hw : ∀ d ∈ tables_1, d.before a0 Z = true) (ws : List Jvm.Cond) (p1 p2 : Int32) (ha : ((p1 &&& (2147483647 : Int32)) % (3 : Int32)) = (0 : Int32)) (hb' : ((p2 &&& (2147483647 : Int32)) % (3 : Int32)) = (2 : Int32)) (w : Nat → Addr) (h0 : Heap) (n0 : Nat) (Z0 : n0 ≤ h0.size) (P : Pins Z h0 w) :
    MetFree l x (head1 (Jvm.Cond.code x code maxLocals ret :: ws) room_1) (fun a U => a = #[(.int p1), (.int p2)] ∧ Z.Warmed39 U.vm ∧ U.heap = h0) (fun _ _ _ _ _ => True) (fun _ U o U' => ∃ v L, o = .returned v ∧ own_Q0 n0 v U'.heap L ∧ FrameEnd U o U' L room_1.cells room_1.slots) := by
  refine MetFree.of_bodySF (plainFor_of_name pn_com_example_levy_levy_ScopeGrantsPinLaw) hisR ?_
  intro p e s m args below meth c s₁ Bd hml0 hP hK
  obtain ⟨rfl, hZ, hh⟩ := hP
  have hx := Bd.exec
  have hby := Bd.bytes
  have hml : c.maxLocals = 7 := hml0
  have hown : s.vm.findClass "com/example/levy/levy/ScopeGrantsPinLaw" = some m.cls := findClass_of_methodNamed Bd.named
  have hnm := (name_of_methodNamed Bd.named Bd.method).1
  have X0 : Stand p l e room_1 s m #[(.int p1), (.int p2)] below meth c s₁ [] 0 0 := Stand.of_body Bd
  have e0 : s₁.heap = h0 := by rw [← hh, Bd.state]; rfl
  have N0 := Fr.nil n0
  refine own_enter (ef_0_II m p1 p2) ?_
  refine own_step (W' := s₁.setTop (mkF m 1 #[.val (.int p1), .val (.int p2), .unset, .unset, .unset, .unset, .unset] [(.int p1)])) (fun _ k => XS.iloadN X0.here hx rfl (hb hby at_0) rfl k) ?_
  refine own_step (W' := s₁.setTop (mkF m 3 #[.val (.int p1), .val (.int p2), .unset, .unset, .unset, .unset, .unset] [(.int (2147483647 : Int32)), (.int p1)])) (fun _ k => X0.ldcInt hx hown (mvT hZ (hw _ (List.mem_of_getElem? (i := 0) rfl))) (g := (mkF m 1 #[.val (.int p1), .val (.int p2), .unset, .unset, .unset, .unset, .unset] [(.int p1)])) rfl (hb hby at_1) _ k) ?_
  refine own_step (W' := s₁.setTop (mkF m 4 #[.val (.int p1), .val (.int p2), .unset, .unset, .unset, .unset, .unset] [(.int (p1 &&& (2147483647 : Int32)))])) (fun _ k => XS.iand X0.here hx rfl (hb hby at_3) rfl k) ?_
  refine own_step (W' := s₁.setTop (mkF m 5 #[.val (.int p1), .val (.int p2), .unset, .unset, .unset, .unset, .unset] [(.int (3 : Int32)), (.int (p1 &&& (2147483647 : Int32)))])) (fun _ k => XS.iconst X0.here hx rfl (hb hby at_4) k) ?_
  refine own_step (W' := s₁.setTop (mkF m 6 #[.val (.int p1), .val (.int p2), .unset, .unset, .unset, .unset, .unset] [(.int ((p1 &&& (2147483647 : Int32)) % (3 : Int32)))])) (fun _ k => iremM X0 hx rfl (hb hby at_5) rfl (by decide) k) ?_
  rw [ha]
  refine own_step (W' := s₁.setTop (mkF m 7 #[.val (.int p1), .val (.int p2), .val (.int (0 : Int32)), .unset, .unset, .unset, .unset] [])) (fun _ k => XS.istoreN X0.here hx rfl (hb hby at_6) rfl (l' := #[.val (.int p1), .val (.int p2), .val (.int (0 : Int32)), .unset, .unset, .unset, .unset]) rfl k) ?_
  refine own_step (W' := s₁.setTop (mkF m 8 #[.val (.int p1), .val (.int p2), .val (.int (0 : Int32)), .unset, .unset, .unset, .unset] [(.int p2)])) (fun _ k => XS.iloadN X0.here hx rfl (hb hby at_7) rfl k) ?_
  refine own_step (W' := s₁.setTop (mkF m 10 #[.val (.int p1), .val (.int p2), .val (.int (0 : Int32)), .unset, .unset, .unset, .unset] [(.int (2147483647 : Int32)), (.int p2)])) (fun _ k => X0.ldcInt hx hown (mvT hZ (hw _ (List.mem_of_getElem? (i := 0) rfl))) (g := (mkF m 8 #[.val (.int p1), .val (.int p2), .val (.int (0 : Int32)), .unset, .unset, .unset, .unset] [(.int p2)])) rfl (hb hby at_8) _ k) ?_
  refine own_step (W' := s₁.setTop (mkF m 11 #[.val (.int p1), .val (.int p2), .val (.int (0 : Int32)), .unset, .unset, .unset, .unset] [(.int (p2 &&& (2147483647 : Int32)))])) (fun _ k => XS.iand X0.here hx rfl (hb hby at_10) rfl k) ?_
  refine own_step (W' := s₁.setTop (mkF m 12 #[.val (.int p1), .val (.int p2), .val (.int (0 : Int32)), .unset, .unset, .unset, .unset] [(.int (3 : Int32)), (.int (p2 &&& (2147483647 : Int32)))])) (fun _ k => XS.iconst X0.here hx rfl (hb hby at_11) k) ?_
  refine own_step (W' := s₁.setTop (mkF m 13 #[.val (.int p1), .val (.int p2), .val (.int (0 : Int32)), .unset, .unset, .unset, .unset] [(.int ((p2 &&& (2147483647 : Int32)) % (3 : Int32)))])) (fun _ k => iremM X0 hx rfl (hb hby at_12) rfl (by decide) k) ?_
  rw [hb']
  refine own_step (W' := s₁.setTop (mkF m 14 #[.val (.int p1), .val (.int p2), .val (.int (0 : Int32)), .val (.int (2 : Int32)), .unset, .unset, .unset] [])) (fun _ k => XS.istoreN X0.here hx rfl (hb hby at_13) rfl (l' := #[.val (.int p1), .val (.int p2), .val (.int (0 : Int32)), .val (.int (2 : Int32)), .unset, .unset, .unset]) rfl k) ?_
  refine own_fill p1 p2 (0 : Int32) (2 : Int32) X0 hx hZ hw hby hml hown e0 N0 Z0 P ?_
  intro T1 h1 L1 k1 b1 X1 e1 E1 N1 V1
  have P1 : Pins Z h1 w := P.ext E1
  have Z1 : n0 ≤ h1.size := Nat.le_trans Z0 E1.1
  refine own_step (W' := T1.setTop (mkF m 59 #[.val (.int p1), .val (.int p2), .val (.int (0 : Int32)), .val (.int (2 : Int32)), .val (.ref b1), .unset, .unset] [])) (fun _ k => XS.astore X1.here hx rfl (hb hby at_57) rfl rfl (l' := #[.val (.int p1), .val (.int p2), .val (.int (0 : Int32)), .val (.int (2 : Int32)), .val (.ref b1), .unset, .unset]) rfl k) ?_
  refine own_step (W' := T1.setTop (mkF m 60 #[.val (.int p1), .val (.int p2), .val (.int (0 : Int32)), .val (.int (2 : Int32)), .val (.ref b1), .unset, .unset] [(.int (0 : Int32))])) (fun _ k => XS.iloadN X1.here hx rfl (hb hby at_59) rfl k) ?_
  obtain ⟨_, _, ⟨T2, L2, k2, n2⟩, -, X2, ⟨Lc2, hQ2, l2, y2, z2⟩, st2⟩ := Jvm.LawKit.callS X1 hx (y := (⟨"com/example/levy/levy/ScopeGrantsPinLaw", "pick", "(I)Lcom/example/levy/levy/Scope;"⟩ : MethodName)) hown (mvT hZ (hw _ (List.mem_of_getElem? (i := 2) rfl))) (mvT hZ (hw _ (List.mem_of_getElem? (i := 3) rfl))) (mvT hZ (hw _ (List.mem_of_getElem? (i := 4) rfl))) (mvT hZ (hw _ (List.mem_of_getElem? (i := 5) rfl))) (by decide) (backOf (W := 0) (rm1_0 l Z a0 hw [] w h1 n0 Z1 P1) hZ (hw _ (List.mem_of_getElem? (i := 5) rfl)) (hw _ (List.mem_of_getElem? (i := 4) rfl)) (by decide) (by decide)) (g := (mkF m 60 #[.val (.int p1), .val (.int p2), .val (.int (0 : Int32)), .val (.int (2 : Int32)), .val (.ref b1), .unset, .unset] [(.int (0 : Int32))])) rfl (by rw [hml]; rfl) (argsL := [(.int (0 : Int32))]) (rest := []) (lenOf pd_0 rfl) rfl (by show 2 * 0 + _ ≤ _; exact Nat.le_of_eq rfl) (hb hby at_60) (fun _ _ => ⟨rfl, e1, (by decide : 1 + 0 ≤ _), (by decide : 9 + 0 ≤ _)⟩)
  dsimp only [Pt.U, Pt.locs, Pt.cells, Pt.slots] at X2 l2 y2 z2 st2 hQ2
  subst l2 y2 z2
  obtain ⟨rfl, N2q, e2⟩ := hQ2
  have N2 := Fr.app N1 N2q
  refine own_step (W' := T2.setTop (mkF m 63 #[.val (.int p1), .val (.int p2), .val (.int (0 : Int32)), .val (.int (2 : Int32)), .val (.ref b1), .unset, .unset] [(.ref (w 0))])) (fun _ k => st2 _ k) ?_
  refine own_step (W' := T2.setTop (mkF m 65 #[.val (.int p1), .val (.int p2), .val (.int (0 : Int32)), .val (.int (2 : Int32)), .val (.ref b1), .val (.ref (w 0)), .unset] [])) (fun _ k => XS.astore X2.here hx rfl (hb hby at_63) rfl rfl (l' := #[.val (.int p1), .val (.int p2), .val (.int (0 : Int32)), .val (.int (2 : Int32)), .val (.ref b1), .val (.ref (w 0)), .unset]) rfl k) ?_
  refine own_step (W' := T2.setTop (mkF m 66 #[.val (.int p1), .val (.int p2), .val (.int (0 : Int32)), .val (.int (2 : Int32)), .val (.ref b1), .val (.ref (w 0)), .unset] [(.int (2 : Int32))])) (fun _ k => XS.iloadN X2.here hx rfl (hb hby at_65) rfl k) ?_
  obtain ⟨_, _, ⟨T3, L3, k3, n3⟩, -, X3, ⟨Lc3, hQ3, l3, y3, z3⟩, st3⟩ := Jvm.LawKit.callS X2 hx (y := (⟨"com/example/levy/levy/ScopeGrantsPinLaw", "pick", "(I)Lcom/example/levy/levy/Scope;"⟩ : MethodName)) hown (mvT hZ (hw _ (List.mem_of_getElem? (i := 2) rfl))) (mvT hZ (hw _ (List.mem_of_getElem? (i := 3) rfl))) (mvT hZ (hw _ (List.mem_of_getElem? (i := 4) rfl))) (mvT hZ (hw _ (List.mem_of_getElem? (i := 5) rfl))) (by decide) (backOf (W := 0) (rm1_2 l Z a0 hw [] w h1 n0 Z1 P1) hZ (hw _ (List.mem_of_getElem? (i := 5) rfl)) (hw _ (List.mem_of_getElem? (i := 4) rfl)) (by decide) (by decide)) (g := (mkF m 66 #[.val (.int p1), .val (.int p2), .val (.int (0 : Int32)), .val (.int (2 : Int32)), .val (.ref b1), .val (.ref (w 0)), .unset] [(.int (2 : Int32))])) rfl (by rw [hml]; rfl) (argsL := [(.int (2 : Int32))]) (rest := []) (lenOf pd_0 rfl) rfl (by show 2 * 0 + _ ≤ _; exact Nat.le_of_eq rfl) (hb hby at_66) (fun _ _ => ⟨rfl, e2, (by decide : 1 + 0 ≤ _), (by decide : 9 + 0 ≤ _)⟩)
  dsimp only [Pt.U, Pt.locs, Pt.cells, Pt.slots] at X3 l3 y3 z3 st3 hQ3
  subst l3 y3 z3
  obtain ⟨rfl, N3q, e3⟩ := hQ3
  have N3 := Fr.app N2 N3q
  refine own_step (W' := T3.setTop (mkF m 69 #[.val (.int p1), .val (.int p2), .val (.int (0 : Int32)), .val (.int (2 : Int32)), .val (.ref b1), .val (.ref (w 0)), .unset] [(.ref (w 1))])) (fun _ k => st3 _ k) ?_
  refine own_step (W' := T3.setTop (mkF m 71 #[.val (.int p1), .val (.int p2), .val (.int (0 : Int32)), .val (.int (2 : Int32)), .val (.ref b1), .val (.ref (w 0)), .val (.ref (w 1))] [])) (fun _ k => XS.astore X3.here hx rfl (hb hby at_69) rfl rfl (l' := #[.val (.int p1), .val (.int p2), .val (.int (0 : Int32)), .val (.int (2 : Int32)), .val (.ref b1), .val (.ref (w 0)), .val (.ref (w 1))]) rfl k) ?_
  refine own_step (W' := T3.setTop (mkF m 73 #[.val (.int p1), .val (.int p2), .val (.int (0 : Int32)), .val (.int (2 : Int32)), .val (.ref b1), .val (.ref (w 0)), .val (.ref (w 1))] [(.ref (w 0))])) (fun _ k => XS.aload X3.here hx rfl (hb hby at_71) rfl rfl k) ?_
  refine own_step (W' := T3.setTop (mkF m 75 #[.val (.int p1), .val (.int p2), .val (.int (0 : Int32)), .val (.int (2 : Int32)), .val (.ref b1), .val (.ref (w 0)), .val (.ref (w 1))] [(.ref (w 1)), (.ref (w 0))])) (fun _ k => XS.aload X3.here hx rfl (hb hby at_73) rfl rfl k) ?_
  obtain ⟨cq4, kq4, q4a, q4b, q4c⟩ := isOf hZ e3 (pin_E0 P1)
  obtain ⟨_, _, ⟨T4, L4, k4, n4⟩, -, X4, ⟨Lc4, hQ4, l4, y4, z4⟩, st4⟩ := X3.virtualBack hx (y := (⟨"com/example/levy/levy/Scope", "grants", "(Lcom/example/levy/levy/Scope;)Z"⟩ : MethodName)) (z := (⟨"com/example/levy/levy/Scope", "grants", "(Lcom/example/levy/levy/Scope;)Z"⟩ : MethodName)) hown (mvT hZ (hw _ (List.mem_of_getElem? (i := 9) rfl))) (mvT hZ (hw _ (List.mem_of_getElem? (i := 10) rfl))) (notFace_of_selects (args := #[]) (mvT hZ (hw _ (List.mem_of_getElem? (i := 12) rfl)))) (mvT hZ (hw _ (List.mem_of_getElem? (i := 12) rfl))) (mvT hZ (hw _ (List.mem_of_getElem? (i := 11) rfl))) (by decide) (backOf (W := 0) (rm2_w0_w1 l Z a0 hw [] w h1 n0 Z1 P1) hZ (hw _ (List.mem_of_getElem? (i := 13) rfl)) (hw _ (List.mem_of_getElem? (i := 7) rfl)) (by decide) (by decide)) q4a q4c (g := (mkF m 75 #[.val (.int p1), .val (.int p2), .val (.int (0 : Int32)), .val (.int (2 : Int32)), .val (.ref b1), .val (.ref (w 0)), .val (.ref (w 1))] [(.ref (w 1)), (.ref (w 0))])) rfl (by rw [hml]; rfl) (Steps.refl _) (argsL := [(.ref (w 1))]) (rest := []) (lenOf pd_1 rfl) rfl (by show 2 * 0 + _ ≤ _; exact Nat.le_of_eq rfl) (hb hby at_75) (fun _ _ => ⟨rfl, e3, (by decide : 1 + 0 ≤ _), (by decide : 9 + 0 ≤ _)⟩)
  dsimp only [Pt.U, Pt.locs, Pt.cells, Pt.slots] at X4 l4 y4 z4 st4 hQ4
  subst l4 y4 z4
  obtain ⟨rfl, N4q, e4⟩ := hQ4
  have N4 := Fr.app N3 N4q
  refine own_step (W' := T4.setTop (mkF m 78 #[.val (.int p1), .val (.int p2), .val (.int (0 : Int32)), .val (.int (2 : Int32)), .val (.ref b1), .val (.ref (w 0)), .val (.ref (w 1))] [(.int (0 : Int32))])) (fun _ k => st4.trans k) ?_
  refine own_step (W' := T4.setTop (mkF m 80 #[.val (.int p1), .val (.int p2), .val (.int (0 : Int32)), .val (.int (2 : Int32)), .val (.ref b1), .val (.ref (w 0)), .val (.ref (w 1))] [(.ref b1), (.int (0 : Int32))])) (fun _ k => XS.aload X4.here hx rfl (hb hby at_78) rfl rfl k) ?_
  refine own_step (W' := T4.setTop (mkF m 81 #[.val (.int p1), .val (.int p2), .val (.int (0 : Int32)), .val (.int (2 : Int32)), .val (.ref b1), .val (.ref (w 0)), .val (.ref (w 1))] [(.int (0 : Int32)), (.ref b1), (.int (0 : Int32))])) (fun _ k => XS.iloadN X4.here hx rfl (hb hby at_80) rfl k) ?_
  refine own_step (W' := T4.setTop (mkF m 82 #[.val (.int p1), .val (.int p2), .val (.int (0 : Int32)), .val (.int (2 : Int32)), .val (.ref b1), .val (.ref (w 0)), .val (.ref (w 1))] [(.int (3 : Int32)), (.int (0 : Int32)), (.ref b1), (.int (0 : Int32))])) (fun _ k => XS.iconst X4.here hx rfl (hb hby at_81) k) ?_
  refine own_step (W' := T4.setTop (mkF m 83 #[.val (.int p1), .val (.int p2), .val (.int (0 : Int32)), .val (.int (2 : Int32)), .val (.ref b1), .val (.ref (w 0)), .val (.ref (w 1))] [(.int ((0 : Int32) * (3 : Int32))), (.ref b1), (.int (0 : Int32))])) (fun _ k => XS.imul X4.here hx rfl (hb hby at_82) rfl k) ?_
  rw [show ((0 : Int32) * (3 : Int32)) = (0 : Int32) from by decide]
  refine own_step (W' := T4.setTop (mkF m 84 #[.val (.int p1), .val (.int p2), .val (.int (0 : Int32)), .val (.int (2 : Int32)), .val (.ref b1), .val (.ref (w 0)), .val (.ref (w 1))] [(.int (2 : Int32)), (.int (0 : Int32)), (.ref b1), (.int (0 : Int32))])) (fun _ k => XS.iloadN X4.here hx rfl (hb hby at_83) rfl k) ?_
  refine own_step (W' := T4.setTop (mkF m 85 #[.val (.int p1), .val (.int p2), .val (.int (0 : Int32)), .val (.int (2 : Int32)), .val (.ref b1), .val (.ref (w 0)), .val (.ref (w 1))] [(.int ((0 : Int32) + (2 : Int32))), (.ref b1), (.int (0 : Int32))])) (fun _ k => XS.iadd X4.here hx rfl (hb hby at_84) rfl k) ?_
  rw [show ((0 : Int32) + (2 : Int32)) = (2 : Int32) from by decide]
  refine own_step (W' := T4.setTop (mkF m 86 #[.val (.int p1), .val (.int p2), .val (.int (0 : Int32)), .val (.int (2 : Int32)), .val (.ref b1), .val (.ref (w 0)), .val (.ref (w 1))] [(.int (nar .boolean (0 : Int32))), (.int (0 : Int32))])) (fun _ k => own_ldZ X4 hx hZ e4 V1 (j := (2 : Int32)) (v := (.int (nar .boolean (0 : Int32)))) ⟨by decide, by decide⟩ rfl (g := (mkF m 85 #[.val (.int p1), .val (.int p2), .val (.int (0 : Int32)), .val (.int (2 : Int32)), .val (.ref b1), .val (.ref (w 0)), .val (.ref (w 1))] [(.int (2 : Int32)), (.ref b1), (.int (0 : Int32))])) rfl rfl (hb hby at_85) _ k) ?_
  refine own_step (W' := T4.setTop (mkF m 89 #[.val (.int p1), .val (.int p2), .val (.int (0 : Int32)), .val (.int (2 : Int32)), .val (.ref b1), .val (.ref (w 0)), .val (.ref (w 1))] [])) (fun _ k => XS.icmpNo X4.here hx rfl (hb hby at_86) rfl (by decide) k) ?_
  refine own_step (W' := T4.setTop (mkF m 90 #[.val (.int p1), .val (.int p2), .val (.int (0 : Int32)), .val (.int (2 : Int32)), .val (.ref b1), .val (.ref (w 0)), .val (.ref (w 1))] [(.int (1 : Int32))])) (fun _ k => XS.iconst X4.here hx rfl (hb hby at_89) k) ?_
  refine own_step (W' := T4.setTop (mkF m 94 #[.val (.int p1), .val (.int p2), .val (.int (0 : Int32)), .val (.int (2 : Int32)), .val (.ref b1), .val (.ref (w 0)), .val (.ref (w 1))] [(.int (1 : Int32))])) (fun _ k => XS.goto X4.here hx rfl (pc0 := 90) (pc' := 94) rfl (hb hby at_90) (by decide) (by decide) k) ?_
  exact own_ret X4 Bd.notSynchronized Bd.returns (v := (.int (1 : Int32))) (fun fs hr => retN X4 hx (t := .boolean) Bd.returns (by simp) (hb hby at_94) hr) ⟨rfl, N4⟩ (by decide) (by decide)
set_option maxRecDepth 65536 in
set_option maxHeartbeats 40000000 in
theorem rm2_w2_w0 (l : Launch) (Z : State) (a0 : Array Value) (hw : ∀ d ∈ tables_1, d.before a0 Z = true) (ws : List Jvm.Cond) (w : Nat → Addr) (h0 : Heap) (n0 : Nat) (Z0 : n0 ≤ h0.size) (P : Pins Z h0 w) :
    MetFree l (⟨"com/example/levy/levy/Scope", "grants", "(Lcom/example/levy/levy/Scope;)Z"⟩ : MethodName) (head1 (Jvm.Cond.code (⟨"com/example/levy/levy/Scope", "grants", "(Lcom/example/levy/levy/Scope;)Z"⟩ : MethodName) prog_23_method_5_code 2 (some .boolean) :: ws) ({ frames := 0, cells := 0, slots := 0, locals := 0 } : Room)) (fun a U => a = #[(.ref (w 2)), (.ref (w 0))] ∧ Z.Warmed39 U.vm ∧ U.heap = h0) (fun _ _ _ _ _ => True) (fun _ U o U' => ∃ v L, o = .returned v ∧ own_QK (some (.int (0 : Int32))) h0 n0 v U'.heap L ∧ FrameEnd U o U' L ({ frames := 0, cells := 0, slots := 0, locals := 0 } : Room).cells ({ frames := 0, cells := 0, slots := 0, locals := 0 } : Room).slots) := by
  refine MetFree.of_bodySF (plainFor_of_name pn_com_example_levy_levy_Scope) hisR ?_
  intro p e s m args below meth c s₁ Bd hml0 hP hK
  obtain ⟨rfl, hZ, hh⟩ := hP
  have hx := Bd.exec
  have hby := Bd.bytes
  have hml : c.maxLocals = 2 := hml0
  have hown : s.vm.findClass "com/example/levy/levy/Scope" = some m.cls := findClass_of_methodNamed Bd.named
  have hnm := (name_of_methodNamed Bd.named Bd.method).1
  have X0 : Stand p l e ({ frames := 0, cells := 0, slots := 0, locals := 0 } : Room) s m #[(.ref (w 2)), (.ref (w 0))] below meth c s₁ [] 0 0 := Stand.of_body Bd
  have e0 : s₁.heap = h0 := by rw [← hh, Bd.state]; rfl
  have N0 := Fr.nil n0
  refine own_enter (ef_2_RR m (w 2) (w 0)) ?_
  refine own_step (W' := s₁.setTop (mkF m 1 #[.val (.ref (w 2)), .val (.ref (w 0))] [(.ref (w 2))])) (fun _ k => XS.aloadN X0.here hx rfl (hb hby d2_0) rfl rfl k) ?_
  obtain ⟨T1, X1, e1, st1⟩ := getS2 X0 hx hZ hown (host := "") (Or.inl (hw _ (List.mem_of_getElem? (i := 14) rfl))) Via.refl e0 (pin_S1 P) (g := (mkF m 1 #[.val (.ref (w 2)), .val (.ref (w 0))] [(.ref (w 2))])) rfl (hb hby d2_1)
  refine own_step (W' := T1.setTop (mkF m 4 #[.val (.ref (w 2)), .val (.ref (w 0))] [(.ref (w 1)), (.ref (w 2))])) (fun _ k => st1 _ k) ?_
  refine own_step (W' := T1.setTop (mkF m 7 #[.val (.ref (w 2)), .val (.ref (w 0))] [])) (fun _ k => Jvm.RoadKit.acmp (g := (mkF m 4 #[.val (.ref (w 2)), .val (.ref (w 0))] [(.ref (w 1)), (.ref (w 2))])) X1 hx rfl rfl rfl (pc0 := 4) (pc' := 7) (same := false) rfl (hb hby d2_4) rfl (decide_eq_false fun q => (Fld.ne (pin_F2_ordinal P) (pin_F1_ordinal P) (by decide)) (Value.ref.inj q)) (by decide) (by decide) k) ?_
  refine own_step (W' := T1.setTop (mkF m 8 #[.val (.ref (w 2)), .val (.ref (w 0))] [(.ref (w 2))])) (fun _ k => XS.aloadN X1.here hx rfl (hb hby d2_7) rfl rfl k) ?_
  refine own_step (W' := T1.setTop (mkF m 9 #[.val (.ref (w 2)), .val (.ref (w 0))] [(.ref (w 0)), (.ref (w 2))])) (fun _ k => XS.aloadN X1.here hx rfl (hb hby d2_8) rfl rfl k) ?_
  refine own_step (W' := T1.setTop (mkF m 16 #[.val (.ref (w 2)), .val (.ref (w 0))] [])) (fun _ k => Jvm.RoadKit.acmp (g := (mkF m 9 #[.val (.ref (w 2)), .val (.ref (w 0))] [(.ref (w 0)), (.ref (w 2))])) X1 hx rfl rfl rfl (pc0 := 9) (pc' := 16) (same := false) rfl (hb hby d2_9) rfl (decide_eq_false fun q => (Fld.ne (pin_F2_ordinal P) (pin_F0_ordinal P) (by decide)) (Value.ref.inj q)) (by decide) (by decide) k) ?_
  refine own_step (W' := T1.setTop (mkF m 17 #[.val (.ref (w 2)), .val (.ref (w 0))] [(.int (0 : Int32))])) (fun _ k => XS.iconst X1.here hx rfl (hb hby d2_16) k) ?_
  exact own_ret X1 Bd.notSynchronized Bd.returns (v := (.int (0 : Int32))) (fun fs hr => retN X1 hx (t := .boolean) Bd.returns (by simp) (hb hby d2_17) hr) ⟨rfl, N0, e1⟩ (by decide) (by decide)
set_option maxRecDepth 65536 in
set_option maxHeartbeats 40000000 in
theorem rm0_10 (l : Launch) (Z : State) (a0 : Array Value) (hw : ∀ d ∈ tables_1, d.before a0 Z = true) (ws : List Jvm.Cond) (p1 p2 : Int32) (ha : ((p1 &&& (2147483647 : Int32)) % (3 : Int32)) = (1 : Int32)) (hb' : ((p2 &&& (2147483647 : Int32)) % (3 : Int32)) = (0 : Int32)) (w : Nat → Addr) (h0 : Heap) (n0 : Nat) (Z0 : n0 ≤ h0.size) (P : Pins Z h0 w) :
    MetFree l x (head1 (Jvm.Cond.code x code maxLocals ret :: ws) room_1) (fun a U => a = #[(.int p1), (.int p2)] ∧ Z.Warmed39 U.vm ∧ U.heap = h0) (fun _ _ _ _ _ => True) (fun _ U o U' => ∃ v L, o = .returned v ∧ own_Q0 n0 v U'.heap L ∧ FrameEnd U o U' L room_1.cells room_1.slots) := by
  refine MetFree.of_bodySF (plainFor_of_name pn_com_example_levy_levy_ScopeGrantsPinLaw) hisR ?_
  intro p e s m args below meth c s₁ Bd hml0 hP hK
  obtain ⟨rfl, hZ, hh⟩ := hP
  have hx := Bd.exec
  have hby := Bd.bytes
  have hml : c.maxLocals = 7 := hml0
  have hown : s.vm.findClass "com/example/levy/levy/ScopeGrantsPinLaw" = some m.cls := findClass_of_methodNamed Bd.named
  have hnm := (name_of_methodNamed Bd.named Bd.method).1
  have X0 : Stand p l e room_1 s m #[(.int p1), (.int p2)] below meth c s₁ [] 0 0 := Stand.of_body Bd
  have e0 : s₁.heap = h0 := by rw [← hh, Bd.state]; rfl
  have N0 := Fr.nil n0
  refine own_enter (ef_0_II m p1 p2) ?_
  refine own_step (W' := s₁.setTop (mkF m 1 #[.val (.int p1), .val (.int p2), .unset, .unset, .unset, .unset, .unset] [(.int p1)])) (fun _ k => XS.iloadN X0.here hx rfl (hb hby at_0) rfl k) ?_
  refine own_step (W' := s₁.setTop (mkF m 3 #[.val (.int p1), .val (.int p2), .unset, .unset, .unset, .unset, .unset] [(.int (2147483647 : Int32)), (.int p1)])) (fun _ k => X0.ldcInt hx hown (mvT hZ (hw _ (List.mem_of_getElem? (i := 0) rfl))) (g := (mkF m 1 #[.val (.int p1), .val (.int p2), .unset, .unset, .unset, .unset, .unset] [(.int p1)])) rfl (hb hby at_1) _ k) ?_
  refine own_step (W' := s₁.setTop (mkF m 4 #[.val (.int p1), .val (.int p2), .unset, .unset, .unset, .unset, .unset] [(.int (p1 &&& (2147483647 : Int32)))])) (fun _ k => XS.iand X0.here hx rfl (hb hby at_3) rfl k) ?_
  refine own_step (W' := s₁.setTop (mkF m 5 #[.val (.int p1), .val (.int p2), .unset, .unset, .unset, .unset, .unset] [(.int (3 : Int32)), (.int (p1 &&& (2147483647 : Int32)))])) (fun _ k => XS.iconst X0.here hx rfl (hb hby at_4) k) ?_
  refine own_step (W' := s₁.setTop (mkF m 6 #[.val (.int p1), .val (.int p2), .unset, .unset, .unset, .unset, .unset] [(.int ((p1 &&& (2147483647 : Int32)) % (3 : Int32)))])) (fun _ k => iremM X0 hx rfl (hb hby at_5) rfl (by decide) k) ?_
  rw [ha]
  refine own_step (W' := s₁.setTop (mkF m 7 #[.val (.int p1), .val (.int p2), .val (.int (1 : Int32)), .unset, .unset, .unset, .unset] [])) (fun _ k => XS.istoreN X0.here hx rfl (hb hby at_6) rfl (l' := #[.val (.int p1), .val (.int p2), .val (.int (1 : Int32)), .unset, .unset, .unset, .unset]) rfl k) ?_
  refine own_step (W' := s₁.setTop (mkF m 8 #[.val (.int p1), .val (.int p2), .val (.int (1 : Int32)), .unset, .unset, .unset, .unset] [(.int p2)])) (fun _ k => XS.iloadN X0.here hx rfl (hb hby at_7) rfl k) ?_
  refine own_step (W' := s₁.setTop (mkF m 10 #[.val (.int p1), .val (.int p2), .val (.int (1 : Int32)), .unset, .unset, .unset, .unset] [(.int (2147483647 : Int32)), (.int p2)])) (fun _ k => X0.ldcInt hx hown (mvT hZ (hw _ (List.mem_of_getElem? (i := 0) rfl))) (g := (mkF m 8 #[.val (.int p1), .val (.int p2), .val (.int (1 : Int32)), .unset, .unset, .unset, .unset] [(.int p2)])) rfl (hb hby at_8) _ k) ?_
  refine own_step (W' := s₁.setTop (mkF m 11 #[.val (.int p1), .val (.int p2), .val (.int (1 : Int32)), .unset, .unset, .unset, .unset] [(.int (p2 &&& (2147483647 : Int32)))])) (fun _ k => XS.iand X0.here hx rfl (hb hby at_10) rfl k) ?_
  refine own_step (W' := s₁.setTop (mkF m 12 #[.val (.int p1), .val (.int p2), .val (.int (1 : Int32)), .unset, .unset, .unset, .unset] [(.int (3 : Int32)), (.int (p2 &&& (2147483647 : Int32)))])) (fun _ k => XS.iconst X0.here hx rfl (hb hby at_11) k) ?_
  refine own_step (W' := s₁.setTop (mkF m 13 #[.val (.int p1), .val (.int p2), .val (.int (1 : Int32)), .unset, .unset, .unset, .unset] [(.int ((p2 &&& (2147483647 : Int32)) % (3 : Int32)))])) (fun _ k => iremM X0 hx rfl (hb hby at_12) rfl (by decide) k) ?_
  rw [hb']
  refine own_step (W' := s₁.setTop (mkF m 14 #[.val (.int p1), .val (.int p2), .val (.int (1 : Int32)), .val (.int (0 : Int32)), .unset, .unset, .unset] [])) (fun _ k => XS.istoreN X0.here hx rfl (hb hby at_13) rfl (l' := #[.val (.int p1), .val (.int p2), .val (.int (1 : Int32)), .val (.int (0 : Int32)), .unset, .unset, .unset]) rfl k) ?_
  refine own_fill p1 p2 (1 : Int32) (0 : Int32) X0 hx hZ hw hby hml hown e0 N0 Z0 P ?_
  intro T1 h1 L1 k1 b1 X1 e1 E1 N1 V1
  have P1 : Pins Z h1 w := P.ext E1
  have Z1 : n0 ≤ h1.size := Nat.le_trans Z0 E1.1
  refine own_step (W' := T1.setTop (mkF m 59 #[.val (.int p1), .val (.int p2), .val (.int (1 : Int32)), .val (.int (0 : Int32)), .val (.ref b1), .unset, .unset] [])) (fun _ k => XS.astore X1.here hx rfl (hb hby at_57) rfl rfl (l' := #[.val (.int p1), .val (.int p2), .val (.int (1 : Int32)), .val (.int (0 : Int32)), .val (.ref b1), .unset, .unset]) rfl k) ?_
  refine own_step (W' := T1.setTop (mkF m 60 #[.val (.int p1), .val (.int p2), .val (.int (1 : Int32)), .val (.int (0 : Int32)), .val (.ref b1), .unset, .unset] [(.int (1 : Int32))])) (fun _ k => XS.iloadN X1.here hx rfl (hb hby at_59) rfl k) ?_
  obtain ⟨_, _, ⟨T2, L2, k2, n2⟩, -, X2, ⟨Lc2, hQ2, l2, y2, z2⟩, st2⟩ := Jvm.LawKit.callS X1 hx (y := (⟨"com/example/levy/levy/ScopeGrantsPinLaw", "pick", "(I)Lcom/example/levy/levy/Scope;"⟩ : MethodName)) hown (mvT hZ (hw _ (List.mem_of_getElem? (i := 2) rfl))) (mvT hZ (hw _ (List.mem_of_getElem? (i := 3) rfl))) (mvT hZ (hw _ (List.mem_of_getElem? (i := 4) rfl))) (mvT hZ (hw _ (List.mem_of_getElem? (i := 5) rfl))) (by decide) (backOf (W := 0) (rm1_1 l Z a0 hw [] w h1 n0 Z1 P1) hZ (hw _ (List.mem_of_getElem? (i := 5) rfl)) (hw _ (List.mem_of_getElem? (i := 4) rfl)) (by decide) (by decide)) (g := (mkF m 60 #[.val (.int p1), .val (.int p2), .val (.int (1 : Int32)), .val (.int (0 : Int32)), .val (.ref b1), .unset, .unset] [(.int (1 : Int32))])) rfl (by rw [hml]; rfl) (argsL := [(.int (1 : Int32))]) (rest := []) (lenOf pd_0 rfl) rfl (by show 2 * 0 + _ ≤ _; exact Nat.le_of_eq rfl) (hb hby at_60) (fun _ _ => ⟨rfl, e1, (by decide : 1 + 0 ≤ _), (by decide : 9 + 0 ≤ _)⟩)
  dsimp only [Pt.U, Pt.locs, Pt.cells, Pt.slots] at X2 l2 y2 z2 st2 hQ2
  subst l2 y2 z2
  obtain ⟨rfl, N2q, e2⟩ := hQ2
  have N2 := Fr.app N1 N2q
  refine own_step (W' := T2.setTop (mkF m 63 #[.val (.int p1), .val (.int p2), .val (.int (1 : Int32)), .val (.int (0 : Int32)), .val (.ref b1), .unset, .unset] [(.ref (w 2))])) (fun _ k => st2 _ k) ?_
  refine own_step (W' := T2.setTop (mkF m 65 #[.val (.int p1), .val (.int p2), .val (.int (1 : Int32)), .val (.int (0 : Int32)), .val (.ref b1), .val (.ref (w 2)), .unset] [])) (fun _ k => XS.astore X2.here hx rfl (hb hby at_63) rfl rfl (l' := #[.val (.int p1), .val (.int p2), .val (.int (1 : Int32)), .val (.int (0 : Int32)), .val (.ref b1), .val (.ref (w 2)), .unset]) rfl k) ?_
  refine own_step (W' := T2.setTop (mkF m 66 #[.val (.int p1), .val (.int p2), .val (.int (1 : Int32)), .val (.int (0 : Int32)), .val (.ref b1), .val (.ref (w 2)), .unset] [(.int (0 : Int32))])) (fun _ k => XS.iloadN X2.here hx rfl (hb hby at_65) rfl k) ?_
  obtain ⟨_, _, ⟨T3, L3, k3, n3⟩, -, X3, ⟨Lc3, hQ3, l3, y3, z3⟩, st3⟩ := Jvm.LawKit.callS X2 hx (y := (⟨"com/example/levy/levy/ScopeGrantsPinLaw", "pick", "(I)Lcom/example/levy/levy/Scope;"⟩ : MethodName)) hown (mvT hZ (hw _ (List.mem_of_getElem? (i := 2) rfl))) (mvT hZ (hw _ (List.mem_of_getElem? (i := 3) rfl))) (mvT hZ (hw _ (List.mem_of_getElem? (i := 4) rfl))) (mvT hZ (hw _ (List.mem_of_getElem? (i := 5) rfl))) (by decide) (backOf (W := 0) (rm1_0 l Z a0 hw [] w h1 n0 Z1 P1) hZ (hw _ (List.mem_of_getElem? (i := 5) rfl)) (hw _ (List.mem_of_getElem? (i := 4) rfl)) (by decide) (by decide)) (g := (mkF m 66 #[.val (.int p1), .val (.int p2), .val (.int (1 : Int32)), .val (.int (0 : Int32)), .val (.ref b1), .val (.ref (w 2)), .unset] [(.int (0 : Int32))])) rfl (by rw [hml]; rfl) (argsL := [(.int (0 : Int32))]) (rest := []) (lenOf pd_0 rfl) rfl (by show 2 * 0 + _ ≤ _; exact Nat.le_of_eq rfl) (hb hby at_66) (fun _ _ => ⟨rfl, e2, (by decide : 1 + 0 ≤ _), (by decide : 9 + 0 ≤ _)⟩)
  dsimp only [Pt.U, Pt.locs, Pt.cells, Pt.slots] at X3 l3 y3 z3 st3 hQ3
  subst l3 y3 z3
  obtain ⟨rfl, N3q, e3⟩ := hQ3
  have N3 := Fr.app N2 N3q
  refine own_step (W' := T3.setTop (mkF m 69 #[.val (.int p1), .val (.int p2), .val (.int (1 : Int32)), .val (.int (0 : Int32)), .val (.ref b1), .val (.ref (w 2)), .unset] [(.ref (w 0))])) (fun _ k => st3 _ k) ?_
  refine own_step (W' := T3.setTop (mkF m 71 #[.val (.int p1), .val (.int p2), .val (.int (1 : Int32)), .val (.int (0 : Int32)), .val (.ref b1), .val (.ref (w 2)), .val (.ref (w 0))] [])) (fun _ k => XS.astore X3.here hx rfl (hb hby at_69) rfl rfl (l' := #[.val (.int p1), .val (.int p2), .val (.int (1 : Int32)), .val (.int (0 : Int32)), .val (.ref b1), .val (.ref (w 2)), .val (.ref (w 0))]) rfl k) ?_
  refine own_step (W' := T3.setTop (mkF m 73 #[.val (.int p1), .val (.int p2), .val (.int (1 : Int32)), .val (.int (0 : Int32)), .val (.ref b1), .val (.ref (w 2)), .val (.ref (w 0))] [(.ref (w 2))])) (fun _ k => XS.aload X3.here hx rfl (hb hby at_71) rfl rfl k) ?_
  refine own_step (W' := T3.setTop (mkF m 75 #[.val (.int p1), .val (.int p2), .val (.int (1 : Int32)), .val (.int (0 : Int32)), .val (.ref b1), .val (.ref (w 2)), .val (.ref (w 0))] [(.ref (w 0)), (.ref (w 2))])) (fun _ k => XS.aload X3.here hx rfl (hb hby at_73) rfl rfl k) ?_
  obtain ⟨cq4, kq4, q4a, q4b, q4c⟩ := isOf hZ e3 (pin_E2 P1)
  obtain ⟨_, _, ⟨T4, L4, k4, n4⟩, -, X4, ⟨Lc4, hQ4, l4, y4, z4⟩, st4⟩ := X3.virtualBack hx (y := (⟨"com/example/levy/levy/Scope", "grants", "(Lcom/example/levy/levy/Scope;)Z"⟩ : MethodName)) (z := (⟨"com/example/levy/levy/Scope", "grants", "(Lcom/example/levy/levy/Scope;)Z"⟩ : MethodName)) hown (mvT hZ (hw _ (List.mem_of_getElem? (i := 9) rfl))) (mvT hZ (hw _ (List.mem_of_getElem? (i := 10) rfl))) (notFace_of_selects (args := #[]) (mvT hZ (hw _ (List.mem_of_getElem? (i := 12) rfl)))) (mvT hZ (hw _ (List.mem_of_getElem? (i := 12) rfl))) (mvT hZ (hw _ (List.mem_of_getElem? (i := 11) rfl))) (by decide) (backOf (W := 0) (rm2_w2_w0 l Z a0 hw [] w h1 n0 Z1 P1) hZ (hw _ (List.mem_of_getElem? (i := 13) rfl)) (hw _ (List.mem_of_getElem? (i := 7) rfl)) (by decide) (by decide)) q4a q4c (g := (mkF m 75 #[.val (.int p1), .val (.int p2), .val (.int (1 : Int32)), .val (.int (0 : Int32)), .val (.ref b1), .val (.ref (w 2)), .val (.ref (w 0))] [(.ref (w 0)), (.ref (w 2))])) rfl (by rw [hml]; rfl) (Steps.refl _) (argsL := [(.ref (w 0))]) (rest := []) (lenOf pd_1 rfl) rfl (by show 2 * 0 + _ ≤ _; exact Nat.le_of_eq rfl) (hb hby at_75) (fun _ _ => ⟨rfl, e3, (by decide : 1 + 0 ≤ _), (by decide : 9 + 0 ≤ _)⟩)
  dsimp only [Pt.U, Pt.locs, Pt.cells, Pt.slots] at X4 l4 y4 z4 st4 hQ4
  subst l4 y4 z4
  obtain ⟨rfl, N4q, e4⟩ := hQ4
  have N4 := Fr.app N3 N4q
  refine own_step (W' := T4.setTop (mkF m 78 #[.val (.int p1), .val (.int p2), .val (.int (1 : Int32)), .val (.int (0 : Int32)), .val (.ref b1), .val (.ref (w 2)), .val (.ref (w 0))] [(.int (0 : Int32))])) (fun _ k => st4.trans k) ?_
  refine own_step (W' := T4.setTop (mkF m 80 #[.val (.int p1), .val (.int p2), .val (.int (1 : Int32)), .val (.int (0 : Int32)), .val (.ref b1), .val (.ref (w 2)), .val (.ref (w 0))] [(.ref b1), (.int (0 : Int32))])) (fun _ k => XS.aload X4.here hx rfl (hb hby at_78) rfl rfl k) ?_
  refine own_step (W' := T4.setTop (mkF m 81 #[.val (.int p1), .val (.int p2), .val (.int (1 : Int32)), .val (.int (0 : Int32)), .val (.ref b1), .val (.ref (w 2)), .val (.ref (w 0))] [(.int (1 : Int32)), (.ref b1), (.int (0 : Int32))])) (fun _ k => XS.iloadN X4.here hx rfl (hb hby at_80) rfl k) ?_
  refine own_step (W' := T4.setTop (mkF m 82 #[.val (.int p1), .val (.int p2), .val (.int (1 : Int32)), .val (.int (0 : Int32)), .val (.ref b1), .val (.ref (w 2)), .val (.ref (w 0))] [(.int (3 : Int32)), (.int (1 : Int32)), (.ref b1), (.int (0 : Int32))])) (fun _ k => XS.iconst X4.here hx rfl (hb hby at_81) k) ?_
  refine own_step (W' := T4.setTop (mkF m 83 #[.val (.int p1), .val (.int p2), .val (.int (1 : Int32)), .val (.int (0 : Int32)), .val (.ref b1), .val (.ref (w 2)), .val (.ref (w 0))] [(.int ((1 : Int32) * (3 : Int32))), (.ref b1), (.int (0 : Int32))])) (fun _ k => XS.imul X4.here hx rfl (hb hby at_82) rfl k) ?_
  rw [show ((1 : Int32) * (3 : Int32)) = (3 : Int32) from by decide]
  refine own_step (W' := T4.setTop (mkF m 84 #[.val (.int p1), .val (.int p2), .val (.int (1 : Int32)), .val (.int (0 : Int32)), .val (.ref b1), .val (.ref (w 2)), .val (.ref (w 0))] [(.int (0 : Int32)), (.int (3 : Int32)), (.ref b1), (.int (0 : Int32))])) (fun _ k => XS.iloadN X4.here hx rfl (hb hby at_83) rfl k) ?_
  refine own_step (W' := T4.setTop (mkF m 85 #[.val (.int p1), .val (.int p2), .val (.int (1 : Int32)), .val (.int (0 : Int32)), .val (.ref b1), .val (.ref (w 2)), .val (.ref (w 0))] [(.int ((3 : Int32) + (0 : Int32))), (.ref b1), (.int (0 : Int32))])) (fun _ k => XS.iadd X4.here hx rfl (hb hby at_84) rfl k) ?_
  rw [show ((3 : Int32) + (0 : Int32)) = (3 : Int32) from by decide]
  refine own_step (W' := T4.setTop (mkF m 86 #[.val (.int p1), .val (.int p2), .val (.int (1 : Int32)), .val (.int (0 : Int32)), .val (.ref b1), .val (.ref (w 2)), .val (.ref (w 0))] [(.int (nar .boolean (0 : Int32))), (.int (0 : Int32))])) (fun _ k => own_ldZ X4 hx hZ e4 V1 (j := (3 : Int32)) (v := (.int (nar .boolean (0 : Int32)))) ⟨by decide, by decide⟩ rfl (g := (mkF m 85 #[.val (.int p1), .val (.int p2), .val (.int (1 : Int32)), .val (.int (0 : Int32)), .val (.ref b1), .val (.ref (w 2)), .val (.ref (w 0))] [(.int (3 : Int32)), (.ref b1), (.int (0 : Int32))])) rfl rfl (hb hby at_85) _ k) ?_
  refine own_step (W' := T4.setTop (mkF m 89 #[.val (.int p1), .val (.int p2), .val (.int (1 : Int32)), .val (.int (0 : Int32)), .val (.ref b1), .val (.ref (w 2)), .val (.ref (w 0))] [])) (fun _ k => XS.icmpNo X4.here hx rfl (hb hby at_86) rfl (by decide) k) ?_
  refine own_step (W' := T4.setTop (mkF m 90 #[.val (.int p1), .val (.int p2), .val (.int (1 : Int32)), .val (.int (0 : Int32)), .val (.ref b1), .val (.ref (w 2)), .val (.ref (w 0))] [(.int (1 : Int32))])) (fun _ k => XS.iconst X4.here hx rfl (hb hby at_89) k) ?_
  refine own_step (W' := T4.setTop (mkF m 94 #[.val (.int p1), .val (.int p2), .val (.int (1 : Int32)), .val (.int (0 : Int32)), .val (.ref b1), .val (.ref (w 2)), .val (.ref (w 0))] [(.int (1 : Int32))])) (fun _ k => XS.goto X4.here hx rfl (pc0 := 90) (pc' := 94) rfl (hb hby at_90) (by decide) (by decide) k) ?_
  exact own_ret X4 Bd.notSynchronized Bd.returns (v := (.int (1 : Int32))) (fun fs hr => retN X4 hx (t := .boolean) Bd.returns (by simp) (hb hby at_94) hr) ⟨rfl, N4⟩ (by decide) (by decide)
set_option maxRecDepth 65536 in
set_option maxHeartbeats 40000000 in
theorem rm2_w2_w2 (l : Launch) (Z : State) (a0 : Array Value) (hw : ∀ d ∈ tables_1, d.before a0 Z = true) (ws : List Jvm.Cond) (w : Nat → Addr) (h0 : Heap) (n0 : Nat) (Z0 : n0 ≤ h0.size) (P : Pins Z h0 w) :
    MetFree l (⟨"com/example/levy/levy/Scope", "grants", "(Lcom/example/levy/levy/Scope;)Z"⟩ : MethodName) (head1 (Jvm.Cond.code (⟨"com/example/levy/levy/Scope", "grants", "(Lcom/example/levy/levy/Scope;)Z"⟩ : MethodName) prog_23_method_5_code 2 (some .boolean) :: ws) ({ frames := 0, cells := 0, slots := 0, locals := 0 } : Room)) (fun a U => a = #[(.ref (w 2)), (.ref (w 2))] ∧ Z.Warmed39 U.vm ∧ U.heap = h0) (fun _ _ _ _ _ => True) (fun _ U o U' => ∃ v L, o = .returned v ∧ own_QK (some (.int (1 : Int32))) h0 n0 v U'.heap L ∧ FrameEnd U o U' L ({ frames := 0, cells := 0, slots := 0, locals := 0 } : Room).cells ({ frames := 0, cells := 0, slots := 0, locals := 0 } : Room).slots) := by
  refine MetFree.of_bodySF (plainFor_of_name pn_com_example_levy_levy_Scope) hisR ?_
  intro p e s m args below meth c s₁ Bd hml0 hP hK
  obtain ⟨rfl, hZ, hh⟩ := hP
  have hx := Bd.exec
  have hby := Bd.bytes
  have hml : c.maxLocals = 2 := hml0
  have hown : s.vm.findClass "com/example/levy/levy/Scope" = some m.cls := findClass_of_methodNamed Bd.named
  have hnm := (name_of_methodNamed Bd.named Bd.method).1
  have X0 : Stand p l e ({ frames := 0, cells := 0, slots := 0, locals := 0 } : Room) s m #[(.ref (w 2)), (.ref (w 2))] below meth c s₁ [] 0 0 := Stand.of_body Bd
  have e0 : s₁.heap = h0 := by rw [← hh, Bd.state]; rfl
  have N0 := Fr.nil n0
  refine own_enter (ef_2_RR m (w 2) (w 2)) ?_
  refine own_step (W' := s₁.setTop (mkF m 1 #[.val (.ref (w 2)), .val (.ref (w 2))] [(.ref (w 2))])) (fun _ k => XS.aloadN X0.here hx rfl (hb hby d2_0) rfl rfl k) ?_
  obtain ⟨T1, X1, e1, st1⟩ := getS2 X0 hx hZ hown (host := "") (Or.inl (hw _ (List.mem_of_getElem? (i := 14) rfl))) Via.refl e0 (pin_S1 P) (g := (mkF m 1 #[.val (.ref (w 2)), .val (.ref (w 2))] [(.ref (w 2))])) rfl (hb hby d2_1)
  refine own_step (W' := T1.setTop (mkF m 4 #[.val (.ref (w 2)), .val (.ref (w 2))] [(.ref (w 1)), (.ref (w 2))])) (fun _ k => st1 _ k) ?_
  refine own_step (W' := T1.setTop (mkF m 7 #[.val (.ref (w 2)), .val (.ref (w 2))] [])) (fun _ k => Jvm.RoadKit.acmp (g := (mkF m 4 #[.val (.ref (w 2)), .val (.ref (w 2))] [(.ref (w 1)), (.ref (w 2))])) X1 hx rfl rfl rfl (pc0 := 4) (pc' := 7) (same := false) rfl (hb hby d2_4) rfl (decide_eq_false fun q => (Fld.ne (pin_F2_ordinal P) (pin_F1_ordinal P) (by decide)) (Value.ref.inj q)) (by decide) (by decide) k) ?_
  refine own_step (W' := T1.setTop (mkF m 8 #[.val (.ref (w 2)), .val (.ref (w 2))] [(.ref (w 2))])) (fun _ k => XS.aloadN X1.here hx rfl (hb hby d2_7) rfl rfl k) ?_
  refine own_step (W' := T1.setTop (mkF m 9 #[.val (.ref (w 2)), .val (.ref (w 2))] [(.ref (w 2)), (.ref (w 2))])) (fun _ k => XS.aloadN X1.here hx rfl (hb hby d2_8) rfl rfl k) ?_
  refine own_step (W' := T1.setTop (mkF m 12 #[.val (.ref (w 2)), .val (.ref (w 2))] [])) (fun _ k => Jvm.RoadKit.acmp (g := (mkF m 9 #[.val (.ref (w 2)), .val (.ref (w 2))] [(.ref (w 2)), (.ref (w 2))])) X1 hx rfl rfl rfl (pc0 := 9) (pc' := 12) (same := true) rfl (hb hby d2_9) rfl (decide_eq_true rfl) (by decide) (by decide) k) ?_
  refine own_step (W' := T1.setTop (mkF m 13 #[.val (.ref (w 2)), .val (.ref (w 2))] [(.int (1 : Int32))])) (fun _ k => XS.iconst X1.here hx rfl (hb hby d2_12) k) ?_
  refine own_step (W' := T1.setTop (mkF m 17 #[.val (.ref (w 2)), .val (.ref (w 2))] [(.int (1 : Int32))])) (fun _ k => XS.goto X1.here hx rfl (pc0 := 13) (pc' := 17) rfl (hb hby d2_13) (by decide) (by decide) k) ?_
  exact own_ret X1 Bd.notSynchronized Bd.returns (v := (.int (1 : Int32))) (fun fs hr => retN X1 hx (t := .boolean) Bd.returns (by simp) (hb hby d2_17) hr) ⟨rfl, N0, e1⟩ (by decide) (by decide)
set_option maxRecDepth 65536 in
set_option maxHeartbeats 40000000 in
theorem rm0_11 (l : Launch) (Z : State) (a0 : Array Value) (hw : ∀ d ∈ tables_1, d.before a0 Z = true) (ws : List Jvm.Cond) (p1 p2 : Int32) (ha : ((p1 &&& (2147483647 : Int32)) % (3 : Int32)) = (1 : Int32)) (hb' : ((p2 &&& (2147483647 : Int32)) % (3 : Int32)) = (1 : Int32)) (w : Nat → Addr) (h0 : Heap) (n0 : Nat) (Z0 : n0 ≤ h0.size) (P : Pins Z h0 w) :
    MetFree l x (head1 (Jvm.Cond.code x code maxLocals ret :: ws) room_1) (fun a U => a = #[(.int p1), (.int p2)] ∧ Z.Warmed39 U.vm ∧ U.heap = h0) (fun _ _ _ _ _ => True) (fun _ U o U' => ∃ v L, o = .returned v ∧ own_Q0 n0 v U'.heap L ∧ FrameEnd U o U' L room_1.cells room_1.slots) := by
  refine MetFree.of_bodySF (plainFor_of_name pn_com_example_levy_levy_ScopeGrantsPinLaw) hisR ?_
  intro p e s m args below meth c s₁ Bd hml0 hP hK
  obtain ⟨rfl, hZ, hh⟩ := hP
  have hx := Bd.exec
  have hby := Bd.bytes
  have hml : c.maxLocals = 7 := hml0
  have hown : s.vm.findClass "com/example/levy/levy/ScopeGrantsPinLaw" = some m.cls := findClass_of_methodNamed Bd.named
  have hnm := (name_of_methodNamed Bd.named Bd.method).1
  have X0 : Stand p l e room_1 s m #[(.int p1), (.int p2)] below meth c s₁ [] 0 0 := Stand.of_body Bd
  have e0 : s₁.heap = h0 := by rw [← hh, Bd.state]; rfl
  have N0 := Fr.nil n0
  refine own_enter (ef_0_II m p1 p2) ?_
  refine own_step (W' := s₁.setTop (mkF m 1 #[.val (.int p1), .val (.int p2), .unset, .unset, .unset, .unset, .unset] [(.int p1)])) (fun _ k => XS.iloadN X0.here hx rfl (hb hby at_0) rfl k) ?_
  refine own_step (W' := s₁.setTop (mkF m 3 #[.val (.int p1), .val (.int p2), .unset, .unset, .unset, .unset, .unset] [(.int (2147483647 : Int32)), (.int p1)])) (fun _ k => X0.ldcInt hx hown (mvT hZ (hw _ (List.mem_of_getElem? (i := 0) rfl))) (g := (mkF m 1 #[.val (.int p1), .val (.int p2), .unset, .unset, .unset, .unset, .unset] [(.int p1)])) rfl (hb hby at_1) _ k) ?_
  refine own_step (W' := s₁.setTop (mkF m 4 #[.val (.int p1), .val (.int p2), .unset, .unset, .unset, .unset, .unset] [(.int (p1 &&& (2147483647 : Int32)))])) (fun _ k => XS.iand X0.here hx rfl (hb hby at_3) rfl k) ?_
  refine own_step (W' := s₁.setTop (mkF m 5 #[.val (.int p1), .val (.int p2), .unset, .unset, .unset, .unset, .unset] [(.int (3 : Int32)), (.int (p1 &&& (2147483647 : Int32)))])) (fun _ k => XS.iconst X0.here hx rfl (hb hby at_4) k) ?_
  refine own_step (W' := s₁.setTop (mkF m 6 #[.val (.int p1), .val (.int p2), .unset, .unset, .unset, .unset, .unset] [(.int ((p1 &&& (2147483647 : Int32)) % (3 : Int32)))])) (fun _ k => iremM X0 hx rfl (hb hby at_5) rfl (by decide) k) ?_
  rw [ha]
  refine own_step (W' := s₁.setTop (mkF m 7 #[.val (.int p1), .val (.int p2), .val (.int (1 : Int32)), .unset, .unset, .unset, .unset] [])) (fun _ k => XS.istoreN X0.here hx rfl (hb hby at_6) rfl (l' := #[.val (.int p1), .val (.int p2), .val (.int (1 : Int32)), .unset, .unset, .unset, .unset]) rfl k) ?_
  refine own_step (W' := s₁.setTop (mkF m 8 #[.val (.int p1), .val (.int p2), .val (.int (1 : Int32)), .unset, .unset, .unset, .unset] [(.int p2)])) (fun _ k => XS.iloadN X0.here hx rfl (hb hby at_7) rfl k) ?_
  refine own_step (W' := s₁.setTop (mkF m 10 #[.val (.int p1), .val (.int p2), .val (.int (1 : Int32)), .unset, .unset, .unset, .unset] [(.int (2147483647 : Int32)), (.int p2)])) (fun _ k => X0.ldcInt hx hown (mvT hZ (hw _ (List.mem_of_getElem? (i := 0) rfl))) (g := (mkF m 8 #[.val (.int p1), .val (.int p2), .val (.int (1 : Int32)), .unset, .unset, .unset, .unset] [(.int p2)])) rfl (hb hby at_8) _ k) ?_
  refine own_step (W' := s₁.setTop (mkF m 11 #[.val (.int p1), .val (.int p2), .val (.int (1 : Int32)), .unset, .unset, .unset, .unset] [(.int (p2 &&& (2147483647 : Int32)))])) (fun _ k => XS.iand X0.here hx rfl (hb hby at_10) rfl k) ?_
  refine own_step (W' := s₁.setTop (mkF m 12 #[.val (.int p1), .val (.int p2), .val (.int (1 : Int32)), .unset, .unset, .unset, .unset] [(.int (3 : Int32)), (.int (p2 &&& (2147483647 : Int32)))])) (fun _ k => XS.iconst X0.here hx rfl (hb hby at_11) k) ?_
  refine own_step (W' := s₁.setTop (mkF m 13 #[.val (.int p1), .val (.int p2), .val (.int (1 : Int32)), .unset, .unset, .unset, .unset] [(.int ((p2 &&& (2147483647 : Int32)) % (3 : Int32)))])) (fun _ k => iremM X0 hx rfl (hb hby at_12) rfl (by decide) k) ?_
  rw [hb']
  refine own_step (W' := s₁.setTop (mkF m 14 #[.val (.int p1), .val (.int p2), .val (.int (1 : Int32)), .val (.int (1 : Int32)), .unset, .unset, .unset] [])) (fun _ k => XS.istoreN X0.here hx rfl (hb hby at_13) rfl (l' := #[.val (.int p1), .val (.int p2), .val (.int (1 : Int32)), .val (.int (1 : Int32)), .unset, .unset, .unset]) rfl k) ?_
  refine own_fill p1 p2 (1 : Int32) (1 : Int32) X0 hx hZ hw hby hml hown e0 N0 Z0 P ?_
  intro T1 h1 L1 k1 b1 X1 e1 E1 N1 V1
  have P1 : Pins Z h1 w := P.ext E1
  have Z1 : n0 ≤ h1.size := Nat.le_trans Z0 E1.1
  refine own_step (W' := T1.setTop (mkF m 59 #[.val (.int p1), .val (.int p2), .val (.int (1 : Int32)), .val (.int (1 : Int32)), .val (.ref b1), .unset, .unset] [])) (fun _ k => XS.astore X1.here hx rfl (hb hby at_57) rfl rfl (l' := #[.val (.int p1), .val (.int p2), .val (.int (1 : Int32)), .val (.int (1 : Int32)), .val (.ref b1), .unset, .unset]) rfl k) ?_
  refine own_step (W' := T1.setTop (mkF m 60 #[.val (.int p1), .val (.int p2), .val (.int (1 : Int32)), .val (.int (1 : Int32)), .val (.ref b1), .unset, .unset] [(.int (1 : Int32))])) (fun _ k => XS.iloadN X1.here hx rfl (hb hby at_59) rfl k) ?_
  obtain ⟨_, _, ⟨T2, L2, k2, n2⟩, -, X2, ⟨Lc2, hQ2, l2, y2, z2⟩, st2⟩ := Jvm.LawKit.callS X1 hx (y := (⟨"com/example/levy/levy/ScopeGrantsPinLaw", "pick", "(I)Lcom/example/levy/levy/Scope;"⟩ : MethodName)) hown (mvT hZ (hw _ (List.mem_of_getElem? (i := 2) rfl))) (mvT hZ (hw _ (List.mem_of_getElem? (i := 3) rfl))) (mvT hZ (hw _ (List.mem_of_getElem? (i := 4) rfl))) (mvT hZ (hw _ (List.mem_of_getElem? (i := 5) rfl))) (by decide) (backOf (W := 0) (rm1_1 l Z a0 hw [] w h1 n0 Z1 P1) hZ (hw _ (List.mem_of_getElem? (i := 5) rfl)) (hw _ (List.mem_of_getElem? (i := 4) rfl)) (by decide) (by decide)) (g := (mkF m 60 #[.val (.int p1), .val (.int p2), .val (.int (1 : Int32)), .val (.int (1 : Int32)), .val (.ref b1), .unset, .unset] [(.int (1 : Int32))])) rfl (by rw [hml]; rfl) (argsL := [(.int (1 : Int32))]) (rest := []) (lenOf pd_0 rfl) rfl (by show 2 * 0 + _ ≤ _; exact Nat.le_of_eq rfl) (hb hby at_60) (fun _ _ => ⟨rfl, e1, (by decide : 1 + 0 ≤ _), (by decide : 9 + 0 ≤ _)⟩)
  dsimp only [Pt.U, Pt.locs, Pt.cells, Pt.slots] at X2 l2 y2 z2 st2 hQ2
  subst l2 y2 z2
  obtain ⟨rfl, N2q, e2⟩ := hQ2
  have N2 := Fr.app N1 N2q
  refine own_step (W' := T2.setTop (mkF m 63 #[.val (.int p1), .val (.int p2), .val (.int (1 : Int32)), .val (.int (1 : Int32)), .val (.ref b1), .unset, .unset] [(.ref (w 2))])) (fun _ k => st2 _ k) ?_
  refine own_step (W' := T2.setTop (mkF m 65 #[.val (.int p1), .val (.int p2), .val (.int (1 : Int32)), .val (.int (1 : Int32)), .val (.ref b1), .val (.ref (w 2)), .unset] [])) (fun _ k => XS.astore X2.here hx rfl (hb hby at_63) rfl rfl (l' := #[.val (.int p1), .val (.int p2), .val (.int (1 : Int32)), .val (.int (1 : Int32)), .val (.ref b1), .val (.ref (w 2)), .unset]) rfl k) ?_
  refine own_step (W' := T2.setTop (mkF m 66 #[.val (.int p1), .val (.int p2), .val (.int (1 : Int32)), .val (.int (1 : Int32)), .val (.ref b1), .val (.ref (w 2)), .unset] [(.int (1 : Int32))])) (fun _ k => XS.iloadN X2.here hx rfl (hb hby at_65) rfl k) ?_
  obtain ⟨_, _, ⟨T3, L3, k3, n3⟩, -, X3, ⟨Lc3, hQ3, l3, y3, z3⟩, st3⟩ := Jvm.LawKit.callS X2 hx (y := (⟨"com/example/levy/levy/ScopeGrantsPinLaw", "pick", "(I)Lcom/example/levy/levy/Scope;"⟩ : MethodName)) hown (mvT hZ (hw _ (List.mem_of_getElem? (i := 2) rfl))) (mvT hZ (hw _ (List.mem_of_getElem? (i := 3) rfl))) (mvT hZ (hw _ (List.mem_of_getElem? (i := 4) rfl))) (mvT hZ (hw _ (List.mem_of_getElem? (i := 5) rfl))) (by decide) (backOf (W := 0) (rm1_1 l Z a0 hw [] w h1 n0 Z1 P1) hZ (hw _ (List.mem_of_getElem? (i := 5) rfl)) (hw _ (List.mem_of_getElem? (i := 4) rfl)) (by decide) (by decide)) (g := (mkF m 66 #[.val (.int p1), .val (.int p2), .val (.int (1 : Int32)), .val (.int (1 : Int32)), .val (.ref b1), .val (.ref (w 2)), .unset] [(.int (1 : Int32))])) rfl (by rw [hml]; rfl) (argsL := [(.int (1 : Int32))]) (rest := []) (lenOf pd_0 rfl) rfl (by show 2 * 0 + _ ≤ _; exact Nat.le_of_eq rfl) (hb hby at_66) (fun _ _ => ⟨rfl, e2, (by decide : 1 + 0 ≤ _), (by decide : 9 + 0 ≤ _)⟩)
  dsimp only [Pt.U, Pt.locs, Pt.cells, Pt.slots] at X3 l3 y3 z3 st3 hQ3
  subst l3 y3 z3
  obtain ⟨rfl, N3q, e3⟩ := hQ3
  have N3 := Fr.app N2 N3q
  refine own_step (W' := T3.setTop (mkF m 69 #[.val (.int p1), .val (.int p2), .val (.int (1 : Int32)), .val (.int (1 : Int32)), .val (.ref b1), .val (.ref (w 2)), .unset] [(.ref (w 2))])) (fun _ k => st3 _ k) ?_
  refine own_step (W' := T3.setTop (mkF m 71 #[.val (.int p1), .val (.int p2), .val (.int (1 : Int32)), .val (.int (1 : Int32)), .val (.ref b1), .val (.ref (w 2)), .val (.ref (w 2))] [])) (fun _ k => XS.astore X3.here hx rfl (hb hby at_69) rfl rfl (l' := #[.val (.int p1), .val (.int p2), .val (.int (1 : Int32)), .val (.int (1 : Int32)), .val (.ref b1), .val (.ref (w 2)), .val (.ref (w 2))]) rfl k) ?_
  refine own_step (W' := T3.setTop (mkF m 73 #[.val (.int p1), .val (.int p2), .val (.int (1 : Int32)), .val (.int (1 : Int32)), .val (.ref b1), .val (.ref (w 2)), .val (.ref (w 2))] [(.ref (w 2))])) (fun _ k => XS.aload X3.here hx rfl (hb hby at_71) rfl rfl k) ?_
  refine own_step (W' := T3.setTop (mkF m 75 #[.val (.int p1), .val (.int p2), .val (.int (1 : Int32)), .val (.int (1 : Int32)), .val (.ref b1), .val (.ref (w 2)), .val (.ref (w 2))] [(.ref (w 2)), (.ref (w 2))])) (fun _ k => XS.aload X3.here hx rfl (hb hby at_73) rfl rfl k) ?_
  obtain ⟨cq4, kq4, q4a, q4b, q4c⟩ := isOf hZ e3 (pin_E2 P1)
  obtain ⟨_, _, ⟨T4, L4, k4, n4⟩, -, X4, ⟨Lc4, hQ4, l4, y4, z4⟩, st4⟩ := X3.virtualBack hx (y := (⟨"com/example/levy/levy/Scope", "grants", "(Lcom/example/levy/levy/Scope;)Z"⟩ : MethodName)) (z := (⟨"com/example/levy/levy/Scope", "grants", "(Lcom/example/levy/levy/Scope;)Z"⟩ : MethodName)) hown (mvT hZ (hw _ (List.mem_of_getElem? (i := 9) rfl))) (mvT hZ (hw _ (List.mem_of_getElem? (i := 10) rfl))) (notFace_of_selects (args := #[]) (mvT hZ (hw _ (List.mem_of_getElem? (i := 12) rfl)))) (mvT hZ (hw _ (List.mem_of_getElem? (i := 12) rfl))) (mvT hZ (hw _ (List.mem_of_getElem? (i := 11) rfl))) (by decide) (backOf (W := 0) (rm2_w2_w2 l Z a0 hw [] w h1 n0 Z1 P1) hZ (hw _ (List.mem_of_getElem? (i := 13) rfl)) (hw _ (List.mem_of_getElem? (i := 7) rfl)) (by decide) (by decide)) q4a q4c (g := (mkF m 75 #[.val (.int p1), .val (.int p2), .val (.int (1 : Int32)), .val (.int (1 : Int32)), .val (.ref b1), .val (.ref (w 2)), .val (.ref (w 2))] [(.ref (w 2)), (.ref (w 2))])) rfl (by rw [hml]; rfl) (Steps.refl _) (argsL := [(.ref (w 2))]) (rest := []) (lenOf pd_1 rfl) rfl (by show 2 * 0 + _ ≤ _; exact Nat.le_of_eq rfl) (hb hby at_75) (fun _ _ => ⟨rfl, e3, (by decide : 1 + 0 ≤ _), (by decide : 9 + 0 ≤ _)⟩)
  dsimp only [Pt.U, Pt.locs, Pt.cells, Pt.slots] at X4 l4 y4 z4 st4 hQ4
  subst l4 y4 z4
  obtain ⟨rfl, N4q, e4⟩ := hQ4
  have N4 := Fr.app N3 N4q
  refine own_step (W' := T4.setTop (mkF m 78 #[.val (.int p1), .val (.int p2), .val (.int (1 : Int32)), .val (.int (1 : Int32)), .val (.ref b1), .val (.ref (w 2)), .val (.ref (w 2))] [(.int (1 : Int32))])) (fun _ k => st4.trans k) ?_
  refine own_step (W' := T4.setTop (mkF m 80 #[.val (.int p1), .val (.int p2), .val (.int (1 : Int32)), .val (.int (1 : Int32)), .val (.ref b1), .val (.ref (w 2)), .val (.ref (w 2))] [(.ref b1), (.int (1 : Int32))])) (fun _ k => XS.aload X4.here hx rfl (hb hby at_78) rfl rfl k) ?_
  refine own_step (W' := T4.setTop (mkF m 81 #[.val (.int p1), .val (.int p2), .val (.int (1 : Int32)), .val (.int (1 : Int32)), .val (.ref b1), .val (.ref (w 2)), .val (.ref (w 2))] [(.int (1 : Int32)), (.ref b1), (.int (1 : Int32))])) (fun _ k => XS.iloadN X4.here hx rfl (hb hby at_80) rfl k) ?_
  refine own_step (W' := T4.setTop (mkF m 82 #[.val (.int p1), .val (.int p2), .val (.int (1 : Int32)), .val (.int (1 : Int32)), .val (.ref b1), .val (.ref (w 2)), .val (.ref (w 2))] [(.int (3 : Int32)), (.int (1 : Int32)), (.ref b1), (.int (1 : Int32))])) (fun _ k => XS.iconst X4.here hx rfl (hb hby at_81) k) ?_
  refine own_step (W' := T4.setTop (mkF m 83 #[.val (.int p1), .val (.int p2), .val (.int (1 : Int32)), .val (.int (1 : Int32)), .val (.ref b1), .val (.ref (w 2)), .val (.ref (w 2))] [(.int ((1 : Int32) * (3 : Int32))), (.ref b1), (.int (1 : Int32))])) (fun _ k => XS.imul X4.here hx rfl (hb hby at_82) rfl k) ?_
  rw [show ((1 : Int32) * (3 : Int32)) = (3 : Int32) from by decide]
  refine own_step (W' := T4.setTop (mkF m 84 #[.val (.int p1), .val (.int p2), .val (.int (1 : Int32)), .val (.int (1 : Int32)), .val (.ref b1), .val (.ref (w 2)), .val (.ref (w 2))] [(.int (1 : Int32)), (.int (3 : Int32)), (.ref b1), (.int (1 : Int32))])) (fun _ k => XS.iloadN X4.here hx rfl (hb hby at_83) rfl k) ?_
  refine own_step (W' := T4.setTop (mkF m 85 #[.val (.int p1), .val (.int p2), .val (.int (1 : Int32)), .val (.int (1 : Int32)), .val (.ref b1), .val (.ref (w 2)), .val (.ref (w 2))] [(.int ((3 : Int32) + (1 : Int32))), (.ref b1), (.int (1 : Int32))])) (fun _ k => XS.iadd X4.here hx rfl (hb hby at_84) rfl k) ?_
  rw [show ((3 : Int32) + (1 : Int32)) = (4 : Int32) from by decide]
  refine own_step (W' := T4.setTop (mkF m 86 #[.val (.int p1), .val (.int p2), .val (.int (1 : Int32)), .val (.int (1 : Int32)), .val (.ref b1), .val (.ref (w 2)), .val (.ref (w 2))] [(.int (nar .boolean (1 : Int32))), (.int (1 : Int32))])) (fun _ k => own_ldZ X4 hx hZ e4 V1 (j := (4 : Int32)) (v := (.int (nar .boolean (1 : Int32)))) ⟨by decide, by decide⟩ rfl (g := (mkF m 85 #[.val (.int p1), .val (.int p2), .val (.int (1 : Int32)), .val (.int (1 : Int32)), .val (.ref b1), .val (.ref (w 2)), .val (.ref (w 2))] [(.int (4 : Int32)), (.ref b1), (.int (1 : Int32))])) rfl rfl (hb hby at_85) _ k) ?_
  refine own_step (W' := T4.setTop (mkF m 89 #[.val (.int p1), .val (.int p2), .val (.int (1 : Int32)), .val (.int (1 : Int32)), .val (.ref b1), .val (.ref (w 2)), .val (.ref (w 2))] [])) (fun _ k => XS.icmpNo X4.here hx rfl (hb hby at_86) rfl (by decide) k) ?_
  refine own_step (W' := T4.setTop (mkF m 90 #[.val (.int p1), .val (.int p2), .val (.int (1 : Int32)), .val (.int (1 : Int32)), .val (.ref b1), .val (.ref (w 2)), .val (.ref (w 2))] [(.int (1 : Int32))])) (fun _ k => XS.iconst X4.here hx rfl (hb hby at_89) k) ?_
  refine own_step (W' := T4.setTop (mkF m 94 #[.val (.int p1), .val (.int p2), .val (.int (1 : Int32)), .val (.int (1 : Int32)), .val (.ref b1), .val (.ref (w 2)), .val (.ref (w 2))] [(.int (1 : Int32))])) (fun _ k => XS.goto X4.here hx rfl (pc0 := 90) (pc' := 94) rfl (hb hby at_90) (by decide) (by decide) k) ?_
  exact own_ret X4 Bd.notSynchronized Bd.returns (v := (.int (1 : Int32))) (fun fs hr => retN X4 hx (t := .boolean) Bd.returns (by simp) (hb hby at_94) hr) ⟨rfl, N4⟩ (by decide) (by decide)
set_option maxRecDepth 65536 in
set_option maxHeartbeats 40000000 in
theorem rm2_w2_w1 (l : Launch) (Z : State) (a0 : Array Value) (hw : ∀ d ∈ tables_1, d.before a0 Z = true) (ws : List Jvm.Cond) (w : Nat → Addr) (h0 : Heap) (n0 : Nat) (Z0 : n0 ≤ h0.size) (P : Pins Z h0 w) :
    MetFree l (⟨"com/example/levy/levy/Scope", "grants", "(Lcom/example/levy/levy/Scope;)Z"⟩ : MethodName) (head1 (Jvm.Cond.code (⟨"com/example/levy/levy/Scope", "grants", "(Lcom/example/levy/levy/Scope;)Z"⟩ : MethodName) prog_23_method_5_code 2 (some .boolean) :: ws) ({ frames := 0, cells := 0, slots := 0, locals := 0 } : Room)) (fun a U => a = #[(.ref (w 2)), (.ref (w 1))] ∧ Z.Warmed39 U.vm ∧ U.heap = h0) (fun _ _ _ _ _ => True) (fun _ U o U' => ∃ v L, o = .returned v ∧ own_QK (some (.int (0 : Int32))) h0 n0 v U'.heap L ∧ FrameEnd U o U' L ({ frames := 0, cells := 0, slots := 0, locals := 0 } : Room).cells ({ frames := 0, cells := 0, slots := 0, locals := 0 } : Room).slots) := by
  refine MetFree.of_bodySF (plainFor_of_name pn_com_example_levy_levy_Scope) hisR ?_
  intro p e s m args below meth c s₁ Bd hml0 hP hK
  obtain ⟨rfl, hZ, hh⟩ := hP
  have hx := Bd.exec
  have hby := Bd.bytes
  have hml : c.maxLocals = 2 := hml0
  have hown : s.vm.findClass "com/example/levy/levy/Scope" = some m.cls := findClass_of_methodNamed Bd.named
  have hnm := (name_of_methodNamed Bd.named Bd.method).1
  have X0 : Stand p l e ({ frames := 0, cells := 0, slots := 0, locals := 0 } : Room) s m #[(.ref (w 2)), (.ref (w 1))] below meth c s₁ [] 0 0 := Stand.of_body Bd
  have e0 : s₁.heap = h0 := by rw [← hh, Bd.state]; rfl
  have N0 := Fr.nil n0
  refine own_enter (ef_2_RR m (w 2) (w 1)) ?_
  refine own_step (W' := s₁.setTop (mkF m 1 #[.val (.ref (w 2)), .val (.ref (w 1))] [(.ref (w 2))])) (fun _ k => XS.aloadN X0.here hx rfl (hb hby d2_0) rfl rfl k) ?_
  obtain ⟨T1, X1, e1, st1⟩ := getS2 X0 hx hZ hown (host := "") (Or.inl (hw _ (List.mem_of_getElem? (i := 14) rfl))) Via.refl e0 (pin_S1 P) (g := (mkF m 1 #[.val (.ref (w 2)), .val (.ref (w 1))] [(.ref (w 2))])) rfl (hb hby d2_1)
  refine own_step (W' := T1.setTop (mkF m 4 #[.val (.ref (w 2)), .val (.ref (w 1))] [(.ref (w 1)), (.ref (w 2))])) (fun _ k => st1 _ k) ?_
  refine own_step (W' := T1.setTop (mkF m 7 #[.val (.ref (w 2)), .val (.ref (w 1))] [])) (fun _ k => Jvm.RoadKit.acmp (g := (mkF m 4 #[.val (.ref (w 2)), .val (.ref (w 1))] [(.ref (w 1)), (.ref (w 2))])) X1 hx rfl rfl rfl (pc0 := 4) (pc' := 7) (same := false) rfl (hb hby d2_4) rfl (decide_eq_false fun q => (Fld.ne (pin_F2_ordinal P) (pin_F1_ordinal P) (by decide)) (Value.ref.inj q)) (by decide) (by decide) k) ?_
  refine own_step (W' := T1.setTop (mkF m 8 #[.val (.ref (w 2)), .val (.ref (w 1))] [(.ref (w 2))])) (fun _ k => XS.aloadN X1.here hx rfl (hb hby d2_7) rfl rfl k) ?_
  refine own_step (W' := T1.setTop (mkF m 9 #[.val (.ref (w 2)), .val (.ref (w 1))] [(.ref (w 1)), (.ref (w 2))])) (fun _ k => XS.aloadN X1.here hx rfl (hb hby d2_8) rfl rfl k) ?_
  refine own_step (W' := T1.setTop (mkF m 16 #[.val (.ref (w 2)), .val (.ref (w 1))] [])) (fun _ k => Jvm.RoadKit.acmp (g := (mkF m 9 #[.val (.ref (w 2)), .val (.ref (w 1))] [(.ref (w 1)), (.ref (w 2))])) X1 hx rfl rfl rfl (pc0 := 9) (pc' := 16) (same := false) rfl (hb hby d2_9) rfl (decide_eq_false fun q => (Fld.ne (pin_F2_ordinal P) (pin_F1_ordinal P) (by decide)) (Value.ref.inj q)) (by decide) (by decide) k) ?_
  refine own_step (W' := T1.setTop (mkF m 17 #[.val (.ref (w 2)), .val (.ref (w 1))] [(.int (0 : Int32))])) (fun _ k => XS.iconst X1.here hx rfl (hb hby d2_16) k) ?_
  exact own_ret X1 Bd.notSynchronized Bd.returns (v := (.int (0 : Int32))) (fun fs hr => retN X1 hx (t := .boolean) Bd.returns (by simp) (hb hby d2_17) hr) ⟨rfl, N0, e1⟩ (by decide) (by decide)
set_option maxRecDepth 65536 in
set_option maxHeartbeats 40000000 in
theorem rm0_12 (l : Launch) (Z : State) (a0 : Array Value) (hw : ∀ d ∈ tables_1, d.before a0 Z = true) (ws : List Jvm.Cond) (p1 p2 : Int32) (ha : ((p1 &&& (2147483647 : Int32)) % (3 : Int32)) = (1 : Int32)) (hb' : ((p2 &&& (2147483647 : Int32)) % (3 : Int32)) = (2 : Int32)) (w : Nat → Addr) (h0 : Heap) (n0 : Nat) (Z0 : n0 ≤ h0.size) (P : Pins Z h0 w) :
    MetFree l x (head1 (Jvm.Cond.code x code maxLocals ret :: ws) room_1) (fun a U => a = #[(.int p1), (.int p2)] ∧ Z.Warmed39 U.vm ∧ U.heap = h0) (fun _ _ _ _ _ => True) (fun _ U o U' => ∃ v L, o = .returned v ∧ own_Q0 n0 v U'.heap L ∧ FrameEnd U o U' L room_1.cells room_1.slots) := by
  refine MetFree.of_bodySF (plainFor_of_name pn_com_example_levy_levy_ScopeGrantsPinLaw) hisR ?_
  intro p e s m args below meth c s₁ Bd hml0 hP hK
  obtain ⟨rfl, hZ, hh⟩ := hP
  have hx := Bd.exec
  have hby := Bd.bytes
  have hml : c.maxLocals = 7 := hml0
  have hown : s.vm.findClass "com/example/levy/levy/ScopeGrantsPinLaw" = some m.cls := findClass_of_methodNamed Bd.named
  have hnm := (name_of_methodNamed Bd.named Bd.method).1
  have X0 : Stand p l e room_1 s m #[(.int p1), (.int p2)] below meth c s₁ [] 0 0 := Stand.of_body Bd
  have e0 : s₁.heap = h0 := by rw [← hh, Bd.state]; rfl
  have N0 := Fr.nil n0
  refine own_enter (ef_0_II m p1 p2) ?_
  refine own_step (W' := s₁.setTop (mkF m 1 #[.val (.int p1), .val (.int p2), .unset, .unset, .unset, .unset, .unset] [(.int p1)])) (fun _ k => XS.iloadN X0.here hx rfl (hb hby at_0) rfl k) ?_
  refine own_step (W' := s₁.setTop (mkF m 3 #[.val (.int p1), .val (.int p2), .unset, .unset, .unset, .unset, .unset] [(.int (2147483647 : Int32)), (.int p1)])) (fun _ k => X0.ldcInt hx hown (mvT hZ (hw _ (List.mem_of_getElem? (i := 0) rfl))) (g := (mkF m 1 #[.val (.int p1), .val (.int p2), .unset, .unset, .unset, .unset, .unset] [(.int p1)])) rfl (hb hby at_1) _ k) ?_
  refine own_step (W' := s₁.setTop (mkF m 4 #[.val (.int p1), .val (.int p2), .unset, .unset, .unset, .unset, .unset] [(.int (p1 &&& (2147483647 : Int32)))])) (fun _ k => XS.iand X0.here hx rfl (hb hby at_3) rfl k) ?_
  refine own_step (W' := s₁.setTop (mkF m 5 #[.val (.int p1), .val (.int p2), .unset, .unset, .unset, .unset, .unset] [(.int (3 : Int32)), (.int (p1 &&& (2147483647 : Int32)))])) (fun _ k => XS.iconst X0.here hx rfl (hb hby at_4) k) ?_
  refine own_step (W' := s₁.setTop (mkF m 6 #[.val (.int p1), .val (.int p2), .unset, .unset, .unset, .unset, .unset] [(.int ((p1 &&& (2147483647 : Int32)) % (3 : Int32)))])) (fun _ k => iremM X0 hx rfl (hb hby at_5) rfl (by decide) k) ?_
  rw [ha]
  refine own_step (W' := s₁.setTop (mkF m 7 #[.val (.int p1), .val (.int p2), .val (.int (1 : Int32)), .unset, .unset, .unset, .unset] [])) (fun _ k => XS.istoreN X0.here hx rfl (hb hby at_6) rfl (l' := #[.val (.int p1), .val (.int p2), .val (.int (1 : Int32)), .unset, .unset, .unset, .unset]) rfl k) ?_
  refine own_step (W' := s₁.setTop (mkF m 8 #[.val (.int p1), .val (.int p2), .val (.int (1 : Int32)), .unset, .unset, .unset, .unset] [(.int p2)])) (fun _ k => XS.iloadN X0.here hx rfl (hb hby at_7) rfl k) ?_
  refine own_step (W' := s₁.setTop (mkF m 10 #[.val (.int p1), .val (.int p2), .val (.int (1 : Int32)), .unset, .unset, .unset, .unset] [(.int (2147483647 : Int32)), (.int p2)])) (fun _ k => X0.ldcInt hx hown (mvT hZ (hw _ (List.mem_of_getElem? (i := 0) rfl))) (g := (mkF m 8 #[.val (.int p1), .val (.int p2), .val (.int (1 : Int32)), .unset, .unset, .unset, .unset] [(.int p2)])) rfl (hb hby at_8) _ k) ?_
  refine own_step (W' := s₁.setTop (mkF m 11 #[.val (.int p1), .val (.int p2), .val (.int (1 : Int32)), .unset, .unset, .unset, .unset] [(.int (p2 &&& (2147483647 : Int32)))])) (fun _ k => XS.iand X0.here hx rfl (hb hby at_10) rfl k) ?_
  refine own_step (W' := s₁.setTop (mkF m 12 #[.val (.int p1), .val (.int p2), .val (.int (1 : Int32)), .unset, .unset, .unset, .unset] [(.int (3 : Int32)), (.int (p2 &&& (2147483647 : Int32)))])) (fun _ k => XS.iconst X0.here hx rfl (hb hby at_11) k) ?_
  refine own_step (W' := s₁.setTop (mkF m 13 #[.val (.int p1), .val (.int p2), .val (.int (1 : Int32)), .unset, .unset, .unset, .unset] [(.int ((p2 &&& (2147483647 : Int32)) % (3 : Int32)))])) (fun _ k => iremM X0 hx rfl (hb hby at_12) rfl (by decide) k) ?_
  rw [hb']
  refine own_step (W' := s₁.setTop (mkF m 14 #[.val (.int p1), .val (.int p2), .val (.int (1 : Int32)), .val (.int (2 : Int32)), .unset, .unset, .unset] [])) (fun _ k => XS.istoreN X0.here hx rfl (hb hby at_13) rfl (l' := #[.val (.int p1), .val (.int p2), .val (.int (1 : Int32)), .val (.int (2 : Int32)), .unset, .unset, .unset]) rfl k) ?_
  refine own_fill p1 p2 (1 : Int32) (2 : Int32) X0 hx hZ hw hby hml hown e0 N0 Z0 P ?_
  intro T1 h1 L1 k1 b1 X1 e1 E1 N1 V1
  have P1 : Pins Z h1 w := P.ext E1
  have Z1 : n0 ≤ h1.size := Nat.le_trans Z0 E1.1
  refine own_step (W' := T1.setTop (mkF m 59 #[.val (.int p1), .val (.int p2), .val (.int (1 : Int32)), .val (.int (2 : Int32)), .val (.ref b1), .unset, .unset] [])) (fun _ k => XS.astore X1.here hx rfl (hb hby at_57) rfl rfl (l' := #[.val (.int p1), .val (.int p2), .val (.int (1 : Int32)), .val (.int (2 : Int32)), .val (.ref b1), .unset, .unset]) rfl k) ?_
  refine own_step (W' := T1.setTop (mkF m 60 #[.val (.int p1), .val (.int p2), .val (.int (1 : Int32)), .val (.int (2 : Int32)), .val (.ref b1), .unset, .unset] [(.int (1 : Int32))])) (fun _ k => XS.iloadN X1.here hx rfl (hb hby at_59) rfl k) ?_
  obtain ⟨_, _, ⟨T2, L2, k2, n2⟩, -, X2, ⟨Lc2, hQ2, l2, y2, z2⟩, st2⟩ := Jvm.LawKit.callS X1 hx (y := (⟨"com/example/levy/levy/ScopeGrantsPinLaw", "pick", "(I)Lcom/example/levy/levy/Scope;"⟩ : MethodName)) hown (mvT hZ (hw _ (List.mem_of_getElem? (i := 2) rfl))) (mvT hZ (hw _ (List.mem_of_getElem? (i := 3) rfl))) (mvT hZ (hw _ (List.mem_of_getElem? (i := 4) rfl))) (mvT hZ (hw _ (List.mem_of_getElem? (i := 5) rfl))) (by decide) (backOf (W := 0) (rm1_1 l Z a0 hw [] w h1 n0 Z1 P1) hZ (hw _ (List.mem_of_getElem? (i := 5) rfl)) (hw _ (List.mem_of_getElem? (i := 4) rfl)) (by decide) (by decide)) (g := (mkF m 60 #[.val (.int p1), .val (.int p2), .val (.int (1 : Int32)), .val (.int (2 : Int32)), .val (.ref b1), .unset, .unset] [(.int (1 : Int32))])) rfl (by rw [hml]; rfl) (argsL := [(.int (1 : Int32))]) (rest := []) (lenOf pd_0 rfl) rfl (by show 2 * 0 + _ ≤ _; exact Nat.le_of_eq rfl) (hb hby at_60) (fun _ _ => ⟨rfl, e1, (by decide : 1 + 0 ≤ _), (by decide : 9 + 0 ≤ _)⟩)
  dsimp only [Pt.U, Pt.locs, Pt.cells, Pt.slots] at X2 l2 y2 z2 st2 hQ2
  subst l2 y2 z2
  obtain ⟨rfl, N2q, e2⟩ := hQ2
  have N2 := Fr.app N1 N2q
  refine own_step (W' := T2.setTop (mkF m 63 #[.val (.int p1), .val (.int p2), .val (.int (1 : Int32)), .val (.int (2 : Int32)), .val (.ref b1), .unset, .unset] [(.ref (w 2))])) (fun _ k => st2 _ k) ?_
  refine own_step (W' := T2.setTop (mkF m 65 #[.val (.int p1), .val (.int p2), .val (.int (1 : Int32)), .val (.int (2 : Int32)), .val (.ref b1), .val (.ref (w 2)), .unset] [])) (fun _ k => XS.astore X2.here hx rfl (hb hby at_63) rfl rfl (l' := #[.val (.int p1), .val (.int p2), .val (.int (1 : Int32)), .val (.int (2 : Int32)), .val (.ref b1), .val (.ref (w 2)), .unset]) rfl k) ?_
  refine own_step (W' := T2.setTop (mkF m 66 #[.val (.int p1), .val (.int p2), .val (.int (1 : Int32)), .val (.int (2 : Int32)), .val (.ref b1), .val (.ref (w 2)), .unset] [(.int (2 : Int32))])) (fun _ k => XS.iloadN X2.here hx rfl (hb hby at_65) rfl k) ?_
  obtain ⟨_, _, ⟨T3, L3, k3, n3⟩, -, X3, ⟨Lc3, hQ3, l3, y3, z3⟩, st3⟩ := Jvm.LawKit.callS X2 hx (y := (⟨"com/example/levy/levy/ScopeGrantsPinLaw", "pick", "(I)Lcom/example/levy/levy/Scope;"⟩ : MethodName)) hown (mvT hZ (hw _ (List.mem_of_getElem? (i := 2) rfl))) (mvT hZ (hw _ (List.mem_of_getElem? (i := 3) rfl))) (mvT hZ (hw _ (List.mem_of_getElem? (i := 4) rfl))) (mvT hZ (hw _ (List.mem_of_getElem? (i := 5) rfl))) (by decide) (backOf (W := 0) (rm1_2 l Z a0 hw [] w h1 n0 Z1 P1) hZ (hw _ (List.mem_of_getElem? (i := 5) rfl)) (hw _ (List.mem_of_getElem? (i := 4) rfl)) (by decide) (by decide)) (g := (mkF m 66 #[.val (.int p1), .val (.int p2), .val (.int (1 : Int32)), .val (.int (2 : Int32)), .val (.ref b1), .val (.ref (w 2)), .unset] [(.int (2 : Int32))])) rfl (by rw [hml]; rfl) (argsL := [(.int (2 : Int32))]) (rest := []) (lenOf pd_0 rfl) rfl (by show 2 * 0 + _ ≤ _; exact Nat.le_of_eq rfl) (hb hby at_66) (fun _ _ => ⟨rfl, e2, (by decide : 1 + 0 ≤ _), (by decide : 9 + 0 ≤ _)⟩)
  dsimp only [Pt.U, Pt.locs, Pt.cells, Pt.slots] at X3 l3 y3 z3 st3 hQ3
  subst l3 y3 z3
  obtain ⟨rfl, N3q, e3⟩ := hQ3
  have N3 := Fr.app N2 N3q
  refine own_step (W' := T3.setTop (mkF m 69 #[.val (.int p1), .val (.int p2), .val (.int (1 : Int32)), .val (.int (2 : Int32)), .val (.ref b1), .val (.ref (w 2)), .unset] [(.ref (w 1))])) (fun _ k => st3 _ k) ?_
  refine own_step (W' := T3.setTop (mkF m 71 #[.val (.int p1), .val (.int p2), .val (.int (1 : Int32)), .val (.int (2 : Int32)), .val (.ref b1), .val (.ref (w 2)), .val (.ref (w 1))] [])) (fun _ k => XS.astore X3.here hx rfl (hb hby at_69) rfl rfl (l' := #[.val (.int p1), .val (.int p2), .val (.int (1 : Int32)), .val (.int (2 : Int32)), .val (.ref b1), .val (.ref (w 2)), .val (.ref (w 1))]) rfl k) ?_
  refine own_step (W' := T3.setTop (mkF m 73 #[.val (.int p1), .val (.int p2), .val (.int (1 : Int32)), .val (.int (2 : Int32)), .val (.ref b1), .val (.ref (w 2)), .val (.ref (w 1))] [(.ref (w 2))])) (fun _ k => XS.aload X3.here hx rfl (hb hby at_71) rfl rfl k) ?_
  refine own_step (W' := T3.setTop (mkF m 75 #[.val (.int p1), .val (.int p2), .val (.int (1 : Int32)), .val (.int (2 : Int32)), .val (.ref b1), .val (.ref (w 2)), .val (.ref (w 1))] [(.ref (w 1)), (.ref (w 2))])) (fun _ k => XS.aload X3.here hx rfl (hb hby at_73) rfl rfl k) ?_
  obtain ⟨cq4, kq4, q4a, q4b, q4c⟩ := isOf hZ e3 (pin_E2 P1)
  obtain ⟨_, _, ⟨T4, L4, k4, n4⟩, -, X4, ⟨Lc4, hQ4, l4, y4, z4⟩, st4⟩ := X3.virtualBack hx (y := (⟨"com/example/levy/levy/Scope", "grants", "(Lcom/example/levy/levy/Scope;)Z"⟩ : MethodName)) (z := (⟨"com/example/levy/levy/Scope", "grants", "(Lcom/example/levy/levy/Scope;)Z"⟩ : MethodName)) hown (mvT hZ (hw _ (List.mem_of_getElem? (i := 9) rfl))) (mvT hZ (hw _ (List.mem_of_getElem? (i := 10) rfl))) (notFace_of_selects (args := #[]) (mvT hZ (hw _ (List.mem_of_getElem? (i := 12) rfl)))) (mvT hZ (hw _ (List.mem_of_getElem? (i := 12) rfl))) (mvT hZ (hw _ (List.mem_of_getElem? (i := 11) rfl))) (by decide) (backOf (W := 0) (rm2_w2_w1 l Z a0 hw [] w h1 n0 Z1 P1) hZ (hw _ (List.mem_of_getElem? (i := 13) rfl)) (hw _ (List.mem_of_getElem? (i := 7) rfl)) (by decide) (by decide)) q4a q4c (g := (mkF m 75 #[.val (.int p1), .val (.int p2), .val (.int (1 : Int32)), .val (.int (2 : Int32)), .val (.ref b1), .val (.ref (w 2)), .val (.ref (w 1))] [(.ref (w 1)), (.ref (w 2))])) rfl (by rw [hml]; rfl) (Steps.refl _) (argsL := [(.ref (w 1))]) (rest := []) (lenOf pd_1 rfl) rfl (by show 2 * 0 + _ ≤ _; exact Nat.le_of_eq rfl) (hb hby at_75) (fun _ _ => ⟨rfl, e3, (by decide : 1 + 0 ≤ _), (by decide : 9 + 0 ≤ _)⟩)
  dsimp only [Pt.U, Pt.locs, Pt.cells, Pt.slots] at X4 l4 y4 z4 st4 hQ4
  subst l4 y4 z4
  obtain ⟨rfl, N4q, e4⟩ := hQ4
  have N4 := Fr.app N3 N4q
  refine own_step (W' := T4.setTop (mkF m 78 #[.val (.int p1), .val (.int p2), .val (.int (1 : Int32)), .val (.int (2 : Int32)), .val (.ref b1), .val (.ref (w 2)), .val (.ref (w 1))] [(.int (0 : Int32))])) (fun _ k => st4.trans k) ?_
  refine own_step (W' := T4.setTop (mkF m 80 #[.val (.int p1), .val (.int p2), .val (.int (1 : Int32)), .val (.int (2 : Int32)), .val (.ref b1), .val (.ref (w 2)), .val (.ref (w 1))] [(.ref b1), (.int (0 : Int32))])) (fun _ k => XS.aload X4.here hx rfl (hb hby at_78) rfl rfl k) ?_
  refine own_step (W' := T4.setTop (mkF m 81 #[.val (.int p1), .val (.int p2), .val (.int (1 : Int32)), .val (.int (2 : Int32)), .val (.ref b1), .val (.ref (w 2)), .val (.ref (w 1))] [(.int (1 : Int32)), (.ref b1), (.int (0 : Int32))])) (fun _ k => XS.iloadN X4.here hx rfl (hb hby at_80) rfl k) ?_
  refine own_step (W' := T4.setTop (mkF m 82 #[.val (.int p1), .val (.int p2), .val (.int (1 : Int32)), .val (.int (2 : Int32)), .val (.ref b1), .val (.ref (w 2)), .val (.ref (w 1))] [(.int (3 : Int32)), (.int (1 : Int32)), (.ref b1), (.int (0 : Int32))])) (fun _ k => XS.iconst X4.here hx rfl (hb hby at_81) k) ?_
  refine own_step (W' := T4.setTop (mkF m 83 #[.val (.int p1), .val (.int p2), .val (.int (1 : Int32)), .val (.int (2 : Int32)), .val (.ref b1), .val (.ref (w 2)), .val (.ref (w 1))] [(.int ((1 : Int32) * (3 : Int32))), (.ref b1), (.int (0 : Int32))])) (fun _ k => XS.imul X4.here hx rfl (hb hby at_82) rfl k) ?_
  rw [show ((1 : Int32) * (3 : Int32)) = (3 : Int32) from by decide]
  refine own_step (W' := T4.setTop (mkF m 84 #[.val (.int p1), .val (.int p2), .val (.int (1 : Int32)), .val (.int (2 : Int32)), .val (.ref b1), .val (.ref (w 2)), .val (.ref (w 1))] [(.int (2 : Int32)), (.int (3 : Int32)), (.ref b1), (.int (0 : Int32))])) (fun _ k => XS.iloadN X4.here hx rfl (hb hby at_83) rfl k) ?_
  refine own_step (W' := T4.setTop (mkF m 85 #[.val (.int p1), .val (.int p2), .val (.int (1 : Int32)), .val (.int (2 : Int32)), .val (.ref b1), .val (.ref (w 2)), .val (.ref (w 1))] [(.int ((3 : Int32) + (2 : Int32))), (.ref b1), (.int (0 : Int32))])) (fun _ k => XS.iadd X4.here hx rfl (hb hby at_84) rfl k) ?_
  rw [show ((3 : Int32) + (2 : Int32)) = (5 : Int32) from by decide]
  refine own_step (W' := T4.setTop (mkF m 86 #[.val (.int p1), .val (.int p2), .val (.int (1 : Int32)), .val (.int (2 : Int32)), .val (.ref b1), .val (.ref (w 2)), .val (.ref (w 1))] [(.int (nar .boolean (0 : Int32))), (.int (0 : Int32))])) (fun _ k => own_ldZ X4 hx hZ e4 V1 (j := (5 : Int32)) (v := (.int (nar .boolean (0 : Int32)))) ⟨by decide, by decide⟩ rfl (g := (mkF m 85 #[.val (.int p1), .val (.int p2), .val (.int (1 : Int32)), .val (.int (2 : Int32)), .val (.ref b1), .val (.ref (w 2)), .val (.ref (w 1))] [(.int (5 : Int32)), (.ref b1), (.int (0 : Int32))])) rfl rfl (hb hby at_85) _ k) ?_
  refine own_step (W' := T4.setTop (mkF m 89 #[.val (.int p1), .val (.int p2), .val (.int (1 : Int32)), .val (.int (2 : Int32)), .val (.ref b1), .val (.ref (w 2)), .val (.ref (w 1))] [])) (fun _ k => XS.icmpNo X4.here hx rfl (hb hby at_86) rfl (by decide) k) ?_
  refine own_step (W' := T4.setTop (mkF m 90 #[.val (.int p1), .val (.int p2), .val (.int (1 : Int32)), .val (.int (2 : Int32)), .val (.ref b1), .val (.ref (w 2)), .val (.ref (w 1))] [(.int (1 : Int32))])) (fun _ k => XS.iconst X4.here hx rfl (hb hby at_89) k) ?_
  refine own_step (W' := T4.setTop (mkF m 94 #[.val (.int p1), .val (.int p2), .val (.int (1 : Int32)), .val (.int (2 : Int32)), .val (.ref b1), .val (.ref (w 2)), .val (.ref (w 1))] [(.int (1 : Int32))])) (fun _ k => XS.goto X4.here hx rfl (pc0 := 90) (pc' := 94) rfl (hb hby at_90) (by decide) (by decide) k) ?_
  exact own_ret X4 Bd.notSynchronized Bd.returns (v := (.int (1 : Int32))) (fun fs hr => retN X4 hx (t := .boolean) Bd.returns (by simp) (hb hby at_94) hr) ⟨rfl, N4⟩ (by decide) (by decide)
set_option maxRecDepth 65536 in
set_option maxHeartbeats 40000000 in
theorem rm2_w1_w0 (l : Launch) (Z : State) (a0 : Array Value) (hw : ∀ d ∈ tables_1, d.before a0 Z = true) (ws : List Jvm.Cond) (w : Nat → Addr) (h0 : Heap) (n0 : Nat) (Z0 : n0 ≤ h0.size) (P : Pins Z h0 w) :
    MetFree l (⟨"com/example/levy/levy/Scope", "grants", "(Lcom/example/levy/levy/Scope;)Z"⟩ : MethodName) (head1 (Jvm.Cond.code (⟨"com/example/levy/levy/Scope", "grants", "(Lcom/example/levy/levy/Scope;)Z"⟩ : MethodName) prog_23_method_5_code 2 (some .boolean) :: ws) ({ frames := 0, cells := 0, slots := 0, locals := 0 } : Room)) (fun a U => a = #[(.ref (w 1)), (.ref (w 0))] ∧ Z.Warmed39 U.vm ∧ U.heap = h0) (fun _ _ _ _ _ => True) (fun _ U o U' => ∃ v L, o = .returned v ∧ own_QK (some (.int (1 : Int32))) h0 n0 v U'.heap L ∧ FrameEnd U o U' L ({ frames := 0, cells := 0, slots := 0, locals := 0 } : Room).cells ({ frames := 0, cells := 0, slots := 0, locals := 0 } : Room).slots) := by
  refine MetFree.of_bodySF (plainFor_of_name pn_com_example_levy_levy_Scope) hisR ?_
  intro p e s m args below meth c s₁ Bd hml0 hP hK
  obtain ⟨rfl, hZ, hh⟩ := hP
  have hx := Bd.exec
  have hby := Bd.bytes
  have hml : c.maxLocals = 2 := hml0
  have hown : s.vm.findClass "com/example/levy/levy/Scope" = some m.cls := findClass_of_methodNamed Bd.named
  have hnm := (name_of_methodNamed Bd.named Bd.method).1
  have X0 : Stand p l e ({ frames := 0, cells := 0, slots := 0, locals := 0 } : Room) s m #[(.ref (w 1)), (.ref (w 0))] below meth c s₁ [] 0 0 := Stand.of_body Bd
  have e0 : s₁.heap = h0 := by rw [← hh, Bd.state]; rfl
  have N0 := Fr.nil n0
  refine own_enter (ef_2_RR m (w 1) (w 0)) ?_
  refine own_step (W' := s₁.setTop (mkF m 1 #[.val (.ref (w 1)), .val (.ref (w 0))] [(.ref (w 1))])) (fun _ k => XS.aloadN X0.here hx rfl (hb hby d2_0) rfl rfl k) ?_
  obtain ⟨T1, X1, e1, st1⟩ := getS2 X0 hx hZ hown (host := "") (Or.inl (hw _ (List.mem_of_getElem? (i := 14) rfl))) Via.refl e0 (pin_S1 P) (g := (mkF m 1 #[.val (.ref (w 1)), .val (.ref (w 0))] [(.ref (w 1))])) rfl (hb hby d2_1)
  refine own_step (W' := T1.setTop (mkF m 4 #[.val (.ref (w 1)), .val (.ref (w 0))] [(.ref (w 1)), (.ref (w 1))])) (fun _ k => st1 _ k) ?_
  refine own_step (W' := T1.setTop (mkF m 12 #[.val (.ref (w 1)), .val (.ref (w 0))] [])) (fun _ k => Jvm.RoadKit.acmp (g := (mkF m 4 #[.val (.ref (w 1)), .val (.ref (w 0))] [(.ref (w 1)), (.ref (w 1))])) X1 hx rfl rfl rfl (pc0 := 4) (pc' := 12) (same := true) rfl (hb hby d2_4) rfl (decide_eq_true rfl) (by decide) (by decide) k) ?_
  refine own_step (W' := T1.setTop (mkF m 13 #[.val (.ref (w 1)), .val (.ref (w 0))] [(.int (1 : Int32))])) (fun _ k => XS.iconst X1.here hx rfl (hb hby d2_12) k) ?_
  refine own_step (W' := T1.setTop (mkF m 17 #[.val (.ref (w 1)), .val (.ref (w 0))] [(.int (1 : Int32))])) (fun _ k => XS.goto X1.here hx rfl (pc0 := 13) (pc' := 17) rfl (hb hby d2_13) (by decide) (by decide) k) ?_
  exact own_ret X1 Bd.notSynchronized Bd.returns (v := (.int (1 : Int32))) (fun fs hr => retN X1 hx (t := .boolean) Bd.returns (by simp) (hb hby d2_17) hr) ⟨rfl, N0, e1⟩ (by decide) (by decide)
set_option maxRecDepth 65536 in
set_option maxHeartbeats 40000000 in
theorem rm0_20 (l : Launch) (Z : State) (a0 : Array Value) (hw : ∀ d ∈ tables_1, d.before a0 Z = true) (ws : List Jvm.Cond) (p1 p2 : Int32) (ha : ((p1 &&& (2147483647 : Int32)) % (3 : Int32)) = (2 : Int32)) (hb' : ((p2 &&& (2147483647 : Int32)) % (3 : Int32)) = (0 : Int32)) (w : Nat → Addr) (h0 : Heap) (n0 : Nat) (Z0 : n0 ≤ h0.size) (P : Pins Z h0 w) :
    MetFree l x (head1 (Jvm.Cond.code x code maxLocals ret :: ws) room_1) (fun a U => a = #[(.int p1), (.int p2)] ∧ Z.Warmed39 U.vm ∧ U.heap = h0) (fun _ _ _ _ _ => True) (fun _ U o U' => ∃ v L, o = .returned v ∧ own_Q0 n0 v U'.heap L ∧ FrameEnd U o U' L room_1.cells room_1.slots) := by
  refine MetFree.of_bodySF (plainFor_of_name pn_com_example_levy_levy_ScopeGrantsPinLaw) hisR ?_
  intro p e s m args below meth c s₁ Bd hml0 hP hK
  obtain ⟨rfl, hZ, hh⟩ := hP
  have hx := Bd.exec
  have hby := Bd.bytes
  have hml : c.maxLocals = 7 := hml0
  have hown : s.vm.findClass "com/example/levy/levy/ScopeGrantsPinLaw" = some m.cls := findClass_of_methodNamed Bd.named
  have hnm := (name_of_methodNamed Bd.named Bd.method).1
  have X0 : Stand p l e room_1 s m #[(.int p1), (.int p2)] below meth c s₁ [] 0 0 := Stand.of_body Bd
  have e0 : s₁.heap = h0 := by rw [← hh, Bd.state]; rfl
  have N0 := Fr.nil n0
  refine own_enter (ef_0_II m p1 p2) ?_
  refine own_step (W' := s₁.setTop (mkF m 1 #[.val (.int p1), .val (.int p2), .unset, .unset, .unset, .unset, .unset] [(.int p1)])) (fun _ k => XS.iloadN X0.here hx rfl (hb hby at_0) rfl k) ?_
  refine own_step (W' := s₁.setTop (mkF m 3 #[.val (.int p1), .val (.int p2), .unset, .unset, .unset, .unset, .unset] [(.int (2147483647 : Int32)), (.int p1)])) (fun _ k => X0.ldcInt hx hown (mvT hZ (hw _ (List.mem_of_getElem? (i := 0) rfl))) (g := (mkF m 1 #[.val (.int p1), .val (.int p2), .unset, .unset, .unset, .unset, .unset] [(.int p1)])) rfl (hb hby at_1) _ k) ?_
  refine own_step (W' := s₁.setTop (mkF m 4 #[.val (.int p1), .val (.int p2), .unset, .unset, .unset, .unset, .unset] [(.int (p1 &&& (2147483647 : Int32)))])) (fun _ k => XS.iand X0.here hx rfl (hb hby at_3) rfl k) ?_
  refine own_step (W' := s₁.setTop (mkF m 5 #[.val (.int p1), .val (.int p2), .unset, .unset, .unset, .unset, .unset] [(.int (3 : Int32)), (.int (p1 &&& (2147483647 : Int32)))])) (fun _ k => XS.iconst X0.here hx rfl (hb hby at_4) k) ?_
  refine own_step (W' := s₁.setTop (mkF m 6 #[.val (.int p1), .val (.int p2), .unset, .unset, .unset, .unset, .unset] [(.int ((p1 &&& (2147483647 : Int32)) % (3 : Int32)))])) (fun _ k => iremM X0 hx rfl (hb hby at_5) rfl (by decide) k) ?_
  rw [ha]
  refine own_step (W' := s₁.setTop (mkF m 7 #[.val (.int p1), .val (.int p2), .val (.int (2 : Int32)), .unset, .unset, .unset, .unset] [])) (fun _ k => XS.istoreN X0.here hx rfl (hb hby at_6) rfl (l' := #[.val (.int p1), .val (.int p2), .val (.int (2 : Int32)), .unset, .unset, .unset, .unset]) rfl k) ?_
  refine own_step (W' := s₁.setTop (mkF m 8 #[.val (.int p1), .val (.int p2), .val (.int (2 : Int32)), .unset, .unset, .unset, .unset] [(.int p2)])) (fun _ k => XS.iloadN X0.here hx rfl (hb hby at_7) rfl k) ?_
  refine own_step (W' := s₁.setTop (mkF m 10 #[.val (.int p1), .val (.int p2), .val (.int (2 : Int32)), .unset, .unset, .unset, .unset] [(.int (2147483647 : Int32)), (.int p2)])) (fun _ k => X0.ldcInt hx hown (mvT hZ (hw _ (List.mem_of_getElem? (i := 0) rfl))) (g := (mkF m 8 #[.val (.int p1), .val (.int p2), .val (.int (2 : Int32)), .unset, .unset, .unset, .unset] [(.int p2)])) rfl (hb hby at_8) _ k) ?_
  refine own_step (W' := s₁.setTop (mkF m 11 #[.val (.int p1), .val (.int p2), .val (.int (2 : Int32)), .unset, .unset, .unset, .unset] [(.int (p2 &&& (2147483647 : Int32)))])) (fun _ k => XS.iand X0.here hx rfl (hb hby at_10) rfl k) ?_
  refine own_step (W' := s₁.setTop (mkF m 12 #[.val (.int p1), .val (.int p2), .val (.int (2 : Int32)), .unset, .unset, .unset, .unset] [(.int (3 : Int32)), (.int (p2 &&& (2147483647 : Int32)))])) (fun _ k => XS.iconst X0.here hx rfl (hb hby at_11) k) ?_
  refine own_step (W' := s₁.setTop (mkF m 13 #[.val (.int p1), .val (.int p2), .val (.int (2 : Int32)), .unset, .unset, .unset, .unset] [(.int ((p2 &&& (2147483647 : Int32)) % (3 : Int32)))])) (fun _ k => iremM X0 hx rfl (hb hby at_12) rfl (by decide) k) ?_
  rw [hb']
  refine own_step (W' := s₁.setTop (mkF m 14 #[.val (.int p1), .val (.int p2), .val (.int (2 : Int32)), .val (.int (0 : Int32)), .unset, .unset, .unset] [])) (fun _ k => XS.istoreN X0.here hx rfl (hb hby at_13) rfl (l' := #[.val (.int p1), .val (.int p2), .val (.int (2 : Int32)), .val (.int (0 : Int32)), .unset, .unset, .unset]) rfl k) ?_
  refine own_fill p1 p2 (2 : Int32) (0 : Int32) X0 hx hZ hw hby hml hown e0 N0 Z0 P ?_
  intro T1 h1 L1 k1 b1 X1 e1 E1 N1 V1
  have P1 : Pins Z h1 w := P.ext E1
  have Z1 : n0 ≤ h1.size := Nat.le_trans Z0 E1.1
  refine own_step (W' := T1.setTop (mkF m 59 #[.val (.int p1), .val (.int p2), .val (.int (2 : Int32)), .val (.int (0 : Int32)), .val (.ref b1), .unset, .unset] [])) (fun _ k => XS.astore X1.here hx rfl (hb hby at_57) rfl rfl (l' := #[.val (.int p1), .val (.int p2), .val (.int (2 : Int32)), .val (.int (0 : Int32)), .val (.ref b1), .unset, .unset]) rfl k) ?_
  refine own_step (W' := T1.setTop (mkF m 60 #[.val (.int p1), .val (.int p2), .val (.int (2 : Int32)), .val (.int (0 : Int32)), .val (.ref b1), .unset, .unset] [(.int (2 : Int32))])) (fun _ k => XS.iloadN X1.here hx rfl (hb hby at_59) rfl k) ?_
  obtain ⟨_, _, ⟨T2, L2, k2, n2⟩, -, X2, ⟨Lc2, hQ2, l2, y2, z2⟩, st2⟩ := Jvm.LawKit.callS X1 hx (y := (⟨"com/example/levy/levy/ScopeGrantsPinLaw", "pick", "(I)Lcom/example/levy/levy/Scope;"⟩ : MethodName)) hown (mvT hZ (hw _ (List.mem_of_getElem? (i := 2) rfl))) (mvT hZ (hw _ (List.mem_of_getElem? (i := 3) rfl))) (mvT hZ (hw _ (List.mem_of_getElem? (i := 4) rfl))) (mvT hZ (hw _ (List.mem_of_getElem? (i := 5) rfl))) (by decide) (backOf (W := 0) (rm1_2 l Z a0 hw [] w h1 n0 Z1 P1) hZ (hw _ (List.mem_of_getElem? (i := 5) rfl)) (hw _ (List.mem_of_getElem? (i := 4) rfl)) (by decide) (by decide)) (g := (mkF m 60 #[.val (.int p1), .val (.int p2), .val (.int (2 : Int32)), .val (.int (0 : Int32)), .val (.ref b1), .unset, .unset] [(.int (2 : Int32))])) rfl (by rw [hml]; rfl) (argsL := [(.int (2 : Int32))]) (rest := []) (lenOf pd_0 rfl) rfl (by show 2 * 0 + _ ≤ _; exact Nat.le_of_eq rfl) (hb hby at_60) (fun _ _ => ⟨rfl, e1, (by decide : 1 + 0 ≤ _), (by decide : 9 + 0 ≤ _)⟩)
  dsimp only [Pt.U, Pt.locs, Pt.cells, Pt.slots] at X2 l2 y2 z2 st2 hQ2
  subst l2 y2 z2
  obtain ⟨rfl, N2q, e2⟩ := hQ2
  have N2 := Fr.app N1 N2q
  refine own_step (W' := T2.setTop (mkF m 63 #[.val (.int p1), .val (.int p2), .val (.int (2 : Int32)), .val (.int (0 : Int32)), .val (.ref b1), .unset, .unset] [(.ref (w 1))])) (fun _ k => st2 _ k) ?_
  refine own_step (W' := T2.setTop (mkF m 65 #[.val (.int p1), .val (.int p2), .val (.int (2 : Int32)), .val (.int (0 : Int32)), .val (.ref b1), .val (.ref (w 1)), .unset] [])) (fun _ k => XS.astore X2.here hx rfl (hb hby at_63) rfl rfl (l' := #[.val (.int p1), .val (.int p2), .val (.int (2 : Int32)), .val (.int (0 : Int32)), .val (.ref b1), .val (.ref (w 1)), .unset]) rfl k) ?_
  refine own_step (W' := T2.setTop (mkF m 66 #[.val (.int p1), .val (.int p2), .val (.int (2 : Int32)), .val (.int (0 : Int32)), .val (.ref b1), .val (.ref (w 1)), .unset] [(.int (0 : Int32))])) (fun _ k => XS.iloadN X2.here hx rfl (hb hby at_65) rfl k) ?_
  obtain ⟨_, _, ⟨T3, L3, k3, n3⟩, -, X3, ⟨Lc3, hQ3, l3, y3, z3⟩, st3⟩ := Jvm.LawKit.callS X2 hx (y := (⟨"com/example/levy/levy/ScopeGrantsPinLaw", "pick", "(I)Lcom/example/levy/levy/Scope;"⟩ : MethodName)) hown (mvT hZ (hw _ (List.mem_of_getElem? (i := 2) rfl))) (mvT hZ (hw _ (List.mem_of_getElem? (i := 3) rfl))) (mvT hZ (hw _ (List.mem_of_getElem? (i := 4) rfl))) (mvT hZ (hw _ (List.mem_of_getElem? (i := 5) rfl))) (by decide) (backOf (W := 0) (rm1_0 l Z a0 hw [] w h1 n0 Z1 P1) hZ (hw _ (List.mem_of_getElem? (i := 5) rfl)) (hw _ (List.mem_of_getElem? (i := 4) rfl)) (by decide) (by decide)) (g := (mkF m 66 #[.val (.int p1), .val (.int p2), .val (.int (2 : Int32)), .val (.int (0 : Int32)), .val (.ref b1), .val (.ref (w 1)), .unset] [(.int (0 : Int32))])) rfl (by rw [hml]; rfl) (argsL := [(.int (0 : Int32))]) (rest := []) (lenOf pd_0 rfl) rfl (by show 2 * 0 + _ ≤ _; exact Nat.le_of_eq rfl) (hb hby at_66) (fun _ _ => ⟨rfl, e2, (by decide : 1 + 0 ≤ _), (by decide : 9 + 0 ≤ _)⟩)
  dsimp only [Pt.U, Pt.locs, Pt.cells, Pt.slots] at X3 l3 y3 z3 st3 hQ3
  subst l3 y3 z3
  obtain ⟨rfl, N3q, e3⟩ := hQ3
  have N3 := Fr.app N2 N3q
  refine own_step (W' := T3.setTop (mkF m 69 #[.val (.int p1), .val (.int p2), .val (.int (2 : Int32)), .val (.int (0 : Int32)), .val (.ref b1), .val (.ref (w 1)), .unset] [(.ref (w 0))])) (fun _ k => st3 _ k) ?_
  refine own_step (W' := T3.setTop (mkF m 71 #[.val (.int p1), .val (.int p2), .val (.int (2 : Int32)), .val (.int (0 : Int32)), .val (.ref b1), .val (.ref (w 1)), .val (.ref (w 0))] [])) (fun _ k => XS.astore X3.here hx rfl (hb hby at_69) rfl rfl (l' := #[.val (.int p1), .val (.int p2), .val (.int (2 : Int32)), .val (.int (0 : Int32)), .val (.ref b1), .val (.ref (w 1)), .val (.ref (w 0))]) rfl k) ?_
  refine own_step (W' := T3.setTop (mkF m 73 #[.val (.int p1), .val (.int p2), .val (.int (2 : Int32)), .val (.int (0 : Int32)), .val (.ref b1), .val (.ref (w 1)), .val (.ref (w 0))] [(.ref (w 1))])) (fun _ k => XS.aload X3.here hx rfl (hb hby at_71) rfl rfl k) ?_
  refine own_step (W' := T3.setTop (mkF m 75 #[.val (.int p1), .val (.int p2), .val (.int (2 : Int32)), .val (.int (0 : Int32)), .val (.ref b1), .val (.ref (w 1)), .val (.ref (w 0))] [(.ref (w 0)), (.ref (w 1))])) (fun _ k => XS.aload X3.here hx rfl (hb hby at_73) rfl rfl k) ?_
  obtain ⟨cq4, kq4, q4a, q4b, q4c⟩ := isOf hZ e3 (pin_E1 P1)
  obtain ⟨_, _, ⟨T4, L4, k4, n4⟩, -, X4, ⟨Lc4, hQ4, l4, y4, z4⟩, st4⟩ := X3.virtualBack hx (y := (⟨"com/example/levy/levy/Scope", "grants", "(Lcom/example/levy/levy/Scope;)Z"⟩ : MethodName)) (z := (⟨"com/example/levy/levy/Scope", "grants", "(Lcom/example/levy/levy/Scope;)Z"⟩ : MethodName)) hown (mvT hZ (hw _ (List.mem_of_getElem? (i := 9) rfl))) (mvT hZ (hw _ (List.mem_of_getElem? (i := 10) rfl))) (notFace_of_selects (args := #[]) (mvT hZ (hw _ (List.mem_of_getElem? (i := 12) rfl)))) (mvT hZ (hw _ (List.mem_of_getElem? (i := 12) rfl))) (mvT hZ (hw _ (List.mem_of_getElem? (i := 11) rfl))) (by decide) (backOf (W := 0) (rm2_w1_w0 l Z a0 hw [] w h1 n0 Z1 P1) hZ (hw _ (List.mem_of_getElem? (i := 13) rfl)) (hw _ (List.mem_of_getElem? (i := 7) rfl)) (by decide) (by decide)) q4a q4c (g := (mkF m 75 #[.val (.int p1), .val (.int p2), .val (.int (2 : Int32)), .val (.int (0 : Int32)), .val (.ref b1), .val (.ref (w 1)), .val (.ref (w 0))] [(.ref (w 0)), (.ref (w 1))])) rfl (by rw [hml]; rfl) (Steps.refl _) (argsL := [(.ref (w 0))]) (rest := []) (lenOf pd_1 rfl) rfl (by show 2 * 0 + _ ≤ _; exact Nat.le_of_eq rfl) (hb hby at_75) (fun _ _ => ⟨rfl, e3, (by decide : 1 + 0 ≤ _), (by decide : 9 + 0 ≤ _)⟩)
  dsimp only [Pt.U, Pt.locs, Pt.cells, Pt.slots] at X4 l4 y4 z4 st4 hQ4
  subst l4 y4 z4
  obtain ⟨rfl, N4q, e4⟩ := hQ4
  have N4 := Fr.app N3 N4q
  refine own_step (W' := T4.setTop (mkF m 78 #[.val (.int p1), .val (.int p2), .val (.int (2 : Int32)), .val (.int (0 : Int32)), .val (.ref b1), .val (.ref (w 1)), .val (.ref (w 0))] [(.int (1 : Int32))])) (fun _ k => st4.trans k) ?_
  refine own_step (W' := T4.setTop (mkF m 80 #[.val (.int p1), .val (.int p2), .val (.int (2 : Int32)), .val (.int (0 : Int32)), .val (.ref b1), .val (.ref (w 1)), .val (.ref (w 0))] [(.ref b1), (.int (1 : Int32))])) (fun _ k => XS.aload X4.here hx rfl (hb hby at_78) rfl rfl k) ?_
  refine own_step (W' := T4.setTop (mkF m 81 #[.val (.int p1), .val (.int p2), .val (.int (2 : Int32)), .val (.int (0 : Int32)), .val (.ref b1), .val (.ref (w 1)), .val (.ref (w 0))] [(.int (2 : Int32)), (.ref b1), (.int (1 : Int32))])) (fun _ k => XS.iloadN X4.here hx rfl (hb hby at_80) rfl k) ?_
  refine own_step (W' := T4.setTop (mkF m 82 #[.val (.int p1), .val (.int p2), .val (.int (2 : Int32)), .val (.int (0 : Int32)), .val (.ref b1), .val (.ref (w 1)), .val (.ref (w 0))] [(.int (3 : Int32)), (.int (2 : Int32)), (.ref b1), (.int (1 : Int32))])) (fun _ k => XS.iconst X4.here hx rfl (hb hby at_81) k) ?_
  refine own_step (W' := T4.setTop (mkF m 83 #[.val (.int p1), .val (.int p2), .val (.int (2 : Int32)), .val (.int (0 : Int32)), .val (.ref b1), .val (.ref (w 1)), .val (.ref (w 0))] [(.int ((2 : Int32) * (3 : Int32))), (.ref b1), (.int (1 : Int32))])) (fun _ k => XS.imul X4.here hx rfl (hb hby at_82) rfl k) ?_
  rw [show ((2 : Int32) * (3 : Int32)) = (6 : Int32) from by decide]
  refine own_step (W' := T4.setTop (mkF m 84 #[.val (.int p1), .val (.int p2), .val (.int (2 : Int32)), .val (.int (0 : Int32)), .val (.ref b1), .val (.ref (w 1)), .val (.ref (w 0))] [(.int (0 : Int32)), (.int (6 : Int32)), (.ref b1), (.int (1 : Int32))])) (fun _ k => XS.iloadN X4.here hx rfl (hb hby at_83) rfl k) ?_
  refine own_step (W' := T4.setTop (mkF m 85 #[.val (.int p1), .val (.int p2), .val (.int (2 : Int32)), .val (.int (0 : Int32)), .val (.ref b1), .val (.ref (w 1)), .val (.ref (w 0))] [(.int ((6 : Int32) + (0 : Int32))), (.ref b1), (.int (1 : Int32))])) (fun _ k => XS.iadd X4.here hx rfl (hb hby at_84) rfl k) ?_
  rw [show ((6 : Int32) + (0 : Int32)) = (6 : Int32) from by decide]
  refine own_step (W' := T4.setTop (mkF m 86 #[.val (.int p1), .val (.int p2), .val (.int (2 : Int32)), .val (.int (0 : Int32)), .val (.ref b1), .val (.ref (w 1)), .val (.ref (w 0))] [(.int (nar .boolean (1 : Int32))), (.int (1 : Int32))])) (fun _ k => own_ldZ X4 hx hZ e4 V1 (j := (6 : Int32)) (v := (.int (nar .boolean (1 : Int32)))) ⟨by decide, by decide⟩ rfl (g := (mkF m 85 #[.val (.int p1), .val (.int p2), .val (.int (2 : Int32)), .val (.int (0 : Int32)), .val (.ref b1), .val (.ref (w 1)), .val (.ref (w 0))] [(.int (6 : Int32)), (.ref b1), (.int (1 : Int32))])) rfl rfl (hb hby at_85) _ k) ?_
  refine own_step (W' := T4.setTop (mkF m 89 #[.val (.int p1), .val (.int p2), .val (.int (2 : Int32)), .val (.int (0 : Int32)), .val (.ref b1), .val (.ref (w 1)), .val (.ref (w 0))] [])) (fun _ k => XS.icmpNo X4.here hx rfl (hb hby at_86) rfl (by decide) k) ?_
  refine own_step (W' := T4.setTop (mkF m 90 #[.val (.int p1), .val (.int p2), .val (.int (2 : Int32)), .val (.int (0 : Int32)), .val (.ref b1), .val (.ref (w 1)), .val (.ref (w 0))] [(.int (1 : Int32))])) (fun _ k => XS.iconst X4.here hx rfl (hb hby at_89) k) ?_
  refine own_step (W' := T4.setTop (mkF m 94 #[.val (.int p1), .val (.int p2), .val (.int (2 : Int32)), .val (.int (0 : Int32)), .val (.ref b1), .val (.ref (w 1)), .val (.ref (w 0))] [(.int (1 : Int32))])) (fun _ k => XS.goto X4.here hx rfl (pc0 := 90) (pc' := 94) rfl (hb hby at_90) (by decide) (by decide) k) ?_
  exact own_ret X4 Bd.notSynchronized Bd.returns (v := (.int (1 : Int32))) (fun fs hr => retN X4 hx (t := .boolean) Bd.returns (by simp) (hb hby at_94) hr) ⟨rfl, N4⟩ (by decide) (by decide)
set_option maxRecDepth 65536 in
set_option maxHeartbeats 40000000 in
theorem rm2_w1_w2 (l : Launch) (Z : State) (a0 : Array Value) (hw : ∀ d ∈ tables_1, d.before a0 Z = true) (ws : List Jvm.Cond) (w : Nat → Addr) (h0 : Heap) (n0 : Nat) (Z0 : n0 ≤ h0.size) (P : Pins Z h0 w) :
    MetFree l (⟨"com/example/levy/levy/Scope", "grants", "(Lcom/example/levy/levy/Scope;)Z"⟩ : MethodName) (head1 (Jvm.Cond.code (⟨"com/example/levy/levy/Scope", "grants", "(Lcom/example/levy/levy/Scope;)Z"⟩ : MethodName) prog_23_method_5_code 2 (some .boolean) :: ws) ({ frames := 0, cells := 0, slots := 0, locals := 0 } : Room)) (fun a U => a = #[(.ref (w 1)), (.ref (w 2))] ∧ Z.Warmed39 U.vm ∧ U.heap = h0) (fun _ _ _ _ _ => True) (fun _ U o U' => ∃ v L, o = .returned v ∧ own_QK (some (.int (1 : Int32))) h0 n0 v U'.heap L ∧ FrameEnd U o U' L ({ frames := 0, cells := 0, slots := 0, locals := 0 } : Room).cells ({ frames := 0, cells := 0, slots := 0, locals := 0 } : Room).slots) := by
  refine MetFree.of_bodySF (plainFor_of_name pn_com_example_levy_levy_Scope) hisR ?_
  intro p e s m args below meth c s₁ Bd hml0 hP hK
  obtain ⟨rfl, hZ, hh⟩ := hP
  have hx := Bd.exec
  have hby := Bd.bytes
  have hml : c.maxLocals = 2 := hml0
  have hown : s.vm.findClass "com/example/levy/levy/Scope" = some m.cls := findClass_of_methodNamed Bd.named
  have hnm := (name_of_methodNamed Bd.named Bd.method).1
  have X0 : Stand p l e ({ frames := 0, cells := 0, slots := 0, locals := 0 } : Room) s m #[(.ref (w 1)), (.ref (w 2))] below meth c s₁ [] 0 0 := Stand.of_body Bd
  have e0 : s₁.heap = h0 := by rw [← hh, Bd.state]; rfl
  have N0 := Fr.nil n0
  refine own_enter (ef_2_RR m (w 1) (w 2)) ?_
  refine own_step (W' := s₁.setTop (mkF m 1 #[.val (.ref (w 1)), .val (.ref (w 2))] [(.ref (w 1))])) (fun _ k => XS.aloadN X0.here hx rfl (hb hby d2_0) rfl rfl k) ?_
  obtain ⟨T1, X1, e1, st1⟩ := getS2 X0 hx hZ hown (host := "") (Or.inl (hw _ (List.mem_of_getElem? (i := 14) rfl))) Via.refl e0 (pin_S1 P) (g := (mkF m 1 #[.val (.ref (w 1)), .val (.ref (w 2))] [(.ref (w 1))])) rfl (hb hby d2_1)
  refine own_step (W' := T1.setTop (mkF m 4 #[.val (.ref (w 1)), .val (.ref (w 2))] [(.ref (w 1)), (.ref (w 1))])) (fun _ k => st1 _ k) ?_
  refine own_step (W' := T1.setTop (mkF m 12 #[.val (.ref (w 1)), .val (.ref (w 2))] [])) (fun _ k => Jvm.RoadKit.acmp (g := (mkF m 4 #[.val (.ref (w 1)), .val (.ref (w 2))] [(.ref (w 1)), (.ref (w 1))])) X1 hx rfl rfl rfl (pc0 := 4) (pc' := 12) (same := true) rfl (hb hby d2_4) rfl (decide_eq_true rfl) (by decide) (by decide) k) ?_
  refine own_step (W' := T1.setTop (mkF m 13 #[.val (.ref (w 1)), .val (.ref (w 2))] [(.int (1 : Int32))])) (fun _ k => XS.iconst X1.here hx rfl (hb hby d2_12) k) ?_
  refine own_step (W' := T1.setTop (mkF m 17 #[.val (.ref (w 1)), .val (.ref (w 2))] [(.int (1 : Int32))])) (fun _ k => XS.goto X1.here hx rfl (pc0 := 13) (pc' := 17) rfl (hb hby d2_13) (by decide) (by decide) k) ?_
  exact own_ret X1 Bd.notSynchronized Bd.returns (v := (.int (1 : Int32))) (fun fs hr => retN X1 hx (t := .boolean) Bd.returns (by simp) (hb hby d2_17) hr) ⟨rfl, N0, e1⟩ (by decide) (by decide)
set_option maxRecDepth 65536 in
set_option maxHeartbeats 40000000 in
theorem rm0_21 (l : Launch) (Z : State) (a0 : Array Value) (hw : ∀ d ∈ tables_1, d.before a0 Z = true) (ws : List Jvm.Cond) (p1 p2 : Int32) (ha : ((p1 &&& (2147483647 : Int32)) % (3 : Int32)) = (2 : Int32)) (hb' : ((p2 &&& (2147483647 : Int32)) % (3 : Int32)) = (1 : Int32)) (w : Nat → Addr) (h0 : Heap) (n0 : Nat) (Z0 : n0 ≤ h0.size) (P : Pins Z h0 w) :
    MetFree l x (head1 (Jvm.Cond.code x code maxLocals ret :: ws) room_1) (fun a U => a = #[(.int p1), (.int p2)] ∧ Z.Warmed39 U.vm ∧ U.heap = h0) (fun _ _ _ _ _ => True) (fun _ U o U' => ∃ v L, o = .returned v ∧ own_Q0 n0 v U'.heap L ∧ FrameEnd U o U' L room_1.cells room_1.slots) := by
  refine MetFree.of_bodySF (plainFor_of_name pn_com_example_levy_levy_ScopeGrantsPinLaw) hisR ?_
  intro p e s m args below meth c s₁ Bd hml0 hP hK
  obtain ⟨rfl, hZ, hh⟩ := hP
  have hx := Bd.exec
  have hby := Bd.bytes
  have hml : c.maxLocals = 7 := hml0
  have hown : s.vm.findClass "com/example/levy/levy/ScopeGrantsPinLaw" = some m.cls := findClass_of_methodNamed Bd.named
  have hnm := (name_of_methodNamed Bd.named Bd.method).1
  have X0 : Stand p l e room_1 s m #[(.int p1), (.int p2)] below meth c s₁ [] 0 0 := Stand.of_body Bd
  have e0 : s₁.heap = h0 := by rw [← hh, Bd.state]; rfl
  have N0 := Fr.nil n0
  refine own_enter (ef_0_II m p1 p2) ?_
  refine own_step (W' := s₁.setTop (mkF m 1 #[.val (.int p1), .val (.int p2), .unset, .unset, .unset, .unset, .unset] [(.int p1)])) (fun _ k => XS.iloadN X0.here hx rfl (hb hby at_0) rfl k) ?_
  refine own_step (W' := s₁.setTop (mkF m 3 #[.val (.int p1), .val (.int p2), .unset, .unset, .unset, .unset, .unset] [(.int (2147483647 : Int32)), (.int p1)])) (fun _ k => X0.ldcInt hx hown (mvT hZ (hw _ (List.mem_of_getElem? (i := 0) rfl))) (g := (mkF m 1 #[.val (.int p1), .val (.int p2), .unset, .unset, .unset, .unset, .unset] [(.int p1)])) rfl (hb hby at_1) _ k) ?_
  refine own_step (W' := s₁.setTop (mkF m 4 #[.val (.int p1), .val (.int p2), .unset, .unset, .unset, .unset, .unset] [(.int (p1 &&& (2147483647 : Int32)))])) (fun _ k => XS.iand X0.here hx rfl (hb hby at_3) rfl k) ?_
  refine own_step (W' := s₁.setTop (mkF m 5 #[.val (.int p1), .val (.int p2), .unset, .unset, .unset, .unset, .unset] [(.int (3 : Int32)), (.int (p1 &&& (2147483647 : Int32)))])) (fun _ k => XS.iconst X0.here hx rfl (hb hby at_4) k) ?_
  refine own_step (W' := s₁.setTop (mkF m 6 #[.val (.int p1), .val (.int p2), .unset, .unset, .unset, .unset, .unset] [(.int ((p1 &&& (2147483647 : Int32)) % (3 : Int32)))])) (fun _ k => iremM X0 hx rfl (hb hby at_5) rfl (by decide) k) ?_
  rw [ha]
  refine own_step (W' := s₁.setTop (mkF m 7 #[.val (.int p1), .val (.int p2), .val (.int (2 : Int32)), .unset, .unset, .unset, .unset] [])) (fun _ k => XS.istoreN X0.here hx rfl (hb hby at_6) rfl (l' := #[.val (.int p1), .val (.int p2), .val (.int (2 : Int32)), .unset, .unset, .unset, .unset]) rfl k) ?_
  refine own_step (W' := s₁.setTop (mkF m 8 #[.val (.int p1), .val (.int p2), .val (.int (2 : Int32)), .unset, .unset, .unset, .unset] [(.int p2)])) (fun _ k => XS.iloadN X0.here hx rfl (hb hby at_7) rfl k) ?_
  refine own_step (W' := s₁.setTop (mkF m 10 #[.val (.int p1), .val (.int p2), .val (.int (2 : Int32)), .unset, .unset, .unset, .unset] [(.int (2147483647 : Int32)), (.int p2)])) (fun _ k => X0.ldcInt hx hown (mvT hZ (hw _ (List.mem_of_getElem? (i := 0) rfl))) (g := (mkF m 8 #[.val (.int p1), .val (.int p2), .val (.int (2 : Int32)), .unset, .unset, .unset, .unset] [(.int p2)])) rfl (hb hby at_8) _ k) ?_
  refine own_step (W' := s₁.setTop (mkF m 11 #[.val (.int p1), .val (.int p2), .val (.int (2 : Int32)), .unset, .unset, .unset, .unset] [(.int (p2 &&& (2147483647 : Int32)))])) (fun _ k => XS.iand X0.here hx rfl (hb hby at_10) rfl k) ?_
  refine own_step (W' := s₁.setTop (mkF m 12 #[.val (.int p1), .val (.int p2), .val (.int (2 : Int32)), .unset, .unset, .unset, .unset] [(.int (3 : Int32)), (.int (p2 &&& (2147483647 : Int32)))])) (fun _ k => XS.iconst X0.here hx rfl (hb hby at_11) k) ?_
  refine own_step (W' := s₁.setTop (mkF m 13 #[.val (.int p1), .val (.int p2), .val (.int (2 : Int32)), .unset, .unset, .unset, .unset] [(.int ((p2 &&& (2147483647 : Int32)) % (3 : Int32)))])) (fun _ k => iremM X0 hx rfl (hb hby at_12) rfl (by decide) k) ?_
  rw [hb']
  refine own_step (W' := s₁.setTop (mkF m 14 #[.val (.int p1), .val (.int p2), .val (.int (2 : Int32)), .val (.int (1 : Int32)), .unset, .unset, .unset] [])) (fun _ k => XS.istoreN X0.here hx rfl (hb hby at_13) rfl (l' := #[.val (.int p1), .val (.int p2), .val (.int (2 : Int32)), .val (.int (1 : Int32)), .unset, .unset, .unset]) rfl k) ?_
  refine own_fill p1 p2 (2 : Int32) (1 : Int32) X0 hx hZ hw hby hml hown e0 N0 Z0 P ?_
  intro T1 h1 L1 k1 b1 X1 e1 E1 N1 V1
  have P1 : Pins Z h1 w := P.ext E1
  have Z1 : n0 ≤ h1.size := Nat.le_trans Z0 E1.1
  refine own_step (W' := T1.setTop (mkF m 59 #[.val (.int p1), .val (.int p2), .val (.int (2 : Int32)), .val (.int (1 : Int32)), .val (.ref b1), .unset, .unset] [])) (fun _ k => XS.astore X1.here hx rfl (hb hby at_57) rfl rfl (l' := #[.val (.int p1), .val (.int p2), .val (.int (2 : Int32)), .val (.int (1 : Int32)), .val (.ref b1), .unset, .unset]) rfl k) ?_
  refine own_step (W' := T1.setTop (mkF m 60 #[.val (.int p1), .val (.int p2), .val (.int (2 : Int32)), .val (.int (1 : Int32)), .val (.ref b1), .unset, .unset] [(.int (2 : Int32))])) (fun _ k => XS.iloadN X1.here hx rfl (hb hby at_59) rfl k) ?_
  obtain ⟨_, _, ⟨T2, L2, k2, n2⟩, -, X2, ⟨Lc2, hQ2, l2, y2, z2⟩, st2⟩ := Jvm.LawKit.callS X1 hx (y := (⟨"com/example/levy/levy/ScopeGrantsPinLaw", "pick", "(I)Lcom/example/levy/levy/Scope;"⟩ : MethodName)) hown (mvT hZ (hw _ (List.mem_of_getElem? (i := 2) rfl))) (mvT hZ (hw _ (List.mem_of_getElem? (i := 3) rfl))) (mvT hZ (hw _ (List.mem_of_getElem? (i := 4) rfl))) (mvT hZ (hw _ (List.mem_of_getElem? (i := 5) rfl))) (by decide) (backOf (W := 0) (rm1_2 l Z a0 hw [] w h1 n0 Z1 P1) hZ (hw _ (List.mem_of_getElem? (i := 5) rfl)) (hw _ (List.mem_of_getElem? (i := 4) rfl)) (by decide) (by decide)) (g := (mkF m 60 #[.val (.int p1), .val (.int p2), .val (.int (2 : Int32)), .val (.int (1 : Int32)), .val (.ref b1), .unset, .unset] [(.int (2 : Int32))])) rfl (by rw [hml]; rfl) (argsL := [(.int (2 : Int32))]) (rest := []) (lenOf pd_0 rfl) rfl (by show 2 * 0 + _ ≤ _; exact Nat.le_of_eq rfl) (hb hby at_60) (fun _ _ => ⟨rfl, e1, (by decide : 1 + 0 ≤ _), (by decide : 9 + 0 ≤ _)⟩)
  dsimp only [Pt.U, Pt.locs, Pt.cells, Pt.slots] at X2 l2 y2 z2 st2 hQ2
  subst l2 y2 z2
  obtain ⟨rfl, N2q, e2⟩ := hQ2
  have N2 := Fr.app N1 N2q
  refine own_step (W' := T2.setTop (mkF m 63 #[.val (.int p1), .val (.int p2), .val (.int (2 : Int32)), .val (.int (1 : Int32)), .val (.ref b1), .unset, .unset] [(.ref (w 1))])) (fun _ k => st2 _ k) ?_
  refine own_step (W' := T2.setTop (mkF m 65 #[.val (.int p1), .val (.int p2), .val (.int (2 : Int32)), .val (.int (1 : Int32)), .val (.ref b1), .val (.ref (w 1)), .unset] [])) (fun _ k => XS.astore X2.here hx rfl (hb hby at_63) rfl rfl (l' := #[.val (.int p1), .val (.int p2), .val (.int (2 : Int32)), .val (.int (1 : Int32)), .val (.ref b1), .val (.ref (w 1)), .unset]) rfl k) ?_
  refine own_step (W' := T2.setTop (mkF m 66 #[.val (.int p1), .val (.int p2), .val (.int (2 : Int32)), .val (.int (1 : Int32)), .val (.ref b1), .val (.ref (w 1)), .unset] [(.int (1 : Int32))])) (fun _ k => XS.iloadN X2.here hx rfl (hb hby at_65) rfl k) ?_
  obtain ⟨_, _, ⟨T3, L3, k3, n3⟩, -, X3, ⟨Lc3, hQ3, l3, y3, z3⟩, st3⟩ := Jvm.LawKit.callS X2 hx (y := (⟨"com/example/levy/levy/ScopeGrantsPinLaw", "pick", "(I)Lcom/example/levy/levy/Scope;"⟩ : MethodName)) hown (mvT hZ (hw _ (List.mem_of_getElem? (i := 2) rfl))) (mvT hZ (hw _ (List.mem_of_getElem? (i := 3) rfl))) (mvT hZ (hw _ (List.mem_of_getElem? (i := 4) rfl))) (mvT hZ (hw _ (List.mem_of_getElem? (i := 5) rfl))) (by decide) (backOf (W := 0) (rm1_1 l Z a0 hw [] w h1 n0 Z1 P1) hZ (hw _ (List.mem_of_getElem? (i := 5) rfl)) (hw _ (List.mem_of_getElem? (i := 4) rfl)) (by decide) (by decide)) (g := (mkF m 66 #[.val (.int p1), .val (.int p2), .val (.int (2 : Int32)), .val (.int (1 : Int32)), .val (.ref b1), .val (.ref (w 1)), .unset] [(.int (1 : Int32))])) rfl (by rw [hml]; rfl) (argsL := [(.int (1 : Int32))]) (rest := []) (lenOf pd_0 rfl) rfl (by show 2 * 0 + _ ≤ _; exact Nat.le_of_eq rfl) (hb hby at_66) (fun _ _ => ⟨rfl, e2, (by decide : 1 + 0 ≤ _), (by decide : 9 + 0 ≤ _)⟩)
  dsimp only [Pt.U, Pt.locs, Pt.cells, Pt.slots] at X3 l3 y3 z3 st3 hQ3
  subst l3 y3 z3
  obtain ⟨rfl, N3q, e3⟩ := hQ3
  have N3 := Fr.app N2 N3q
  refine own_step (W' := T3.setTop (mkF m 69 #[.val (.int p1), .val (.int p2), .val (.int (2 : Int32)), .val (.int (1 : Int32)), .val (.ref b1), .val (.ref (w 1)), .unset] [(.ref (w 2))])) (fun _ k => st3 _ k) ?_
  refine own_step (W' := T3.setTop (mkF m 71 #[.val (.int p1), .val (.int p2), .val (.int (2 : Int32)), .val (.int (1 : Int32)), .val (.ref b1), .val (.ref (w 1)), .val (.ref (w 2))] [])) (fun _ k => XS.astore X3.here hx rfl (hb hby at_69) rfl rfl (l' := #[.val (.int p1), .val (.int p2), .val (.int (2 : Int32)), .val (.int (1 : Int32)), .val (.ref b1), .val (.ref (w 1)), .val (.ref (w 2))]) rfl k) ?_
  refine own_step (W' := T3.setTop (mkF m 73 #[.val (.int p1), .val (.int p2), .val (.int (2 : Int32)), .val (.int (1 : Int32)), .val (.ref b1), .val (.ref (w 1)), .val (.ref (w 2))] [(.ref (w 1))])) (fun _ k => XS.aload X3.here hx rfl (hb hby at_71) rfl rfl k) ?_
  refine own_step (W' := T3.setTop (mkF m 75 #[.val (.int p1), .val (.int p2), .val (.int (2 : Int32)), .val (.int (1 : Int32)), .val (.ref b1), .val (.ref (w 1)), .val (.ref (w 2))] [(.ref (w 2)), (.ref (w 1))])) (fun _ k => XS.aload X3.here hx rfl (hb hby at_73) rfl rfl k) ?_
  obtain ⟨cq4, kq4, q4a, q4b, q4c⟩ := isOf hZ e3 (pin_E1 P1)
  obtain ⟨_, _, ⟨T4, L4, k4, n4⟩, -, X4, ⟨Lc4, hQ4, l4, y4, z4⟩, st4⟩ := X3.virtualBack hx (y := (⟨"com/example/levy/levy/Scope", "grants", "(Lcom/example/levy/levy/Scope;)Z"⟩ : MethodName)) (z := (⟨"com/example/levy/levy/Scope", "grants", "(Lcom/example/levy/levy/Scope;)Z"⟩ : MethodName)) hown (mvT hZ (hw _ (List.mem_of_getElem? (i := 9) rfl))) (mvT hZ (hw _ (List.mem_of_getElem? (i := 10) rfl))) (notFace_of_selects (args := #[]) (mvT hZ (hw _ (List.mem_of_getElem? (i := 12) rfl)))) (mvT hZ (hw _ (List.mem_of_getElem? (i := 12) rfl))) (mvT hZ (hw _ (List.mem_of_getElem? (i := 11) rfl))) (by decide) (backOf (W := 0) (rm2_w1_w2 l Z a0 hw [] w h1 n0 Z1 P1) hZ (hw _ (List.mem_of_getElem? (i := 13) rfl)) (hw _ (List.mem_of_getElem? (i := 7) rfl)) (by decide) (by decide)) q4a q4c (g := (mkF m 75 #[.val (.int p1), .val (.int p2), .val (.int (2 : Int32)), .val (.int (1 : Int32)), .val (.ref b1), .val (.ref (w 1)), .val (.ref (w 2))] [(.ref (w 2)), (.ref (w 1))])) rfl (by rw [hml]; rfl) (Steps.refl _) (argsL := [(.ref (w 2))]) (rest := []) (lenOf pd_1 rfl) rfl (by show 2 * 0 + _ ≤ _; exact Nat.le_of_eq rfl) (hb hby at_75) (fun _ _ => ⟨rfl, e3, (by decide : 1 + 0 ≤ _), (by decide : 9 + 0 ≤ _)⟩)
  dsimp only [Pt.U, Pt.locs, Pt.cells, Pt.slots] at X4 l4 y4 z4 st4 hQ4
  subst l4 y4 z4
  obtain ⟨rfl, N4q, e4⟩ := hQ4
  have N4 := Fr.app N3 N4q
  refine own_step (W' := T4.setTop (mkF m 78 #[.val (.int p1), .val (.int p2), .val (.int (2 : Int32)), .val (.int (1 : Int32)), .val (.ref b1), .val (.ref (w 1)), .val (.ref (w 2))] [(.int (1 : Int32))])) (fun _ k => st4.trans k) ?_
  refine own_step (W' := T4.setTop (mkF m 80 #[.val (.int p1), .val (.int p2), .val (.int (2 : Int32)), .val (.int (1 : Int32)), .val (.ref b1), .val (.ref (w 1)), .val (.ref (w 2))] [(.ref b1), (.int (1 : Int32))])) (fun _ k => XS.aload X4.here hx rfl (hb hby at_78) rfl rfl k) ?_
  refine own_step (W' := T4.setTop (mkF m 81 #[.val (.int p1), .val (.int p2), .val (.int (2 : Int32)), .val (.int (1 : Int32)), .val (.ref b1), .val (.ref (w 1)), .val (.ref (w 2))] [(.int (2 : Int32)), (.ref b1), (.int (1 : Int32))])) (fun _ k => XS.iloadN X4.here hx rfl (hb hby at_80) rfl k) ?_
  refine own_step (W' := T4.setTop (mkF m 82 #[.val (.int p1), .val (.int p2), .val (.int (2 : Int32)), .val (.int (1 : Int32)), .val (.ref b1), .val (.ref (w 1)), .val (.ref (w 2))] [(.int (3 : Int32)), (.int (2 : Int32)), (.ref b1), (.int (1 : Int32))])) (fun _ k => XS.iconst X4.here hx rfl (hb hby at_81) k) ?_
  refine own_step (W' := T4.setTop (mkF m 83 #[.val (.int p1), .val (.int p2), .val (.int (2 : Int32)), .val (.int (1 : Int32)), .val (.ref b1), .val (.ref (w 1)), .val (.ref (w 2))] [(.int ((2 : Int32) * (3 : Int32))), (.ref b1), (.int (1 : Int32))])) (fun _ k => XS.imul X4.here hx rfl (hb hby at_82) rfl k) ?_
  rw [show ((2 : Int32) * (3 : Int32)) = (6 : Int32) from by decide]
  refine own_step (W' := T4.setTop (mkF m 84 #[.val (.int p1), .val (.int p2), .val (.int (2 : Int32)), .val (.int (1 : Int32)), .val (.ref b1), .val (.ref (w 1)), .val (.ref (w 2))] [(.int (1 : Int32)), (.int (6 : Int32)), (.ref b1), (.int (1 : Int32))])) (fun _ k => XS.iloadN X4.here hx rfl (hb hby at_83) rfl k) ?_
  refine own_step (W' := T4.setTop (mkF m 85 #[.val (.int p1), .val (.int p2), .val (.int (2 : Int32)), .val (.int (1 : Int32)), .val (.ref b1), .val (.ref (w 1)), .val (.ref (w 2))] [(.int ((6 : Int32) + (1 : Int32))), (.ref b1), (.int (1 : Int32))])) (fun _ k => XS.iadd X4.here hx rfl (hb hby at_84) rfl k) ?_
  rw [show ((6 : Int32) + (1 : Int32)) = (7 : Int32) from by decide]
  refine own_step (W' := T4.setTop (mkF m 86 #[.val (.int p1), .val (.int p2), .val (.int (2 : Int32)), .val (.int (1 : Int32)), .val (.ref b1), .val (.ref (w 1)), .val (.ref (w 2))] [(.int (nar .boolean (1 : Int32))), (.int (1 : Int32))])) (fun _ k => own_ldZ X4 hx hZ e4 V1 (j := (7 : Int32)) (v := (.int (nar .boolean (1 : Int32)))) ⟨by decide, by decide⟩ rfl (g := (mkF m 85 #[.val (.int p1), .val (.int p2), .val (.int (2 : Int32)), .val (.int (1 : Int32)), .val (.ref b1), .val (.ref (w 1)), .val (.ref (w 2))] [(.int (7 : Int32)), (.ref b1), (.int (1 : Int32))])) rfl rfl (hb hby at_85) _ k) ?_
  refine own_step (W' := T4.setTop (mkF m 89 #[.val (.int p1), .val (.int p2), .val (.int (2 : Int32)), .val (.int (1 : Int32)), .val (.ref b1), .val (.ref (w 1)), .val (.ref (w 2))] [])) (fun _ k => XS.icmpNo X4.here hx rfl (hb hby at_86) rfl (by decide) k) ?_
  refine own_step (W' := T4.setTop (mkF m 90 #[.val (.int p1), .val (.int p2), .val (.int (2 : Int32)), .val (.int (1 : Int32)), .val (.ref b1), .val (.ref (w 1)), .val (.ref (w 2))] [(.int (1 : Int32))])) (fun _ k => XS.iconst X4.here hx rfl (hb hby at_89) k) ?_
  refine own_step (W' := T4.setTop (mkF m 94 #[.val (.int p1), .val (.int p2), .val (.int (2 : Int32)), .val (.int (1 : Int32)), .val (.ref b1), .val (.ref (w 1)), .val (.ref (w 2))] [(.int (1 : Int32))])) (fun _ k => XS.goto X4.here hx rfl (pc0 := 90) (pc' := 94) rfl (hb hby at_90) (by decide) (by decide) k) ?_
  exact own_ret X4 Bd.notSynchronized Bd.returns (v := (.int (1 : Int32))) (fun fs hr => retN X4 hx (t := .boolean) Bd.returns (by simp) (hb hby at_94) hr) ⟨rfl, N4⟩ (by decide) (by decide)
set_option maxRecDepth 65536 in
set_option maxHeartbeats 40000000 in
theorem rm2_w1_w1 (l : Launch) (Z : State) (a0 : Array Value) (hw : ∀ d ∈ tables_1, d.before a0 Z = true) (ws : List Jvm.Cond) (w : Nat → Addr) (h0 : Heap) (n0 : Nat) (Z0 : n0 ≤ h0.size) (P : Pins Z h0 w) :
    MetFree l (⟨"com/example/levy/levy/Scope", "grants", "(Lcom/example/levy/levy/Scope;)Z"⟩ : MethodName) (head1 (Jvm.Cond.code (⟨"com/example/levy/levy/Scope", "grants", "(Lcom/example/levy/levy/Scope;)Z"⟩ : MethodName) prog_23_method_5_code 2 (some .boolean) :: ws) ({ frames := 0, cells := 0, slots := 0, locals := 0 } : Room)) (fun a U => a = #[(.ref (w 1)), (.ref (w 1))] ∧ Z.Warmed39 U.vm ∧ U.heap = h0) (fun _ _ _ _ _ => True) (fun _ U o U' => ∃ v L, o = .returned v ∧ own_QK (some (.int (1 : Int32))) h0 n0 v U'.heap L ∧ FrameEnd U o U' L ({ frames := 0, cells := 0, slots := 0, locals := 0 } : Room).cells ({ frames := 0, cells := 0, slots := 0, locals := 0 } : Room).slots) := by
  refine MetFree.of_bodySF (plainFor_of_name pn_com_example_levy_levy_Scope) hisR ?_
  intro p e s m args below meth c s₁ Bd hml0 hP hK
  obtain ⟨rfl, hZ, hh⟩ := hP
  have hx := Bd.exec
  have hby := Bd.bytes
  have hml : c.maxLocals = 2 := hml0
  have hown : s.vm.findClass "com/example/levy/levy/Scope" = some m.cls := findClass_of_methodNamed Bd.named
  have hnm := (name_of_methodNamed Bd.named Bd.method).1
  have X0 : Stand p l e ({ frames := 0, cells := 0, slots := 0, locals := 0 } : Room) s m #[(.ref (w 1)), (.ref (w 1))] below meth c s₁ [] 0 0 := Stand.of_body Bd
  have e0 : s₁.heap = h0 := by rw [← hh, Bd.state]; rfl
  have N0 := Fr.nil n0
  refine own_enter (ef_2_RR m (w 1) (w 1)) ?_
  refine own_step (W' := s₁.setTop (mkF m 1 #[.val (.ref (w 1)), .val (.ref (w 1))] [(.ref (w 1))])) (fun _ k => XS.aloadN X0.here hx rfl (hb hby d2_0) rfl rfl k) ?_
  obtain ⟨T1, X1, e1, st1⟩ := getS2 X0 hx hZ hown (host := "") (Or.inl (hw _ (List.mem_of_getElem? (i := 14) rfl))) Via.refl e0 (pin_S1 P) (g := (mkF m 1 #[.val (.ref (w 1)), .val (.ref (w 1))] [(.ref (w 1))])) rfl (hb hby d2_1)
  refine own_step (W' := T1.setTop (mkF m 4 #[.val (.ref (w 1)), .val (.ref (w 1))] [(.ref (w 1)), (.ref (w 1))])) (fun _ k => st1 _ k) ?_
  refine own_step (W' := T1.setTop (mkF m 12 #[.val (.ref (w 1)), .val (.ref (w 1))] [])) (fun _ k => Jvm.RoadKit.acmp (g := (mkF m 4 #[.val (.ref (w 1)), .val (.ref (w 1))] [(.ref (w 1)), (.ref (w 1))])) X1 hx rfl rfl rfl (pc0 := 4) (pc' := 12) (same := true) rfl (hb hby d2_4) rfl (decide_eq_true rfl) (by decide) (by decide) k) ?_
  refine own_step (W' := T1.setTop (mkF m 13 #[.val (.ref (w 1)), .val (.ref (w 1))] [(.int (1 : Int32))])) (fun _ k => XS.iconst X1.here hx rfl (hb hby d2_12) k) ?_
  refine own_step (W' := T1.setTop (mkF m 17 #[.val (.ref (w 1)), .val (.ref (w 1))] [(.int (1 : Int32))])) (fun _ k => XS.goto X1.here hx rfl (pc0 := 13) (pc' := 17) rfl (hb hby d2_13) (by decide) (by decide) k) ?_
  exact own_ret X1 Bd.notSynchronized Bd.returns (v := (.int (1 : Int32))) (fun fs hr => retN X1 hx (t := .boolean) Bd.returns (by simp) (hb hby d2_17) hr) ⟨rfl, N0, e1⟩ (by decide) (by decide)
set_option maxRecDepth 65536 in
set_option maxHeartbeats 40000000 in
theorem rm0_22 (l : Launch) (Z : State) (a0 : Array Value) (hw : ∀ d ∈ tables_1, d.before a0 Z = true) (ws : List Jvm.Cond) (p1 p2 : Int32) (ha : ((p1 &&& (2147483647 : Int32)) % (3 : Int32)) = (2 : Int32)) (hb' : ((p2 &&& (2147483647 : Int32)) % (3 : Int32)) = (2 : Int32)) (w : Nat → Addr) (h0 : Heap) (n0 : Nat) (Z0 : n0 ≤ h0.size) (P : Pins Z h0 w) :
    MetFree l x (head1 (Jvm.Cond.code x code maxLocals ret :: ws) room_1) (fun a U => a = #[(.int p1), (.int p2)] ∧ Z.Warmed39 U.vm ∧ U.heap = h0) (fun _ _ _ _ _ => True) (fun _ U o U' => ∃ v L, o = .returned v ∧ own_Q0 n0 v U'.heap L ∧ FrameEnd U o U' L room_1.cells room_1.slots) := by
  refine MetFree.of_bodySF (plainFor_of_name pn_com_example_levy_levy_ScopeGrantsPinLaw) hisR ?_
  intro p e s m args below meth c s₁ Bd hml0 hP hK
  obtain ⟨rfl, hZ, hh⟩ := hP
  have hx := Bd.exec
  have hby := Bd.bytes
  have hml : c.maxLocals = 7 := hml0
  have hown : s.vm.findClass "com/example/levy/levy/ScopeGrantsPinLaw" = some m.cls := findClass_of_methodNamed Bd.named
  have hnm := (name_of_methodNamed Bd.named Bd.method).1
  have X0 : Stand p l e room_1 s m #[(.int p1), (.int p2)] below meth c s₁ [] 0 0 := Stand.of_body Bd
  have e0 : s₁.heap = h0 := by rw [← hh, Bd.state]; rfl
  have N0 := Fr.nil n0
  refine own_enter (ef_0_II m p1 p2) ?_
  refine own_step (W' := s₁.setTop (mkF m 1 #[.val (.int p1), .val (.int p2), .unset, .unset, .unset, .unset, .unset] [(.int p1)])) (fun _ k => XS.iloadN X0.here hx rfl (hb hby at_0) rfl k) ?_
  refine own_step (W' := s₁.setTop (mkF m 3 #[.val (.int p1), .val (.int p2), .unset, .unset, .unset, .unset, .unset] [(.int (2147483647 : Int32)), (.int p1)])) (fun _ k => X0.ldcInt hx hown (mvT hZ (hw _ (List.mem_of_getElem? (i := 0) rfl))) (g := (mkF m 1 #[.val (.int p1), .val (.int p2), .unset, .unset, .unset, .unset, .unset] [(.int p1)])) rfl (hb hby at_1) _ k) ?_
  refine own_step (W' := s₁.setTop (mkF m 4 #[.val (.int p1), .val (.int p2), .unset, .unset, .unset, .unset, .unset] [(.int (p1 &&& (2147483647 : Int32)))])) (fun _ k => XS.iand X0.here hx rfl (hb hby at_3) rfl k) ?_
  refine own_step (W' := s₁.setTop (mkF m 5 #[.val (.int p1), .val (.int p2), .unset, .unset, .unset, .unset, .unset] [(.int (3 : Int32)), (.int (p1 &&& (2147483647 : Int32)))])) (fun _ k => XS.iconst X0.here hx rfl (hb hby at_4) k) ?_
  refine own_step (W' := s₁.setTop (mkF m 6 #[.val (.int p1), .val (.int p2), .unset, .unset, .unset, .unset, .unset] [(.int ((p1 &&& (2147483647 : Int32)) % (3 : Int32)))])) (fun _ k => iremM X0 hx rfl (hb hby at_5) rfl (by decide) k) ?_
  rw [ha]
  refine own_step (W' := s₁.setTop (mkF m 7 #[.val (.int p1), .val (.int p2), .val (.int (2 : Int32)), .unset, .unset, .unset, .unset] [])) (fun _ k => XS.istoreN X0.here hx rfl (hb hby at_6) rfl (l' := #[.val (.int p1), .val (.int p2), .val (.int (2 : Int32)), .unset, .unset, .unset, .unset]) rfl k) ?_
  refine own_step (W' := s₁.setTop (mkF m 8 #[.val (.int p1), .val (.int p2), .val (.int (2 : Int32)), .unset, .unset, .unset, .unset] [(.int p2)])) (fun _ k => XS.iloadN X0.here hx rfl (hb hby at_7) rfl k) ?_
  refine own_step (W' := s₁.setTop (mkF m 10 #[.val (.int p1), .val (.int p2), .val (.int (2 : Int32)), .unset, .unset, .unset, .unset] [(.int (2147483647 : Int32)), (.int p2)])) (fun _ k => X0.ldcInt hx hown (mvT hZ (hw _ (List.mem_of_getElem? (i := 0) rfl))) (g := (mkF m 8 #[.val (.int p1), .val (.int p2), .val (.int (2 : Int32)), .unset, .unset, .unset, .unset] [(.int p2)])) rfl (hb hby at_8) _ k) ?_
  refine own_step (W' := s₁.setTop (mkF m 11 #[.val (.int p1), .val (.int p2), .val (.int (2 : Int32)), .unset, .unset, .unset, .unset] [(.int (p2 &&& (2147483647 : Int32)))])) (fun _ k => XS.iand X0.here hx rfl (hb hby at_10) rfl k) ?_
  refine own_step (W' := s₁.setTop (mkF m 12 #[.val (.int p1), .val (.int p2), .val (.int (2 : Int32)), .unset, .unset, .unset, .unset] [(.int (3 : Int32)), (.int (p2 &&& (2147483647 : Int32)))])) (fun _ k => XS.iconst X0.here hx rfl (hb hby at_11) k) ?_
  refine own_step (W' := s₁.setTop (mkF m 13 #[.val (.int p1), .val (.int p2), .val (.int (2 : Int32)), .unset, .unset, .unset, .unset] [(.int ((p2 &&& (2147483647 : Int32)) % (3 : Int32)))])) (fun _ k => iremM X0 hx rfl (hb hby at_12) rfl (by decide) k) ?_
  rw [hb']
  refine own_step (W' := s₁.setTop (mkF m 14 #[.val (.int p1), .val (.int p2), .val (.int (2 : Int32)), .val (.int (2 : Int32)), .unset, .unset, .unset] [])) (fun _ k => XS.istoreN X0.here hx rfl (hb hby at_13) rfl (l' := #[.val (.int p1), .val (.int p2), .val (.int (2 : Int32)), .val (.int (2 : Int32)), .unset, .unset, .unset]) rfl k) ?_
  refine own_fill p1 p2 (2 : Int32) (2 : Int32) X0 hx hZ hw hby hml hown e0 N0 Z0 P ?_
  intro T1 h1 L1 k1 b1 X1 e1 E1 N1 V1
  have P1 : Pins Z h1 w := P.ext E1
  have Z1 : n0 ≤ h1.size := Nat.le_trans Z0 E1.1
  refine own_step (W' := T1.setTop (mkF m 59 #[.val (.int p1), .val (.int p2), .val (.int (2 : Int32)), .val (.int (2 : Int32)), .val (.ref b1), .unset, .unset] [])) (fun _ k => XS.astore X1.here hx rfl (hb hby at_57) rfl rfl (l' := #[.val (.int p1), .val (.int p2), .val (.int (2 : Int32)), .val (.int (2 : Int32)), .val (.ref b1), .unset, .unset]) rfl k) ?_
  refine own_step (W' := T1.setTop (mkF m 60 #[.val (.int p1), .val (.int p2), .val (.int (2 : Int32)), .val (.int (2 : Int32)), .val (.ref b1), .unset, .unset] [(.int (2 : Int32))])) (fun _ k => XS.iloadN X1.here hx rfl (hb hby at_59) rfl k) ?_
  obtain ⟨_, _, ⟨T2, L2, k2, n2⟩, -, X2, ⟨Lc2, hQ2, l2, y2, z2⟩, st2⟩ := Jvm.LawKit.callS X1 hx (y := (⟨"com/example/levy/levy/ScopeGrantsPinLaw", "pick", "(I)Lcom/example/levy/levy/Scope;"⟩ : MethodName)) hown (mvT hZ (hw _ (List.mem_of_getElem? (i := 2) rfl))) (mvT hZ (hw _ (List.mem_of_getElem? (i := 3) rfl))) (mvT hZ (hw _ (List.mem_of_getElem? (i := 4) rfl))) (mvT hZ (hw _ (List.mem_of_getElem? (i := 5) rfl))) (by decide) (backOf (W := 0) (rm1_2 l Z a0 hw [] w h1 n0 Z1 P1) hZ (hw _ (List.mem_of_getElem? (i := 5) rfl)) (hw _ (List.mem_of_getElem? (i := 4) rfl)) (by decide) (by decide)) (g := (mkF m 60 #[.val (.int p1), .val (.int p2), .val (.int (2 : Int32)), .val (.int (2 : Int32)), .val (.ref b1), .unset, .unset] [(.int (2 : Int32))])) rfl (by rw [hml]; rfl) (argsL := [(.int (2 : Int32))]) (rest := []) (lenOf pd_0 rfl) rfl (by show 2 * 0 + _ ≤ _; exact Nat.le_of_eq rfl) (hb hby at_60) (fun _ _ => ⟨rfl, e1, (by decide : 1 + 0 ≤ _), (by decide : 9 + 0 ≤ _)⟩)
  dsimp only [Pt.U, Pt.locs, Pt.cells, Pt.slots] at X2 l2 y2 z2 st2 hQ2
  subst l2 y2 z2
  obtain ⟨rfl, N2q, e2⟩ := hQ2
  have N2 := Fr.app N1 N2q
  refine own_step (W' := T2.setTop (mkF m 63 #[.val (.int p1), .val (.int p2), .val (.int (2 : Int32)), .val (.int (2 : Int32)), .val (.ref b1), .unset, .unset] [(.ref (w 1))])) (fun _ k => st2 _ k) ?_
  refine own_step (W' := T2.setTop (mkF m 65 #[.val (.int p1), .val (.int p2), .val (.int (2 : Int32)), .val (.int (2 : Int32)), .val (.ref b1), .val (.ref (w 1)), .unset] [])) (fun _ k => XS.astore X2.here hx rfl (hb hby at_63) rfl rfl (l' := #[.val (.int p1), .val (.int p2), .val (.int (2 : Int32)), .val (.int (2 : Int32)), .val (.ref b1), .val (.ref (w 1)), .unset]) rfl k) ?_
  refine own_step (W' := T2.setTop (mkF m 66 #[.val (.int p1), .val (.int p2), .val (.int (2 : Int32)), .val (.int (2 : Int32)), .val (.ref b1), .val (.ref (w 1)), .unset] [(.int (2 : Int32))])) (fun _ k => XS.iloadN X2.here hx rfl (hb hby at_65) rfl k) ?_
  obtain ⟨_, _, ⟨T3, L3, k3, n3⟩, -, X3, ⟨Lc3, hQ3, l3, y3, z3⟩, st3⟩ := Jvm.LawKit.callS X2 hx (y := (⟨"com/example/levy/levy/ScopeGrantsPinLaw", "pick", "(I)Lcom/example/levy/levy/Scope;"⟩ : MethodName)) hown (mvT hZ (hw _ (List.mem_of_getElem? (i := 2) rfl))) (mvT hZ (hw _ (List.mem_of_getElem? (i := 3) rfl))) (mvT hZ (hw _ (List.mem_of_getElem? (i := 4) rfl))) (mvT hZ (hw _ (List.mem_of_getElem? (i := 5) rfl))) (by decide) (backOf (W := 0) (rm1_2 l Z a0 hw [] w h1 n0 Z1 P1) hZ (hw _ (List.mem_of_getElem? (i := 5) rfl)) (hw _ (List.mem_of_getElem? (i := 4) rfl)) (by decide) (by decide)) (g := (mkF m 66 #[.val (.int p1), .val (.int p2), .val (.int (2 : Int32)), .val (.int (2 : Int32)), .val (.ref b1), .val (.ref (w 1)), .unset] [(.int (2 : Int32))])) rfl (by rw [hml]; rfl) (argsL := [(.int (2 : Int32))]) (rest := []) (lenOf pd_0 rfl) rfl (by show 2 * 0 + _ ≤ _; exact Nat.le_of_eq rfl) (hb hby at_66) (fun _ _ => ⟨rfl, e2, (by decide : 1 + 0 ≤ _), (by decide : 9 + 0 ≤ _)⟩)
  dsimp only [Pt.U, Pt.locs, Pt.cells, Pt.slots] at X3 l3 y3 z3 st3 hQ3
  subst l3 y3 z3
  obtain ⟨rfl, N3q, e3⟩ := hQ3
  have N3 := Fr.app N2 N3q
  refine own_step (W' := T3.setTop (mkF m 69 #[.val (.int p1), .val (.int p2), .val (.int (2 : Int32)), .val (.int (2 : Int32)), .val (.ref b1), .val (.ref (w 1)), .unset] [(.ref (w 1))])) (fun _ k => st3 _ k) ?_
  refine own_step (W' := T3.setTop (mkF m 71 #[.val (.int p1), .val (.int p2), .val (.int (2 : Int32)), .val (.int (2 : Int32)), .val (.ref b1), .val (.ref (w 1)), .val (.ref (w 1))] [])) (fun _ k => XS.astore X3.here hx rfl (hb hby at_69) rfl rfl (l' := #[.val (.int p1), .val (.int p2), .val (.int (2 : Int32)), .val (.int (2 : Int32)), .val (.ref b1), .val (.ref (w 1)), .val (.ref (w 1))]) rfl k) ?_
  refine own_step (W' := T3.setTop (mkF m 73 #[.val (.int p1), .val (.int p2), .val (.int (2 : Int32)), .val (.int (2 : Int32)), .val (.ref b1), .val (.ref (w 1)), .val (.ref (w 1))] [(.ref (w 1))])) (fun _ k => XS.aload X3.here hx rfl (hb hby at_71) rfl rfl k) ?_
  refine own_step (W' := T3.setTop (mkF m 75 #[.val (.int p1), .val (.int p2), .val (.int (2 : Int32)), .val (.int (2 : Int32)), .val (.ref b1), .val (.ref (w 1)), .val (.ref (w 1))] [(.ref (w 1)), (.ref (w 1))])) (fun _ k => XS.aload X3.here hx rfl (hb hby at_73) rfl rfl k) ?_
  obtain ⟨cq4, kq4, q4a, q4b, q4c⟩ := isOf hZ e3 (pin_E1 P1)
  obtain ⟨_, _, ⟨T4, L4, k4, n4⟩, -, X4, ⟨Lc4, hQ4, l4, y4, z4⟩, st4⟩ := X3.virtualBack hx (y := (⟨"com/example/levy/levy/Scope", "grants", "(Lcom/example/levy/levy/Scope;)Z"⟩ : MethodName)) (z := (⟨"com/example/levy/levy/Scope", "grants", "(Lcom/example/levy/levy/Scope;)Z"⟩ : MethodName)) hown (mvT hZ (hw _ (List.mem_of_getElem? (i := 9) rfl))) (mvT hZ (hw _ (List.mem_of_getElem? (i := 10) rfl))) (notFace_of_selects (args := #[]) (mvT hZ (hw _ (List.mem_of_getElem? (i := 12) rfl)))) (mvT hZ (hw _ (List.mem_of_getElem? (i := 12) rfl))) (mvT hZ (hw _ (List.mem_of_getElem? (i := 11) rfl))) (by decide) (backOf (W := 0) (rm2_w1_w1 l Z a0 hw [] w h1 n0 Z1 P1) hZ (hw _ (List.mem_of_getElem? (i := 13) rfl)) (hw _ (List.mem_of_getElem? (i := 7) rfl)) (by decide) (by decide)) q4a q4c (g := (mkF m 75 #[.val (.int p1), .val (.int p2), .val (.int (2 : Int32)), .val (.int (2 : Int32)), .val (.ref b1), .val (.ref (w 1)), .val (.ref (w 1))] [(.ref (w 1)), (.ref (w 1))])) rfl (by rw [hml]; rfl) (Steps.refl _) (argsL := [(.ref (w 1))]) (rest := []) (lenOf pd_1 rfl) rfl (by show 2 * 0 + _ ≤ _; exact Nat.le_of_eq rfl) (hb hby at_75) (fun _ _ => ⟨rfl, e3, (by decide : 1 + 0 ≤ _), (by decide : 9 + 0 ≤ _)⟩)
  dsimp only [Pt.U, Pt.locs, Pt.cells, Pt.slots] at X4 l4 y4 z4 st4 hQ4
  subst l4 y4 z4
  obtain ⟨rfl, N4q, e4⟩ := hQ4
  have N4 := Fr.app N3 N4q
  refine own_step (W' := T4.setTop (mkF m 78 #[.val (.int p1), .val (.int p2), .val (.int (2 : Int32)), .val (.int (2 : Int32)), .val (.ref b1), .val (.ref (w 1)), .val (.ref (w 1))] [(.int (1 : Int32))])) (fun _ k => st4.trans k) ?_
  refine own_step (W' := T4.setTop (mkF m 80 #[.val (.int p1), .val (.int p2), .val (.int (2 : Int32)), .val (.int (2 : Int32)), .val (.ref b1), .val (.ref (w 1)), .val (.ref (w 1))] [(.ref b1), (.int (1 : Int32))])) (fun _ k => XS.aload X4.here hx rfl (hb hby at_78) rfl rfl k) ?_
  refine own_step (W' := T4.setTop (mkF m 81 #[.val (.int p1), .val (.int p2), .val (.int (2 : Int32)), .val (.int (2 : Int32)), .val (.ref b1), .val (.ref (w 1)), .val (.ref (w 1))] [(.int (2 : Int32)), (.ref b1), (.int (1 : Int32))])) (fun _ k => XS.iloadN X4.here hx rfl (hb hby at_80) rfl k) ?_
  refine own_step (W' := T4.setTop (mkF m 82 #[.val (.int p1), .val (.int p2), .val (.int (2 : Int32)), .val (.int (2 : Int32)), .val (.ref b1), .val (.ref (w 1)), .val (.ref (w 1))] [(.int (3 : Int32)), (.int (2 : Int32)), (.ref b1), (.int (1 : Int32))])) (fun _ k => XS.iconst X4.here hx rfl (hb hby at_81) k) ?_
  refine own_step (W' := T4.setTop (mkF m 83 #[.val (.int p1), .val (.int p2), .val (.int (2 : Int32)), .val (.int (2 : Int32)), .val (.ref b1), .val (.ref (w 1)), .val (.ref (w 1))] [(.int ((2 : Int32) * (3 : Int32))), (.ref b1), (.int (1 : Int32))])) (fun _ k => XS.imul X4.here hx rfl (hb hby at_82) rfl k) ?_
  rw [show ((2 : Int32) * (3 : Int32)) = (6 : Int32) from by decide]
  refine own_step (W' := T4.setTop (mkF m 84 #[.val (.int p1), .val (.int p2), .val (.int (2 : Int32)), .val (.int (2 : Int32)), .val (.ref b1), .val (.ref (w 1)), .val (.ref (w 1))] [(.int (2 : Int32)), (.int (6 : Int32)), (.ref b1), (.int (1 : Int32))])) (fun _ k => XS.iloadN X4.here hx rfl (hb hby at_83) rfl k) ?_
  refine own_step (W' := T4.setTop (mkF m 85 #[.val (.int p1), .val (.int p2), .val (.int (2 : Int32)), .val (.int (2 : Int32)), .val (.ref b1), .val (.ref (w 1)), .val (.ref (w 1))] [(.int ((6 : Int32) + (2 : Int32))), (.ref b1), (.int (1 : Int32))])) (fun _ k => XS.iadd X4.here hx rfl (hb hby at_84) rfl k) ?_
  rw [show ((6 : Int32) + (2 : Int32)) = (8 : Int32) from by decide]
  refine own_step (W' := T4.setTop (mkF m 86 #[.val (.int p1), .val (.int p2), .val (.int (2 : Int32)), .val (.int (2 : Int32)), .val (.ref b1), .val (.ref (w 1)), .val (.ref (w 1))] [(.int (nar .boolean (1 : Int32))), (.int (1 : Int32))])) (fun _ k => own_ldZ X4 hx hZ e4 V1 (j := (8 : Int32)) (v := (.int (nar .boolean (1 : Int32)))) ⟨by decide, by decide⟩ rfl (g := (mkF m 85 #[.val (.int p1), .val (.int p2), .val (.int (2 : Int32)), .val (.int (2 : Int32)), .val (.ref b1), .val (.ref (w 1)), .val (.ref (w 1))] [(.int (8 : Int32)), (.ref b1), (.int (1 : Int32))])) rfl rfl (hb hby at_85) _ k) ?_
  refine own_step (W' := T4.setTop (mkF m 89 #[.val (.int p1), .val (.int p2), .val (.int (2 : Int32)), .val (.int (2 : Int32)), .val (.ref b1), .val (.ref (w 1)), .val (.ref (w 1))] [])) (fun _ k => XS.icmpNo X4.here hx rfl (hb hby at_86) rfl (by decide) k) ?_
  refine own_step (W' := T4.setTop (mkF m 90 #[.val (.int p1), .val (.int p2), .val (.int (2 : Int32)), .val (.int (2 : Int32)), .val (.ref b1), .val (.ref (w 1)), .val (.ref (w 1))] [(.int (1 : Int32))])) (fun _ k => XS.iconst X4.here hx rfl (hb hby at_89) k) ?_
  refine own_step (W' := T4.setTop (mkF m 94 #[.val (.int p1), .val (.int p2), .val (.int (2 : Int32)), .val (.int (2 : Int32)), .val (.ref b1), .val (.ref (w 1)), .val (.ref (w 1))] [(.int (1 : Int32))])) (fun _ k => XS.goto X4.here hx rfl (pc0 := 90) (pc' := 94) rfl (hb hby at_90) (by decide) (by decide) k) ?_
  exact own_ret X4 Bd.notSynchronized Bd.returns (v := (.int (1 : Int32))) (fun fs hr => retN X4 hx (t := .boolean) Bd.returns (by simp) (hb hby at_94) hr) ⟨rfl, N4⟩ (by decide) (by decide)
theorem rm0 (l : Launch) (Z : State) (a0 : Array Value) (hw : ∀ d ∈ tables_1, d.before a0 Z = true) (ws : List Jvm.Cond) (p1 p2 : Int32) (w : Nat → Addr) (h0 : Heap) (n0 : Nat) (Z0 : n0 ≤ h0.size) (P : Pins Z h0 w) :
    MetFree l x (head1 (Jvm.Cond.code x code maxLocals ret :: ws) room_1) (fun a U => a = #[(.int p1), (.int p2)] ∧ Z.Warmed39 U.vm ∧ U.heap = h0) (fun _ _ _ _ _ => True) (fun _ U o U' => ∃ v L, o = .returned v ∧ own_Q0 n0 v U'.heap L ∧ FrameEnd U o U' L room_1.cells room_1.slots) := by
  rcases own_m3 p1 with ha | ha | ha <;> rcases own_m3 p2 with hb' | hb' | hb'
  · exact rm0_00 l Z a0 hw ws p1 p2 ha hb' w h0 n0 Z0 P
  · exact rm0_01 l Z a0 hw ws p1 p2 ha hb' w h0 n0 Z0 P
  · exact rm0_02 l Z a0 hw ws p1 p2 ha hb' w h0 n0 Z0 P
  · exact rm0_10 l Z a0 hw ws p1 p2 ha hb' w h0 n0 Z0 P
  · exact rm0_11 l Z a0 hw ws p1 p2 ha hb' w h0 n0 Z0 P
  · exact rm0_12 l Z a0 hw ws p1 p2 ha hb' w h0 n0 Z0 P
  · exact rm0_20 l Z a0 hw ws p1 p2 ha hb' w h0 n0 Z0 P
  · exact rm0_21 l Z a0 hw ws p1 p2 ha hb' w h0 n0 Z0 P
  · exact rm0_22 l Z a0 hw ws p1 p2 ha hb' w h0 n0 Z0 P
set_option maxRecDepth 65536 in
set_option maxHeartbeats 40000000 in
theorem comes_1 {Post : Tables → Env → Array Value → State → Outcome → State → Prop} (hpost : ∀ tb e args s v u, (limb_1_1.after args s (.returned v) u = true ∧ limb_1_2.after args s (.returned v) u = true ∧ True) → FrameEnd s (.returned v) u (Jvm.fieldLocs frame_1_writes args s ++ Jvm.arrayLocs frame_1_arrays args s ++ Jvm.staticLocs frame_1_statics s) 16 128 → Post tb e args s (.returned v) u) :
    ArmFor flags0 classFile x code maxLocals ret World_1 tables_1 room_1 Calls_1 rest_1 Pre_1 Post := by
  intro l hfl _ _ p e ha hc hk s m args below hf hA hF happ hP
  obtain ⟨hcalls, hrest, hpre⟩ := hP
  obtain ⟨-, -, -, hnamed, -, -, -, hat⟩ := (Spec.applies_iff hf).mp happ
  obtain ⟨hg, hn⟩ := and_e (Cond.before_iff.mp (show (Jvm.Cond.and given_1 narrow_1).before args s = true from hpre))
  obtain ⟨gc, hg⟩ := and_e hg
  obtain ⟨w0, w1, rfl⟩ : ∃ w0 w1 : Value, args = #[w0, w1] := by
    have hs : args.size = 2 := by simpa [Cond.value, given_1] using gc
    obtain ⟨L⟩ := args
    match L, hs with
    | [w0, w1], _ => exact ⟨w0, w1, rfl⟩
  have hw := fun d (hd : d ∈ tables_1) => atoms_spec (ws := Jvm.Cond.code x code maxLocals ret :: tables_1) hat d (List.mem_cons_of_mem _ hd)
  obtain ⟨g0, hg⟩ := and_e hg
  obtain ⟨i0, ei0⟩ := is_v g0
  obtain rfl : w0 = (.int i0) := Option.some.inj ei0
  obtain ⟨i1, ei1⟩ := is_v hg
  obtain rfl : w1 = (.int i1) := Option.some.inj ei1
  obtain ⟨w, P⟩ := own_pins hw hn
  obtain ⟨n, o, h1, h2, h3, _, L, rfl, ⟨rfl, N⟩, hq⟩ := rm0 l s _ hw tables_1 i0 i1 w s.heap s.heap.size (Nat.le_refl _) P p e ha hc hk s m _ below hf ((Spec.applies_iff_loose hf).mp happ).1 ⟨rfl, State.Warmed39.refl s, rfl⟩ trivial
  refine ⟨n, _, h1, h2, h3, hpost _ _ _ _ _ _ ⟨Cond.after_iff.mpr rfl, Cond.after_iff.mpr (eq_i res_at (Term.int_eval (1)) rfl), trivial⟩ ⟨hq.1, hq.2.1, (hq.2.2.sift fun y hy => Or.inr (N y hy)).mono (by decide) (by decide)⟩⟩
theorem main_1_1 : Claimed_1_1 := comes_1 fun _ _ _ _ _ _ h hF => ⟨h.1, hF⟩
theorem main_1_2 : Claimed_1_2 := comes_1 fun _ _ _ _ _ _ h hF => ⟨h.2.1, hF⟩
end Jvm.Pilot.@@N@@
namespace Jvm.Pilot.@@N@@
open Jvm Jvm.ClassFile Sem Op Lib Jvm.Free Jvm.Stand Jvm.Pilot.@@N@@.Jvm.D
/-! MADE BY PROGRAM (witnessworld.py) out of the Statement's table words and the real class files: 14 classes; the members and pool entries that the words name. The judged class is class 1, her method 2. -/
namespace start1
open Jvm.ClassFile
def u (s : String) : CpInfo := .utf8 (stringToUtf16 s)
/-- a pool by its gaps: so many unusable entries, then the entry; so many at the end -/
def gap : Nat → List CpInfo → List CpInfo
  | 0, r => r
  | n + 1, r => .unusable :: gap n r
def poolList (es : List (Nat × CpInfo)) (last : Nat) : List CpInfo := es.foldr (fun e r => gap e.1 (e.2 :: r)) (gap last [])
def pool (es : List (Nat × CpInfo)) (last : Nat) : Array CpInfo := ⟨poolList es last⟩
def fileOf (pool : Array CpInfo) (this : Nat) (attrs : Array Attribute := #[]) (ms : Array MethodInfo := #[]) (fl : Nat := 33) (sup : Nat := 0) (ifs : Array Nat := #[]) (fds : Array FieldInfo := #[]) : ClassFile where
  minorVersion := 0
  majorVersion := 65
  constantPool := pool
  accessFlags := fl
  thisClass := this
  superClass := sup
  interfaces := ifs
  fields := fds
  methods := ms
  attributes := attrs
def plain (name : String) (sup : Option ClassId) : Class where
  name := name
  kind := .ordinary
  loader := none
  accessFlags := 33
  super := sup
  interfaces := #[]
  cf := none
  fields := #[]
  methods := #[]
  instanceTypes := #[]
  staticTypes := #[]
  resolved := #[]
  callSites := []
  init := .initialized
  statics := none
  mirror := none

def pool0 : Array CpInfo := pool [(5, u "<init>"), (0, u "()V"), (1, .class_ 10), (1, u "java/lang/Object")] 113

def k0m0 : Method := { name := "<init>", desc := "()V", sig := { parameters := [], returnType := none }, accessFlags := 1, code := none }
/-- java/lang/Object -/
def k0 : Class := { plain "java/lang/Object" none with
  accessFlags := 33
  interfaces := #[]
  cf := some (fileOf pool0 8 #[] #[{ accessFlags := 1, nameIndex := 5, descriptorIndex := 6, attributes := #[] }] 33 0 #[] #[])
  fields := #[]
  methods := #[k0m0]
  instanceTypes := #[]
  staticTypes := #[]
  resolved := Array.replicate 124 none
  statics := none }

def pool1 : Array CpInfo := pool [(2, .class_ 4), (1, u "java/lang/Object"), (0, u "<init>"), (0, u "()V"), (0, .fieldref 8 9), (0, .class_ 10), (0, .nameAndType 11 12), (0, u "com/example/levy/levy/Scope"), (0, u "INGEST"), (0, u "Lcom/example/levy/levy/Scope;"), (0, .fieldref 8 14), (0, .nameAndType 15 12), (0, u "READ"), (0, .fieldref 8 17), (0, .nameAndType 18 12), (0, u "ADMIN"), (0, .integer 2147483647), (0, .methodref 21 22), (0, .class_ 23), (0, .nameAndType 24 25), (0, u "com/example/levy/levy/ScopeGrantsPinLaw"), (0, u "pick"), (0, u "(I)Lcom/example/levy/levy/Scope;"), (0, .methodref 8 27), (0, .nameAndType 28 29), (0, u "grants"), (0, u "(Lcom/example/levy/levy/Scope;)Z"), (3, u "law"), (0, u "(II)Z")] 4

def k1m0 : Method := { name := "<init>", desc := "()V", sig := { parameters := [], returnType := none }, accessFlags := 1, code := none }
def k1c1 : Code := { maxStack := 2, maxLocals := 1, code := method_2_code, exceptionTable := #[], attributes := #[] }
def k1m1 : Method := { name := "pick", desc := "(I)Lcom/example/levy/levy/Scope;", sig := { parameters := [.int], returnType := some (.object "com/example/levy/levy/Scope") }, accessFlags := 10, code := some k1c1 }
def k1c2 : Code := { maxStack := 4, maxLocals := 7, code := code, exceptionTable := #[], attributes := #[] }
def k1m2 : Method := { name := "law", desc := "(II)Z", sig := { parameters := [.int, .int], returnType := some .boolean }, accessFlags := 9, code := some k1c2 }
/-- com/example/levy/levy/ScopeGrantsPinLaw -/
def k1 : Class := { plain "com/example/levy/levy/ScopeGrantsPinLaw" (some 0) with
  accessFlags := 49
  interfaces := #[]
  cf := some (fileOf pool1 21 #[] #[{ accessFlags := 1, nameIndex := 5, descriptorIndex := 6, attributes := #[] }, { accessFlags := 10, nameIndex := 24, descriptorIndex := 25, attributes := #[] }, { accessFlags := 9, nameIndex := 33, descriptorIndex := 34, attributes := #[] }] 49 2 #[] #[])
  fields := #[]
  methods := #[k1m0, k1m1, k1m2]
  instanceTypes := #[]
  staticTypes := #[]
  resolved := Array.replicate 39 none
  statics := none }

def pool2 : Array CpInfo := pool [(1, .class_ 2), (0, u "java/lang/constant/Constable"), (0, .class_ 4), (0, u "java/lang/Object")] 6

/-- java/lang/constant/Constable -/
def k2 : Class := { plain "java/lang/constant/Constable" (some 0) with
  accessFlags := 1537
  interfaces := #[]
  cf := some (fileOf pool2 1 #[] #[] 1537 3 #[] #[])
  fields := #[]
  methods := #[]
  instanceTypes := #[]
  staticTypes := #[]
  resolved := Array.replicate 11 none
  statics := none }

def pool3 : Array CpInfo := pool [(1, .class_ 2), (0, u "java/lang/Comparable"), (0, .class_ 4), (0, u "java/lang/Object")] 7

/-- java/lang/Comparable -/
def k3 : Class := { plain "java/lang/Comparable" (some 0) with
  accessFlags := 1537
  interfaces := #[]
  cf := some (fileOf pool3 1 #[] #[] 1537 3 #[] #[])
  fields := #[]
  methods := #[]
  instanceTypes := #[]
  staticTypes := #[]
  resolved := Array.replicate 12 none
  statics := none }

def pool4 : Array CpInfo := pool [(1, .class_ 2), (0, u "java/io/Serializable"), (0, .class_ 4), (0, u "java/lang/Object")] 2

/-- java/io/Serializable -/
def k4 : Class := { plain "java/io/Serializable" (some 0) with
  accessFlags := 1537
  interfaces := #[]
  cf := some (fileOf pool4 1 #[] #[] 1537 3 #[] #[])
  fields := #[]
  methods := #[]
  instanceTypes := #[]
  staticTypes := #[]
  resolved := Array.replicate 7 none
  statics := none }

def pool5 : Array CpInfo := pool [(2, .class_ 4), (1, u "java/lang/Enum"), (0, u "name"), (0, u "Ljava/lang/String;"), (2, u "ordinal"), (0, u "I"), (1, .class_ 14), (1, u "java/lang/Object"), (4, u "hash"), (86, .class_ 108), (1, u "java/lang/Enum$EnumDesc"), (2, .class_ 112), (0, u "java/lang/constant/Constable"), (0, .class_ 114), (0, u "java/lang/Comparable"), (0, .class_ 116), (0, u "java/io/Serializable")] 87

/-- java/lang/Enum -/
def k5 : Class := { plain "java/lang/Enum" (some 0) with
  accessFlags := 1057
  interfaces := #[2, 3, 4]
  cf := some (fileOf pool5 2 #[.nestMembers #[106]] #[] 1057 12 #[111, 113, 115] #[{ accessFlags := 18, nameIndex := 5, descriptorIndex := 6, attributes := #[] }, { accessFlags := 18, nameIndex := 9, descriptorIndex := 10, attributes := #[] }, { accessFlags := 2, nameIndex := 19, descriptorIndex := 10, attributes := #[] }])
  fields := #[{ name := "name", type := (.object "java/lang/String"), accessFlags := 18, slot := 0, constantValue := 0 }, { name := "ordinal", type := .int, accessFlags := 18, slot := 1, constantValue := 0 }, { name := "hash", type := .int, accessFlags := 2, slot := 2, constantValue := 0 }]
  methods := #[]
  instanceTypes := #[(.object "java/lang/String"), .int, .int]
  staticTypes := #[]
  resolved := Array.replicate 204 none
  statics := none }

def pool6 : Array CpInfo := pool [(1, .class_ 2), (0, u "com/example/levy/levy/Scope"), (2, u "INGEST"), (0, u "Lcom/example/levy/levy/Scope;"), (2, u "READ"), (0, .fieldref 1 11), (0, .nameAndType 12 6), (0, u "ADMIN"), (2, u "$VALUES"), (0, u "[Lcom/example/levy/levy/Scope;"), (6, .class_ 25), (1, u "java/lang/Enum"), (38, u "grants"), (0, u "(Lcom/example/levy/levy/Scope;)Z")] 5

def k6c0 : Code := { maxStack := 2, maxLocals := 2, code := prog_23_method_5_code, exceptionTable := #[], attributes := #[] }
def k6m0 : Method := { name := "grants", desc := "(Lcom/example/levy/levy/Scope;)Z", sig := { parameters := [(.object "com/example/levy/levy/Scope")], returnType := some .boolean }, accessFlags := 0, code := some k6c0 }
/-- com/example/levy/levy/Scope -/
def k6 : Class := { plain "com/example/levy/levy/Scope" (some 5) with
  accessFlags := 16432
  interfaces := #[]
  cf := some (fileOf pool6 1 #[] #[{ accessFlags := 0, nameIndex := 64, descriptorIndex := 65, attributes := #[] }] 16432 23 #[] #[{ accessFlags := 16409, nameIndex := 5, descriptorIndex := 6, attributes := #[] }, { accessFlags := 16409, nameIndex := 9, descriptorIndex := 6, attributes := #[] }, { accessFlags := 16409, nameIndex := 12, descriptorIndex := 6, attributes := #[] }, { accessFlags := 4122, nameIndex := 15, descriptorIndex := 16, attributes := #[] }])
  fields := #[{ name := "INGEST", type := (.object "com/example/levy/levy/Scope"), accessFlags := 16409, slot := 0, constantValue := 0 }, { name := "READ", type := (.object "com/example/levy/levy/Scope"), accessFlags := 16409, slot := 1, constantValue := 0 }, { name := "ADMIN", type := (.object "com/example/levy/levy/Scope"), accessFlags := 16409, slot := 2, constantValue := 0 }, { name := "$VALUES", type := (.array (.object "com/example/levy/levy/Scope")), accessFlags := 4122, slot := 3, constantValue := 0 }]
  methods := #[k6m0]
  instanceTypes := #[(.object "java/lang/String"), .int, .int]
  staticTypes := #[(.object "com/example/levy/levy/Scope"), (.object "com/example/levy/levy/Scope"), (.object "com/example/levy/levy/Scope"), (.array (.object "com/example/levy/levy/Scope"))]
  resolved := Array.replicate 71 none
  statics := some 0 }

def pool7 : Array CpInfo := pool [(1, u "java/lang/Cloneable"), (0, .class_ 1), (0, u "java/lang/Object"), (0, .class_ 3)] 3

/-- java/lang/Cloneable -/
def k7 : Class := { plain "java/lang/Cloneable" (some 0) with
  accessFlags := 1537
  interfaces := #[]
  cf := some (fileOf pool7 2 #[] #[] 1537 4 #[] #[])
  fields := #[]
  methods := #[]
  instanceTypes := #[]
  staticTypes := #[]
  resolved := Array.replicate 8 none
  statics := none }

/-- the primitive boolean -/
def k8 : Class := { plain "boolean" none with kind := .primitive 'Z', accessFlags := 0x411 }
/-- [Z -/
def k9 : Class := { plain "[Z" (some 0) with kind := .array 8 .boolean, interfaces := #[7, 4], accessFlags := 1041 }

/-- the primitive byte -/
def k10 : Class := { plain "byte" none with kind := .primitive 'B', accessFlags := 0x411 }
/-- [B -/
def k11 : Class := { plain "[B" (some 0) with kind := .array 10 .byte, interfaces := #[7, 4], accessFlags := 1041 }

/-- the primitive int -/
def k12 : Class := { plain "int" none with kind := .primitive 'I', accessFlags := 0x411 }
/-- [I -/
def k13 : Class := { plain "[I" (some 0) with kind := .array 12 .int, interfaces := #[7, 4], accessFlags := 1041 }

def heap : Heap := #[{ cls := 6, slots := #[.ref 1, .ref 3, .ref 2, .null], vm := .statics 6 },
  { cls := 6, slots := #[.null, .int 0, .int 0], vm := .none },
  { cls := 6, slots := #[.null, .int 2, .int 0], vm := .none },
  { cls := 6, slots := #[.null, .int 1, .int 0], vm := .none }]
def classes : Array Class := #[k0, k1, k2, k3, k4, k5, k6, k7, k8, k9, k10, k11, k12, k13]
def interned : List (Array UInt16 × Addr) := []
def slotsUsed : Nat := 13
def theMethod : MethodId := ⟨1, 2⟩
def args0 : Array Value := #[.int 5, .int 7]
def aboutOver (below : List Frame) : State where
  vm := { classes := classes, interned := interned.toArray }
  heap := heap
  slotsUsed := slotsUsed
  threads := #[{ frames := .invoking theMethod args0 :: below }]
def below0 : List Frame := [.native { method := ⟨0, 0⟩, args := #[] }]
def about1 : State := aboutOver below0
def p0 : Program := .bare "" "" ""
def e0 : Env := launch0.env 0 0 0
theorem w_frames : about1.frames = Frame.invoking theMethod args0 :: below0 := rfl
set_option maxRecDepth 65536 in
theorem w_args : argsFit about1.vm theMethod args0 = true := by decide +kernel
set_option maxRecDepth 65536 in
theorem w_heap : heapFits about1 = true := by decide +kernel
set_option maxRecDepth 65536 in
theorem w_runnable : about1.curStatus? = some .runnable := by decide +kernel
set_option maxRecDepth 65536 in
theorem w_alone : about1.alone = true := by decide +kernel
set_option maxRecDepth 65536 in
theorem w_named : about1.methodNamed? x = some theMethod := by decide +kernel
set_option maxRecDepth 65536 in
theorem w_hears : about1.hears theMethod below0 = true := by decide +kernel
set_option maxRecDepth 65536 in
theorem w_ripe : about1.ripe theMethod args0 below0 = true := by decide +kernel
theorem w_running : about1.status = .running := rfl
set_option maxRecDepth 65536 in
theorem w_room : about1.hasRoom e0.platform room_1 = true :=
  launch0.hasRoom_least _ room_1 (by decide +kernel) (by decide +kernel) (by decide +kernel) (by decide +kernel) (by decide +kernel) (by decide +kernel)
theorem allAtoms_all (ts : List Jvm.Cond) (a : Array Jvm.Value) (st : Jvm.State) : (allAtoms ts).before a st = ts.all (fun c => c.before a st) := by
  induction ts with
  | nil => rfl
  | cons c t ih =>
    show (Jvm.Cond.and c (allAtoms t)).before a st = _
    rw [Jvm.Cond.before_and, ih, List.all_cons]
def words1 : List Jvm.Cond := Jvm.Cond.code x code maxLocals ret :: tables_1
/-- a 'code' word, met by the world's own term for the bytes: nothing is compared byte by byte -/
theorem code_word {y : MethodName} {bytes : ByteArray} {mx : Nat} {rt : Option FieldType} {a : Array Value} {s : State} {m : MethodId} {meth : Method} {c : Code} (h1 : s.methodNamed? y = some m) (h2 : s.vm.method? m = some meth) (h3 : meth.code = some c) (h4 : c.code = bytes)
    (h5 : (c.maxLocals == mx && c.exceptionTable.isEmpty && decide (c.maxStack ≤ mostOperands) && decide (meth.sig.returnType = rt) && !meth.locks && decide (parseMethodDescriptor y.desc = some meth.sig)) = true) : (Jvm.Cond.code y bytes mx rt).before a s = true := by
  simp only [Bool.and_eq_true, beq_iff_eq, Bool.not_eq_true', decide_eq_true_eq] at h5
  obtain ⟨⟨⟨⟨⟨g1, g2⟩, g3⟩, g4⟩, g5⟩, g6⟩ := h5
  simp [Cond.before, Cond.holds, Cond.value, h1, h2, h3, h4, g1, g2, g3, g4, g5, g6]
def isCode : Jvm.Cond → Bool
  | .code _ _ _ _ => true
  | _ => false
theorem all_split {L : List Jvm.Cond} {P : Jvm.Cond → Bool} (h1 : L.all (fun c => isCode c || P c) = true) (h2 : ∀ c ∈ L.filter isCode, P c = true) : L.all P = true := by
  refine List.all_eq_true.mpr fun c hc => ?_
  have h := List.all_eq_true.mp h1 c hc
  rcases Bool.eq_false_or_eq_true (isCode c) with hi | hi
  · exact h2 c (List.mem_filter.mpr ⟨hc, hi⟩)
  · simpa [hi] using h
set_option maxRecDepth 65536 in
theorem w_c0 : (Jvm.Cond.code x code maxLocals ret).before args0 about1 = true := code_word (m := ⟨1, 2⟩) (meth := k1m2) (c := k1c2) (by decide +kernel) rfl rfl rfl (by decide +kernel)
set_option maxRecDepth 65536 in
theorem w_c1 : (Jvm.Cond.code ({ cls := "com/example/levy/levy/ScopeGrantsPinLaw", name := "pick", desc := "(I)Lcom/example/levy/levy/Scope;" } : Jvm.MethodName) method_2_code (1 : Nat) (Option.some (Jvm.ClassFile.FieldType.object "com/example/levy/levy/Scope"))).before args0 about1 = true := code_word (m := ⟨1, 1⟩) (meth := k1m1) (c := k1c1) (by decide +kernel) rfl rfl rfl (by decide +kernel)
set_option maxRecDepth 65536 in
theorem w_c2 : (Jvm.Cond.code ({ cls := "com/example/levy/levy/Scope", name := "grants", desc := "(Lcom/example/levy/levy/Scope;)Z" } : Jvm.MethodName) prog_23_method_5_code (2 : Nat) (Option.some Jvm.ClassFile.FieldType.boolean)).before args0 about1 = true := code_word (m := ⟨6, 0⟩) (meth := k6m0) (c := k6c0) (by decide +kernel) rfl rfl rfl (by decide +kernel)
def codes1 : List Jvm.Cond := [Jvm.Cond.code x code maxLocals ret, Jvm.Cond.code ({ cls := "com/example/levy/levy/ScopeGrantsPinLaw", name := "pick", desc := "(I)Lcom/example/levy/levy/Scope;" } : Jvm.MethodName) method_2_code (1 : Nat) (Option.some (Jvm.ClassFile.FieldType.object "com/example/levy/levy/Scope")), Jvm.Cond.code ({ cls := "com/example/levy/levy/Scope", name := "grants", desc := "(Lcom/example/levy/levy/Scope;)Z" } : Jvm.MethodName) prog_23_method_5_code (2 : Nat) (Option.some Jvm.ClassFile.FieldType.boolean)]
set_option maxRecDepth 65536 in
theorem codes_eq : words1.filter isCode = codes1 := rfl
theorem w_codes : ∀ c ∈ words1.filter isCode, c.before args0 about1 = true := by
  rw [codes_eq]
  intro c hc
  simp only [codes1, List.mem_cons, List.not_mem_nil, or_false] at hc
  rcases hc with rfl | rfl | rfl
  · exact w_c0
  · exact w_c1
  · exact w_c2
set_option maxRecDepth 65536 in
theorem w_t1 : words1.all (fun c => isCode c || c.before args0 about1) = true := by decide +kernel
theorem w_tables : (allAtoms (Jvm.Cond.code x code maxLocals ret :: tables_1)).before args0 about1 = true := by
  rw [allAtoms_all]
  show words1.all (fun c => c.before args0 about1) = true
  refine all_split ?_ w_codes
  rw [w_t1]
set_option maxRecDepth 65536 in
theorem w_case : (Jvm.Cond.and given_1 narrow_1).before args0 about1 = true := by decide +kernel
theorem w_applies : (headSpec (Jvm.Cond.code x code maxLocals ret :: tables_1) room_1).applies x e0.platform about1 = true :=
  (Spec.applies_iff w_frames).mpr ⟨w_running, w_runnable, w_alone, w_named, w_hears, w_ripe, w_room, w_tables⟩
theorem atStart : AtStart classFile x code maxLocals ret World_1 tables_1 room_1 Calls_1 rest_1 Pre_1 launch0 p0 e0 about1 theMethod args0 below0 :=
  ⟨lists_1, trivial, launch0.admits_env _ _ _, launch0.least_env, fairChoices_fair.cas, fairChoices_fair.clock, w_frames, w_args, w_heap, w_applies, trivial, trivial, w_case⟩
end start1
theorem witness_1 : WitnessClaimed_1 := ⟨start1.p0, start1.e0, start1.about1, start1.theMethod, start1.args0, start1.below0, start1.atStart⟩
end Jvm.Pilot.@@N@@
