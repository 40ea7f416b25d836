import JvmDerived
import JvmDerived.Pilot.@@N@@Statement
import JvmDerived.Pilot.@@N@@Code
set_option linter.unusedVariables false
set_option linter.unusedSimpArgs false
@@BLOCK:NumsL.lean.txt@@
namespace Jvm.Pilot.@@N@@
open Jvm Jvm.ClassFile Sem Op Lib Jvm.Free Jvm.Stand Jvm.LawKit Jvm.RoadKit Bundle Jvm.Pilot.@@N@@.Jvm.D

/-! the walk's goal, read backwards: from here the run comes to its end -/
def own_Done (p : Program) (e : Env) (below : List Frame) (W : State) (Q : Outcome → State → Prop) : Prop := ∃ s₂ o, Steps p.tables e below W s₂ ∧ s₂.status = .running ∧ Ended s₂ below o ∧ Q o s₂
theorem own_step {p : Program} {e : Env} {below : List Frame} {W W' : State} {Q : Outcome → State → Prop} (st : ∀ t, Steps p.tables e below W' t → Steps p.tables e below W t) (h : own_Done p e below W' Q) : own_Done p e below W Q := by
  obtain ⟨s2, o, h1, r⟩ := h
  exact ⟨s2, o, st _ h1, r⟩
theorem own_enter {p : Program} {e : Env} {below : List Frame} {T : State} {g g' : JFrame} {Q : Outcome → State → Prop} (q : g = g') (h : own_Done p e below (T.setTop g') Q) : ∃ s₂ o, Steps p.tables e below (T.setTop g) s₂ ∧ s₂.status = .running ∧ Ended s₂ below o ∧ Q o s₂ := by
  subst q; exact h
theorem own_ret {p : Program} {l : Launch} {e : Env} {R : Room} {s : State} {m : MethodId} {args : Array Value} {below : List Frame} {meth : Method} {c : Code} {T W : State} {locs : List Loc} {cells slots k n : Nat} {r : Option Value → Heap → List Loc → Prop} {v : Value} {t : FieldType}
    (X : Stand p l e R s m args below meth c T locs cells slots) (hlocks : meth.locks = false) (hret : meth.sig.returnType = some t)
    (hs : ∀ fs : List Frame, (∀ (f : JFrame) (acts : List Action), f.method = m → f.locked = none → f.entered = [] → (doReturn e (T.setTop f) acts (some v)).1 = T.setFrames fs) → Steps p.tables e below W (T.setFrames fs))
    (hq : r (some v) T.heap locs) (hk : cells ≤ k) (hn : slots ≤ n) : own_Done p e below W (fun o U' => ∃ v L, o = .returned v ∧ r v U'.heap L ∧ FrameEnd s o U' L k n) := by
  obtain ⟨fs, hr, hrun, hended, hW, hsame⟩ := X.leave (v := some v) (fun h => by rw [hret] at h; cases h) hlocks
  exact ⟨_, _, hs fs hr, hrun, hended, _, _, rfl, hq, ⟨_, rfl⟩, hW, hsame.mono hk hn⟩
theorem own_ret0 {p : Program} {l : Launch} {e : Env} {R : Room} {s : State} {m : MethodId} {args : Array Value} {below : List Frame} {meth : Method} {c : Code} {T W : State} {locs : List Loc} {cells slots k n : Nat} {r : Option Value → Heap → List Loc → Prop}
    (X : Stand p l e R s m args below meth c T locs cells slots) (hlocks : meth.locks = false) (hret : meth.sig.returnType = none)
    (hs : ∀ fs : List Frame, (∀ (f : JFrame) (acts : List Action), f.method = m → f.locked = none → f.entered = [] → (doReturn e (T.setTop f) acts none).1 = T.setFrames fs) → Steps p.tables e below W (T.setFrames fs))
    (hq : r none T.heap locs) (hk : cells ≤ k) (hn : slots ≤ n) : own_Done p e below W (fun o U' => ∃ v L, o = .returned v ∧ r v U'.heap L ∧ FrameEnd s o U' L k n) := by
  obtain ⟨fs, hr, hrun, hended, hW, hsame⟩ := X.leave (v := none) (fun _ => rfl) hlocks
  exact ⟨_, _, hs fs hr, hrun, hended, _, _, rfl, hq, ⟨_, rfl⟩, hW, hsame.mono hk hn⟩
/-- a body that writes nothing and returns r -/
def own_QK (r : Option Value) (h0 : Heap) (n0 : Nat) (v : Option Value) (h : Heap) (L : List Loc) : Prop := v = r ∧ Fr n0 L ∧ h = h0
/-- the law itself -/
def own_Q0 (n0 : Nat) (v : Option Value) (h : Heap) (L : List Loc) : Prop := v = some (.int (1 : Int32)) ∧ Fr n0 L

theorem own_eqJ {args : Array Value} {first s : State} {o : Option Outcome} {idx : List Nat} {t : Term} {k : Int64} (h : (Cond.eq t (.long k)).value args first o s idx = some true) : t.eval args first o idx s = some (.long k) := by
  obtain ⟨u, w, e1, e2, -, k2⟩ := cmp_v (Or.inl h)
  have e3 : (Term.long k).eval args first o idx s = some (.long k) := rfl
  cases e3.symm.trans e2
  obtain ⟨z, rfl⟩ := k2
  rw [e1]
  have := gotT (eq_L e1 e3) h
  rw [this]
theorem own_fldI {Z : State} {args : Array Value} {t : Term} {a : Addr} {C n d : String} {k : Int32} (ev : t.eval args Z none [] Z = some (.ref a)) (h : (Cond.eq (.field t C n d) (.int k)).value args Z none Z [] = some true) : Fld Z Z.heap a C n d (.int k) := by
  refine Fld.start ?_
  rw [← fld_at (C := C) (n := n) (dd := d) ev]
  obtain ⟨u, w, e1, e2, -, k2⟩ := cmp_v (Or.inl h)
  cases (Term.int_eval k).symm.trans e2
  obtain ⟨z, rfl⟩ := k2
  rw [e1]
  simp [Cond.value, e1, Term.int_eval] at h
  rw [h]
theorem own_fldN {Z : State} {args : Array Value} {t : Term} {a : Addr} {C n d : String} (ev : t.eval args Z none [] Z = some (.ref a)) (h : (Cond.eq (.field t C n d) .null).value args Z none Z [] = some true) : Fld Z Z.heap a C n d .null := by
  refine Fld.start ?_
  rw [← fld_at (C := C) (n := n) (dd := d) ev]
  exact null_v h
theorem own_fldR {Z : State} {args : Array Value} {t u : Term} {a b : Addr} {C n d : String} (ev : t.eval args Z none [] Z = some (.ref a)) (eu : u.eval args Z none [] Z = some (.ref b)) (h : (Cond.eq (.field t C n d) u).value args Z none Z [] = some true) : Fld Z Z.heap a C n d (.ref b) := by
  refine Fld.start ?_
  rw [← fld_at (C := C) (n := n) (dd := d) ev]
  obtain ⟨x, w, e1, e2, k1, k2⟩ := cmp_v (Or.inl h)
  cases eu.symm.trans e2
  obtain ⟨-, hx⟩ := k2
  rw [e1]
  have := gotT (eq_R e1 eu hx rfl) h
  rw [this]
theorem own_ltW (x y : Int64) : lcmpW x y < 0 ↔ x < y := by rw [lcW]; exact lc_lt x y
theorem own_eqW (x y : Int64) : lcmpW x y = 0 ↔ x = y := by rw [lcW]; exact lc_eq x y
theorem own_nar8 (y : Int32) : nar .byte y.toInt8.toInt32 = y.toInt8.toInt32 := by
  show y.toInt8.toInt32.toInt8.toInt32 = y.toInt8.toInt32
  simp
/-- n >>> 7 -/
abbrev own_s7 (n : Int64) : Int64 := (n.toUInt64 >>> ((7 : Int32) &&& 0x3f).toInt64.toUInt64).toInt64
/-- n >>> (7 * i) -/
abbrev own_si (n : Int64) (i : Int32) : Int64 := (n.toUInt64 >>> (((7 : Int32) * i) &&& 0x3f).toInt64.toUInt64).toInt64
abbrev own_b1 (n : Int64) : Int32 := ((n &&& (127 : Int64)) ||| (128 : Int64)).toInt32.toInt8.toInt32
abbrev own_b0 (n : Int64) : Int32 := n.toInt32.toInt8.toInt32
theorem own_s7_toInt {n : Int64} (h : 0 ≤ n.toInt) : (own_s7 n).toInt = n.toInt / 128 :=
  Jvm.Kit.i64_lushr (Jvm.Kit.i64_nonneg.mpr h) (k := 7) (by decide) (by decide)
theorem own_si_toInt {n : Int64} (h : 0 ≤ n.toInt) {i : Int32} {k : Nat} (hi : i.toInt = (k : Int)) (hk : k < 9) : (own_si n i).toInt = n.toInt / 2 ^ (7 * k) := by
  refine Jvm.Kit.i64_lushr (Jvm.Kit.i64_nonneg.mpr h) (k := 7 * k) ?_ (by omega)
  have hk' : k = 0 ∨ k = 1 ∨ k = 2 ∨ k = 3 ∨ k = 4 ∨ k = 5 ∨ k = 6 ∨ k = 7 ∨ k = 8 := by omega
  rcases hk' with rfl | rfl | rfl | rfl | rfl | rfl | rfl | rfl | rfl
  · obtain rfl : i = (0 : Int32) := Int32.toInt_inj.mp (hi.trans (by decide)); decide
  · obtain rfl : i = (1 : Int32) := Int32.toInt_inj.mp (hi.trans (by decide)); decide
  · obtain rfl : i = (2 : Int32) := Int32.toInt_inj.mp (hi.trans (by decide)); decide
  · obtain rfl : i = (3 : Int32) := Int32.toInt_inj.mp (hi.trans (by decide)); decide
  · obtain rfl : i = (4 : Int32) := Int32.toInt_inj.mp (hi.trans (by decide)); decide
  · obtain rfl : i = (5 : Int32) := Int32.toInt_inj.mp (hi.trans (by decide)); decide
  · obtain rfl : i = (6 : Int32) := Int32.toInt_inj.mp (hi.trans (by decide)); decide
  · obtain rfl : i = (7 : Int32) := Int32.toInt_inj.mp (hi.trans (by decide)); decide
  · obtain rfl : i = (8 : Int32) := Int32.toInt_inj.mp (hi.trans (by decide)); decide
theorem own_si_zero {n : Int64} (h : 0 ≤ n.toInt) {i : Int32} (hi : i.toInt = 0) : own_si n i = n := by
  apply Int64.toInt_inj.mp
  rw [own_si_toInt h (k := 0) hi (by decide)]
  simp
theorem own_si_succ {n : Int64} (h : 0 ≤ n.toInt) {i j : Int32} {k : Nat} (hi : i.toInt = (k : Int)) (hj : j.toInt = ((k + 1 : Nat) : Int)) (hk : k + 1 < 9) : own_si (own_s7 n) i = own_si n j := by
  apply Int64.toInt_inj.mp
  have h7 := own_s7_toInt h
  rw [own_si_toInt (by rw [h7]; omega) hi (by omega), own_si_toInt h hj hk, h7]
  rw [Int.ediv_ediv_of_nonneg (by decide)]
  congr 1
  rw [show 7 * (k + 1) = 7 + 7 * k from by omega, Int.pow_add]
  rfl
theorem own_low {n : Int64} (h : 0 ≤ n.toInt) : (n &&& (-128 : Int64)) = 0 ↔ n.toInt < 128 := by
  have e1 : (n &&& (127 : Int64)).toInt = n.toInt % 2 ^ 7 := Jvm.Kit.i64_mask n 127 (k := 7) (by decide) (by decide)
  constructor
  · intro q
    have e2 : n = (n &&& (127 : Int64)) ||| (n &&& (-128 : Int64)) := by
      apply Int64.toBitVec_inj.mp
      rw [Int64.toBitVec_or, Int64.toBitVec_and, Int64.toBitVec_and, ← BitVec.and_or_distrib_left]
      rw [show (127 : Int64).toBitVec ||| (-128 : Int64).toBitVec = BitVec.allOnes 64 from by decide, BitVec.and_allOnes]
    rw [q, Int64.or_zero] at e2
    rw [e2, e1]; omega
  · intro q
    have e2 : n = n &&& (127 : Int64) := Int64.toInt_inj.mp (by rw [e1]; omega)
    rw [e2, Int64.and_assoc, show (127 : Int64) &&& (-128 : Int64) = 0 from by decide, Int64.and_zero]
/-- r turns ahead of the last byte -/
def own_T (n : Int64) (r : Nat) : Prop := 0 ≤ n.toInt ∧ n.toInt < 128 ^ (r + 1) ∧ (r = 0 ∨ (128 : Int) ^ r ≤ n.toInt)
theorem own_T_zero {n : Int64} (h : own_T n 0) : lcmpW (n &&& (-128 : Int64)) (0 : Int64) = (0 : Int32) := by
  rw [own_eqW, own_low h.1]; have := h.2.1; omega
theorem own_T_more {n : Int64} {r : Nat} (h : own_T n (r + 1)) : ¬ lcmpW (n &&& (-128 : Int64)) (0 : Int64) = (0 : Int32) := by
  rw [own_eqW, own_low h.1]
  have h2 := h.2.2
  have h3 : (0 : Int) < 128 ^ r := Int.pow_pos (by decide)
  rw [Int.pow_succ] at h2
  omega
theorem own_T_next {n : Int64} {r : Nat} (h : own_T n (r + 1)) : own_T (own_s7 n) r := by
  obtain ⟨h1, h2, h3⟩ := h
  have e := own_s7_toInt h1
  rw [Int.pow_succ] at h2
  refine ⟨by rw [e]; omega, by rw [e]; omega, ?_⟩
  rcases h3 with h3 | h3
  · omega
  · rw [Int.pow_succ] at h3
    exact Or.inr (by rw [e]; omega)
theorem own_T_ex {n : Int64} (h : 0 ≤ n.toInt) : ∃ r, r < 9 ∧ own_T n r := by
  have hhi := Int64.toInt_lt n
  by_cases c0 : n.toInt < 128 ^ 1; exact ⟨0, by decide, h, c0, Or.inl rfl⟩
  by_cases c1 : n.toInt < 128 ^ 2; exact ⟨1, by decide, h, c1, Or.inr (by omega)⟩
  by_cases c2 : n.toInt < 128 ^ 3; exact ⟨2, by decide, h, c2, Or.inr (by omega)⟩
  by_cases c3 : n.toInt < 128 ^ 4; exact ⟨3, by decide, h, c3, Or.inr (by omega)⟩
  by_cases c4 : n.toInt < 128 ^ 5; exact ⟨4, by decide, h, c4, Or.inr (by omega)⟩
  by_cases c5 : n.toInt < 128 ^ 6; exact ⟨5, by decide, h, c5, Or.inr (by omega)⟩
  by_cases c6 : n.toInt < 128 ^ 7; exact ⟨6, by decide, h, c6, Or.inr (by omega)⟩
  by_cases c7 : n.toInt < 128 ^ 8; exact ⟨7, by decide, h, c7, Or.inr (by omega)⟩
  exact ⟨8, by decide, h, by omega, Or.inr (by omega)⟩
/-- the array's content, by its places -/
def own_L (f : Nat → Int32) : List Value := (List.range 16).map (fun i => .int (f i))
def own_upd (f : Nat → Int32) (i : Nat) (v : Int32) : Nat → Int32 := fun j => if j = i then v else f j
theorem own_L_len (f : Nat → Int32) : (own_L f).length = 16 := by simp [own_L]
theorem own_set (f : Nat → Int32) {i : Nat} (v : Int32) (h : i < 16) : (own_L f).set i (.int v) = own_L (own_upd f i v) := by
  apply List.ext_getElem?
  intro j
  by_cases hj : j < 16
  · simp only [own_L, List.getElem?_set, List.getElem?_map, List.getElem?_range hj, List.length_map, List.length_range, own_upd]
    by_cases e : i = j
    · subst e; simp [h]
    · simp [e, Ne.symm e, fun q => e (Eq.symm q)]
  · have h1 : (own_L f).length = 16 := own_L_len f
    rw [List.getElem?_eq_none (by rw [List.length_set, h1]; omega), List.getElem?_eq_none (by rw [own_L_len]; omega)]
theorem own_get (f : Nat → Int32) {j : Nat} (d : Value) (h : j < 16) : (own_L f).getD j d = .int (f j) := by
  simp [own_L, List.getD_eq_getElem?_getD, List.getElem?_range h]
def own_put (f : Nat → Int32) (at_ : Int32) (n : Int64) : Nat → Nat → Int32
  | 0 => own_upd f at_.toNatClampNeg (own_b0 n)
  | r + 1 => own_put (own_upd f at_.toNatClampNeg (own_b1 n)) (at_ + (1 : Int32)) (own_s7 n) r
def own_end (at_ : Int32) : Nat → Int32
  | 0 => at_ + (1 : Int32)
  | r + 1 => own_end (at_ + (1 : Int32)) r
theorem own_end_toInt : ∀ (r : Nat) (a : Int32), 0 ≤ a.toInt → a.toInt + r < 16 → (own_end a r).toInt = a.toInt + r + 1
  | 0, a, h1, h2 => by show (a + (1 : Int32)).toInt = _; rw [Jvm.Kit.i32_add] <;> rw [show (1 : Int32).toInt = 1 from rfl] <;> omega
  | r + 1, a, h1, h2 => by
    have e : (a + (1 : Int32)).toInt = a.toInt + 1 := by rw [Jvm.Kit.i32_add] <;> rw [show (1 : Int32).toInt = 1 from rfl] <;> omega
    show (own_end (a + (1 : Int32)) r).toInt = _
    rw [own_end_toInt r _ (by omega) (by omega)]; omega
theorem own_clamp {a : Int32} (h : 0 ≤ a.toInt) : (a.toNatClampNeg : Int) = a.toInt := by
  simp only [Int32.toNatClampNeg]; omega
/-- what the law's 'at' expects of place j -/
def own_exp (j a len : Int32) (n : Int64) (c : Int32) : Int32 := if j - a < 0 then c else if j - a < len then (if j - a < len - (1 : Int32) then own_b1 (own_si n (j - a)) else own_b0 (own_si n (j - a))) else c
theorem own_put_out : ∀ (r : Nat) (f : Nat → Int32) (a : Int32) (n : Int64) (j : Nat), 0 ≤ a.toInt → a.toInt + r < 16 → ((j : Int) < a.toInt ∨ a.toInt + r < j) → own_put f a n r j = f j
  | 0, f, a, n, j, h1, h2, h3 => by
    have := own_clamp h1
    show own_upd f a.toNatClampNeg _ j = f j
    exact if_neg (by omega)
  | r + 1, f, a, n, j, h1, h2, h3 => by
    have := own_clamp h1
    have e : (a + (1 : Int32)).toInt = a.toInt + 1 := by rw [Jvm.Kit.i32_add] <;> rw [show (1 : Int32).toInt = 1 from rfl] <;> omega
    show own_put _ _ _ r j = f j
    rw [own_put_out r _ _ _ j (by omega) (by omega) (by omega)]
    exact if_neg (by omega)
theorem own_put_in : ∀ (r : Nat) (f : Nat → Int32) (a : Int32) (n : Int64) (j i : Int32), 0 ≤ a.toInt → a.toInt + r < 16 → r < 9 → own_T n r → 0 ≤ j.toInt → i.toInt = j.toInt - a.toInt → 0 ≤ i.toInt → i.toInt ≤ r →
    own_put f a n r j.toNatClampNeg = if i.toInt < r then own_b1 (own_si n i) else own_b0 (own_si n i)
  | 0, f, a, n, j, i, h1, h2, h9, hT, hj, hi, hi0, hir => by
    have ca := own_clamp h1
    have cj := own_clamp hj
    have e0 : i.toInt = 0 := by omega
    rw [if_neg (by omega), own_si_zero hT.1 e0]
    show own_upd f a.toNatClampNeg _ _ = _
    exact if_pos (by omega)
  | r + 1, f, a, n, j, i, h1, h2, h9, hT, hj, hi, hi0, hir => by
    have ca := own_clamp h1
    have cj := own_clamp hj
    have e : (a + (1 : Int32)).toInt = a.toInt + 1 := by rw [Jvm.Kit.i32_add] <;> rw [show (1 : Int32).toInt = 1 from rfl] <;> omega
    show own_put _ _ _ r _ = _
    by_cases hz : i.toInt = 0
    · rw [own_put_out r _ _ _ _ (by omega) (by omega) (by omega), if_pos (by omega), own_si_zero hT.1 hz]
      exact if_pos (by omega)
    · have ei : (i - (1 : Int32)).toInt = i.toInt - 1 := by rw [Jvm.Kit.i32_sub] <;> rw [show (1 : Int32).toInt = 1 from rfl] <;> omega
      have hn := own_T_next hT
      rw [own_put_in r _ _ _ j (i - (1 : Int32)) (by omega) (by omega) (by omega) hn hj (by omega) (by omega) (by omega)]
      obtain ⟨k, hk⟩ : ∃ k : Nat, i.toInt = ((k + 1 : Nat) : Int) := ⟨(i.toInt - 1).toNat, by omega⟩
      have es : own_si (own_s7 n) (i - (1 : Int32)) = own_si n i := own_si_succ hT.1 (k := k) (by omega) hk (by omega)
      rw [es]
      by_cases hl : i.toInt < ((r + 1 : Nat) : Int)
      · rw [if_pos hl, if_pos (by omega)]
      · rw [if_neg hl, if_neg (by omega)]
theorem own_all {a c len : Int32} {n : Int64} {r : Nat} (ha : 0 ≤ a.toInt) (har : a.toInt + r < 16) (hr : r < 9) (hT : own_T n r) (hl : len.toInt = r + 1) (j : Int32) (hj : ¬ j < 0 ∧ j < (16 : Int32)) : own_put (fun _ => c) a n r j.toNatClampNeg = own_exp j a len n c := by
  have hj0 : 0 ≤ j.toInt := by have := hj.1; rw [Int32.lt_iff_toInt_lt] at this; simp at this; exact this
  have hj1 : j.toInt < 16 := by have := hj.2; rw [Int32.lt_iff_toInt_lt] at this; exact this
  have ei : (j - a).toInt = j.toInt - a.toInt := Jvm.Kit.i32_sub (by omega) (by omega)
  have el : (len - (1 : Int32)).toInt = r := by rw [Jvm.Kit.i32_sub] <;> rw [show (1 : Int32).toInt = 1 from rfl] <;> omega
  have z0 : (0 : Int32).toInt = 0 := rfl
  have cj := own_clamp hj0
  unfold own_exp
  by_cases h1 : j - a < 0
  · rw [if_pos h1]
    rw [Int32.lt_iff_toInt_lt, z0] at h1
    exact own_put_out r _ _ _ _ ha har (by omega)
  · rw [if_neg h1]
    rw [Int32.lt_iff_toInt_lt, z0] at h1
    by_cases h2 : j - a < len
    · rw [if_pos h2]
      rw [Int32.lt_iff_toInt_lt] at h2
      rw [own_put_in r _ a n j (j - a) ha har hr hT hj0 ei (by omega) (by omega)]
      by_cases h3 : j - a < len - (1 : Int32)
      · rw [if_pos h3, if_pos (by rw [Int32.lt_iff_toInt_lt] at h3; omega)]
      · rw [if_neg h3, if_neg (by rw [Int32.lt_iff_toInt_lt] at h3; omega)]
    · rw [if_neg h2]
      rw [Int32.lt_iff_toInt_lt] at h2
      exact own_put_out r _ _ _ _ ha har (by omega)

theorem own_extWr {h0 h h' : Heap} {a : Addr} {sl : Nat} {v : Value} (E : Ext h0 h) (W : Wr h h' a sl v) (q : h0.size ≤ a) : Ext h0 h' :=
  ⟨by rw [W.size]; exact E.1, fun x c hx => by
    have hlt := (Array.getElem?_eq_some_iff.mp hx).1
    exact (Keep.of_wr W).2.1 x c (E.2 x c hx) (ninS (Nat.ne_of_lt (Nat.lt_of_lt_of_le hlt q)) nin0)⟩
theorem own_extTrans {h0 h h' : Heap} (E : Ext h0 h) (F : Ext h h') : Ext h0 h' := ⟨Nat.le_trans E.1 F.1, fun x c hx => F.2 x c (E.2 x c hx)⟩
theorem own_new {Z : State} {h : Heap} {a : Addr} {k : ClassId} {ty : FieldType} {z : Int32} {n : Nat} (A : Arr Z h a (newA k ty z) ty) (q : ¬ z < 0) (hn : z.toNatClampNeg = n) : Arv Z h a k ty z (List.replicate n (defaultValue ty)) (defaultValue ty) :=
  (Arv.new A q).pad (pad_rep [] (defaultValue ty) n)
section OwnArr
variable {p : Program} {l : Launch} {e : Env} {R : Room} {s : State} {m : MethodId} {args : Array Value} {below : List Frame} {meth : Method} {c : Code} {T : State} {locs : List Loc} {cells slots : Nat} {Z : State} {h h0 : Heap} {a : Addr} {k : ClassId} {n : Int32} {vs : List Value} {dv : Value} {n0 : Nat}
theorem own_stZ (X : Stand p l e R s m args below meth c T locs cells slots) (hx : p.tables.exec = Jvm.exec) (hZ : Z.Warmed39 s.vm) (eT : T.heap = h) (A : Arv Z h a k .boolean n vs dv) {j x : Int32} {i : Nat} (hj : ¬ j < 0 ∧ j < n) (hi : j.toNatClampNeg = i) (hlt : i < vs.length) (E0 : Ext h0 h) (hb : h0.size ≤ a) (N0 : Fr n0 locs) (hn0 : n0 ≤ a)
    {g : JFrame} (hg : g.method = m) {rest : List Value} (hs : g.stack = .int x :: .int j :: .ref a :: rest) (hd : decode c.code g.pc = .ok (.bastore, 1)) :
    ∃ T' h' L', Stand p l e R s m args below meth c T' L' cells slots ∧ T'.heap = h' ∧ Ext h0 h' ∧ Fr n0 L' ∧ Arv Z h' a k .boolean n (vs.set i (.int (nar .boolean x))) dv ∧ ∀ target, Steps p.tables e below (T'.setTop { g with pc := g.pc + 1, stack := rest }) target → Steps p.tables e below (T.setTop g) target := by
  obtain ⟨cl, Ar, q, S, N, H, G⟩ := A
  obtain ⟨T', h', X', e', W, st⟩ := stZ X hx hZ eT Ar (j := j) (x := x) (inb_of S hj) hg hs hd
  exact ⟨T', h', _, X', e', own_extWr E0 W hb, Fr.snoc X' N0 hn0, Arv.set Ar q S N H G (fits_nar_bool x) W i hi hlt, st⟩
theorem own_stB (X : Stand p l e R s m args below meth c T locs cells slots) (hx : p.tables.exec = Jvm.exec) (hZ : Z.Warmed39 s.vm) (eT : T.heap = h) (A : Arv Z h a k .byte n vs dv) {j x : Int32} {i : Nat} (hj : ¬ j < 0 ∧ j < n) (hi : j.toNatClampNeg = i) (hlt : i < vs.length) (E0 : Ext h0 h) (hb : h0.size ≤ a) (N0 : Fr n0 locs) (hn0 : n0 ≤ a)
    {g : JFrame} (hg : g.method = m) {rest : List Value} (hs : g.stack = .int x :: .int j :: .ref a :: rest) (hd : decode c.code g.pc = .ok (.bastore, 1)) :
    ∃ T' h' L', Stand p l e R s m args below meth c T' L' cells slots ∧ T'.heap = h' ∧ Ext h0 h' ∧ Fr n0 L' ∧ Arv Z h' a k .byte n (vs.set i (.int (nar .byte x))) dv ∧ ∀ target, Steps p.tables e below (T'.setTop { g with pc := g.pc + 1, stack := rest }) target → Steps p.tables e below (T.setTop g) target := by
  obtain ⟨cl, Ar, q, S, N, H, G⟩ := A
  obtain ⟨T', h', X', e', W, st⟩ := stB X hx hZ eT Ar (j := j) (x := x) (inb_of S hj) hg hs hd
  exact ⟨T', h', _, X', e', own_extWr E0 W hb, Fr.snoc X' N0 hn0, Arv.set Ar q S N H G (fits_nar_byte x) W i hi hlt, st⟩
theorem own_stR (X : Stand p l e R s m args below meth c T locs cells slots) (hx : p.tables.exec = Jvm.exec) (hZ : Z.Warmed39 s.vm) (eT : T.heap = h) {C : String} (A : Arv Z h a k (.object C) n vs dv) (O : Ovr Z k C) {j : Int32} {y : Addr} (Y : Exa Z h y C) {i : Nat} (hj : ¬ j < 0 ∧ j < n) (hi : j.toNatClampNeg = i) (hlt : i < vs.length) (E0 : Ext h0 h) (hb : h0.size ≤ a) (N0 : Fr n0 locs) (hn0 : n0 ≤ a)
    {g : JFrame} (hg : g.method = m) {rest : List Value} (hs : g.stack = .ref y :: .int j :: .ref a :: rest) (hd : decode c.code g.pc = .ok (.aastore, 1)) :
    ∃ T' h' L', Stand p l e R s m args below meth c T' L' cells slots ∧ T'.heap = h' ∧ Ext h0 h' ∧ Fr n0 L' ∧ Arv Z h' a k (.object C) n (vs.set i (.ref y)) dv ∧ ∀ target, Steps p.tables e below (T'.setTop { g with pc := g.pc + 1, stack := rest }) target → Steps p.tables e below (T.setTop g) target := by
  obtain ⟨cl, Ar, q, S, N, H, G⟩ := A
  obtain ⟨T', h', X', e', W, st⟩ := stR X hx hZ eT Ar (j := j) (v := .ref y) (inb_of S hj) rfl (Sto.ofV Ar q O (Ins.self Y)) hg hs hd
  exact ⟨T', h', _, X', e', own_extWr E0 W hb, Fr.snoc X' N0 hn0, Arv.set Ar q S N H G rfl W i hi hlt, st⟩
theorem own_ldZ (X : Stand p l e R s m args below meth c T locs cells slots) (hx : p.tables.exec = Jvm.exec) (hZ : Z.Warmed39 s.vm) (eT : T.heap = h) (A : Arv Z h a k .boolean n vs dv) {j : Int32} {v : Value} (hj : ¬ j < 0 ∧ j < n) (hv : vs.getD j.toNatClampNeg dv = v)
    {g : JFrame} (hg : g.method = m) {rest : List Value} (hs : g.stack = .int j :: .ref a :: rest) (hd : decode c.code g.pc = .ok (.baload, 1)) (target : State)
    (hr : Steps p.tables e below (T.setTop { g with pc := g.pc + 1, stack := v :: rest }) target) : Steps p.tables e below (T.setTop g) target := by
  obtain ⟨cl, Ar, q, S, N, H, G⟩ := A
  exact X.baloadBooleans hx (by rw [eT]; exact Ar.1) (State.isArrayOf_alike hZ.alike Ar.2.1) Ar.2.2 (inb_of S hj) (Has.at H (inb_of S hj) hv) hg hs hd target hr
theorem own_ldB (X : Stand p l e R s m args below meth c T locs cells slots) (hx : p.tables.exec = Jvm.exec) (hZ : Z.Warmed39 s.vm) (eT : T.heap = h) (A : Arv Z h a k .byte n vs dv) {j : Int32} {v : Value} (hj : ¬ j < 0 ∧ j < n) (hv : vs.getD j.toNatClampNeg dv = v)
    {g : JFrame} (hg : g.method = m) {rest : List Value} (hs : g.stack = .int j :: .ref a :: rest) (hd : decode c.code g.pc = .ok (.baload, 1)) (target : State)
    (hr : Steps p.tables e below (T.setTop { g with pc := g.pc + 1, stack := v :: rest }) target) : Steps p.tables e below (T.setTop g) target := by
  obtain ⟨cl, Ar, q, S, N, H, G⟩ := A
  exact X.baloadBytes hx (by rw [eT]; exact Ar.1) (State.isArrayOf_alike hZ.alike Ar.2.1) Ar.2.2 (inb_of S hj) (Has.at H (inb_of S hj) hv) hg hs hd target hr
theorem own_ldR (X : Stand p l e R s m args below meth c T locs cells slots) (hx : p.tables.exec = Jvm.exec) (hZ : Z.Warmed39 s.vm) (eT : T.heap = h) {C : String} (A : Arv Z h a k (.object C) n vs dv) {j : Int32} {v : Value} (hj : ¬ j < 0 ∧ j < n) (hv : vs.getD j.toNatClampNeg dv = v)
    {g : JFrame} (hg : g.method = m) {rest : List Value} (hs : g.stack = .int j :: .ref a :: rest) (hd : decode c.code g.pc = .ok (.aaload, 1)) (target : State)
    (hr : Steps p.tables e below (T.setTop { g with pc := g.pc + 1, stack := v :: rest }) target) : Steps p.tables e below (T.setTop g) target := by
  obtain ⟨cl, Ar, q, S, N, H, G⟩ := A
  exact X.aaload hx (by rw [eT]; exact Ar.1) (State.isArrayOf_alike hZ.alike Ar.2.1) rfl Ar.2.2 (inb_of S hj) (Has.at H (inb_of S hj) hv) hg hs hd target hr
end OwnArr

theorem own_stB2 {p : Program} {l : Launch} {e : Env} {R : Room} {s : State} {m : MethodId} {args : Array Value} {below : List Frame} {meth : Method} {c : Code} {T : State} {locs : List Loc} {cells slots : Nat} {Z : State} {h : Heap} {a : Addr} {k : ClassId} {n : Int32} {vs : List Value} {dv : Value} {n0 : Nat}
    (X : Stand p l e R s m args below meth c T locs cells slots) (hx : p.tables.exec = Jvm.exec) (hZ : Z.Warmed39 s.vm) (eT : T.heap = h) (A : Arv Z h a k .byte n vs dv) {j x : Int32} {i : Nat} (hj : ¬ j < 0 ∧ j < n) (hi : j.toNatClampNeg = i) (hlt : i < vs.length) (N0 : Fr n0 locs) (hn0 : n0 ≤ a)
    {g : JFrame} (hg : g.method = m) {rest : List Value} (hs : g.stack = .int x :: .int j :: .ref a :: rest) (hd : decode c.code g.pc = .ok (.bastore, 1)) :
    ∃ T' h' L', Stand p l e R s m args below meth c T' L' cells slots ∧ T'.heap = h' ∧ Keep h h' [a] ∧ Fr n0 L' ∧ Arv Z h' a k .byte n (vs.set i (.int (nar .byte x))) dv ∧ ∀ target, Steps p.tables e below (T'.setTop { g with pc := g.pc + 1, stack := rest }) target → Steps p.tables e below (T.setTop g) target := by
  obtain ⟨cl, Ar, q, S, N, H, G⟩ := A
  obtain ⟨T', h', X', e', W, st⟩ := stB X hx hZ eT Ar (j := j) (x := x) (inb_of S hj) hg hs hd
  exact ⟨T', h', _, X', e', Keep.of_wr W, Fr.snoc X' N0 hn0, Arv.set Ar q S N H G (fits_nar_byte x) W i hi hlt, st⟩
/-- what putUnsigned leaves -/
def own_QP (Z : State) (ob : Addr) (k : ClassId) (z : Int32) (f : Nat → Int32) (h0 : Heap) (n0 : Nat) (v : Option Value) (h : Heap) (L : List Loc) : Prop := v = some (.int z) ∧ Fr n0 L ∧ Keep h0 h [ob] ∧ Arv Z h ob k .byte (16 : Int32) (own_L f) (.int (0 : Int32))
theorem own_in {a : Int32} {r : Nat} (h1 : 0 ≤ a.toInt) (h2 : a.toInt + r < 16) : (¬ a < 0 ∧ a < (16 : Int32)) ∧ a.toNatClampNeg < 16 := by
  have c := own_clamp h1
  refine ⟨⟨?_, ?_⟩, by omega⟩
  · rw [Int32.lt_iff_toInt_lt]; show ¬ a.toInt < 0; omega
  · rw [Int32.lt_iff_toInt_lt]; show a.toInt < 16; omega
theorem own_lt {n K : Int64} {z : Int} (hz : K.toInt = z) : lcmpW n K < 0 ↔ n.toInt < z := by rw [own_ltW, Int64.lt_iff_toInt_lt, hz]
theorem own_place {j : Int32} (hj : ¬ j < 0 ∧ j < (16 : Int32)) : j.toNatClampNeg < 16 := by
  obtain ⟨h1, h2⟩ := hj
  rw [Int32.lt_iff_toInt_lt] at h1 h2
  have e1 : (0 : Int32).toInt = 0 := rfl
  have e2 : (16 : Int32).toInt = 16 := rfl
  have c := own_clamp (a := j) (by omega)
  omega
theorem own_len_toInt {r : Nat} (h : r < 9) : (Int32.ofNat (r + 1)).toInt = r + 1 := by
  rw [Int32.toInt_ofNat_of_lt (by omega)]; omega
theorem own_ends {a : Int32} {r : Nat} (h0 : 0 ≤ a.toInt) (h1 : a.toInt + r < 16) (h2 : r < 9) : own_end a r = a + Int32.ofNat (r + 1) := by
  apply Int32.toInt_inj.mp
  have e := own_len_toInt h2
  rw [own_end_toInt r a h0 h1, Jvm.Kit.i32_add (by omega) (by omega), e]; omega
theorem own_sh (q : Int32) : ∃ k, k < 64 ∧ ((q &&& (63 : Int32)) &&& 0x3f).toInt64.toUInt64.toNat = k := by
  have e1 : ((q &&& (63 : Int32)) &&& 0x3f).toInt = (q &&& (63 : Int32)).toInt % 2 ^ 6 := Jvm.Kit.i32_mask _ 0x3f (k := 6) (by decide) (by decide)
  have e2 := Jvm.Kit.i64_of_i32 ((q &&& (63 : Int32)) &&& 0x3f)
  generalize ((q &&& (63 : Int32)) &&& 0x3f).toInt64 = z at e2
  refine ⟨_, ?_, rfl⟩
  have e3 : z.toInt = z.toBitVec.toInt := rfl
  have e4 : z.toUInt64.toNat = z.toBitVec.toNat := rfl
  rw [BitVec.toInt_eq_toNat_cond] at e3
  rw [e4]
  have hb := z.toBitVec.isLt
  split at e3 <;> omega
theorem own_nn (p : Int64) (q : Int32) : 0 ≤ (((p &&& (9223372036854775807 : Int64)).toUInt64 >>> ((q &&& (63 : Int32)) &&& 0x3f).toInt64.toUInt64).toInt64).toInt := by
  have e1 : (p &&& (9223372036854775807 : Int64)).toInt = p.toInt % 2 ^ 63 := Jvm.Kit.i64_mask p _ (k := 63) (by decide) (by decide)
  have h0 : 0 ≤ (p &&& (9223372036854775807 : Int64)).toInt := by rw [e1]; omega
  obtain ⟨k, hk, e⟩ := own_sh q
  rw [Jvm.Kit.i64_lushr (Jvm.Kit.i64_nonneg.mpr h0) e hk]
  exact Int.ediv_nonneg h0 (Int.le_of_lt (Int.pow_pos (by decide)))
theorem own_at7 (q : Int32) : 0 ≤ (q &&& (7 : Int32)).toInt ∧ (q &&& (7 : Int32)).toInt ≤ 7 := by
  have e1 : (q &&& (7 : Int32)).toInt = q.toInt % 2 ^ 3 := Jvm.Kit.i32_mask q 7 (k := 3) (by decide) (by decide)
  omega
theorem d1_0 : decode prog_51_method_10_code 0 = .ok (.lload_n 2, 1) := by decide +kernel
theorem d1_1 : decode prog_51_method_10_code 1 = .ok (.ldc2_w 47, 3) := by decide +kernel
theorem d1_4 : decode prog_51_method_10_code 4 = .ok (.land, 1) := by decide +kernel
theorem d1_5 : decode prog_51_method_10_code 5 = .ok (.lconst 0, 1) := by decide +kernel
theorem d1_6 : decode prog_51_method_10_code 6 = .ok (.lcmp, 1) := by decide +kernel
theorem d1_7 : decode prog_51_method_10_code 7 = .ok (.ifCond .eq 28, 3) := by decide +kernel
theorem d1_35 : decode prog_51_method_10_code 35 = .ok (.aload_n 0, 1) := by decide +kernel
theorem d1_36 : decode prog_51_method_10_code 36 = .ok (.iload_n 1, 1) := by decide +kernel
theorem d1_37 : decode prog_51_method_10_code 37 = .ok (.iinc 1 1, 3) := by decide +kernel
theorem d1_40 : decode prog_51_method_10_code 40 = .ok (.lload_n 2, 1) := by decide +kernel
theorem d1_41 : decode prog_51_method_10_code 41 = .ok (.l2i, 1) := by decide +kernel
theorem d1_42 : decode prog_51_method_10_code 42 = .ok (.i2b, 1) := by decide +kernel
theorem d1_43 : decode prog_51_method_10_code 43 = .ok (.bastore, 1) := by decide +kernel
theorem d1_44 : decode prog_51_method_10_code 44 = .ok (.iload_n 1, 1) := by decide +kernel
theorem d1_45 : decode prog_51_method_10_code 45 = .ok (.ireturn, 1) := by decide +kernel
theorem d1_10 : decode prog_51_method_10_code 10 = .ok (.aload_n 0, 1) := by decide +kernel
theorem d1_11 : decode prog_51_method_10_code 11 = .ok (.iload_n 1, 1) := by decide +kernel
theorem d1_12 : decode prog_51_method_10_code 12 = .ok (.iinc 1 1, 3) := by decide +kernel
theorem d1_15 : decode prog_51_method_10_code 15 = .ok (.lload_n 2, 1) := by decide +kernel
theorem d1_16 : decode prog_51_method_10_code 16 = .ok (.ldc2_w 49, 3) := by decide +kernel
theorem d1_19 : decode prog_51_method_10_code 19 = .ok (.land, 1) := by decide +kernel
theorem d1_20 : decode prog_51_method_10_code 20 = .ok (.ldc2_w 51, 3) := by decide +kernel
theorem d1_23 : decode prog_51_method_10_code 23 = .ok (.lor, 1) := by decide +kernel
theorem d1_24 : decode prog_51_method_10_code 24 = .ok (.l2i, 1) := by decide +kernel
theorem d1_25 : decode prog_51_method_10_code 25 = .ok (.i2b, 1) := by decide +kernel
theorem d1_26 : decode prog_51_method_10_code 26 = .ok (.bastore, 1) := by decide +kernel
theorem d1_27 : decode prog_51_method_10_code 27 = .ok (.lload_n 2, 1) := by decide +kernel
theorem d1_28 : decode prog_51_method_10_code 28 = .ok (.bipush 7, 2) := by decide +kernel
theorem d1_30 : decode prog_51_method_10_code 30 = .ok (.lushr, 1) := by decide +kernel
theorem d1_31 : decode prog_51_method_10_code 31 = .ok (.lstore_n 2, 1) := by decide +kernel
theorem d1_32 : decode prog_51_method_10_code 32 = .ok (.goto (-32), 3) := by decide +kernel
theorem ef_1_RIJ (m : MethodId) (x0 : Addr) (x1 : Int32) (x2 : Int64) : entryFrame m #[(.ref x0), (.int x1), (.long x2)] 4 = mkF m 0 #[.val (.ref x0), .val (.int x1), .val (.long x2), .second] [] := by first | (simp [entryFrame, mkF, argsToLocals, Value.category]; done) | rfl
theorem pn_millrace_local_ByteSink : plainName "millrace/local/ByteSink" = true := by first | (simp [plainName, overriddenIn]; done) | decide +kernel
theorem d2_0 : decode method_3_code 0 = .ok (.lload_n 0, 1) := by decide +kernel
theorem d2_1 : decode method_3_code 1 = .ok (.ldc2_w 27, 3) := by decide +kernel
theorem d2_4 : decode method_3_code 4 = .ok (.lcmp, 1) := by decide +kernel
theorem d2_5 : decode method_3_code 5 = .ok (.ifCond .ge 5, 3) := by decide +kernel
theorem d2_8 : decode method_3_code 8 = .ok (.iconst 1, 1) := by decide +kernel
theorem d2_9 : decode method_3_code 9 = .ok (.ireturn, 1) := by decide +kernel
theorem ef_2_J (m : MethodId) (x0 : Int64) : entryFrame m #[(.long x0)] 2 = mkF m 0 #[.val (.long x0), .second] [] := by first | (simp [entryFrame, mkF, argsToLocals, Value.category]; done) | rfl
theorem pn_millrace_local_ByteSinkPutUnsignedPinLaw : plainName "millrace/local/ByteSinkPutUnsignedPinLaw" = true := by first | (simp [plainName, overriddenIn]; done) | decide +kernel
theorem d2_10 : decode method_3_code 10 = .ok (.lload_n 0, 1) := by decide +kernel
theorem d2_11 : decode method_3_code 11 = .ok (.ldc2_w 29, 3) := by decide +kernel
theorem d2_14 : decode method_3_code 14 = .ok (.lcmp, 1) := by decide +kernel
theorem d2_15 : decode method_3_code 15 = .ok (.ifCond .ge 5, 3) := by decide +kernel
theorem d2_18 : decode method_3_code 18 = .ok (.iconst 2, 1) := by decide +kernel
theorem d2_19 : decode method_3_code 19 = .ok (.ireturn, 1) := by decide +kernel
theorem d2_20 : decode method_3_code 20 = .ok (.lload_n 0, 1) := by decide +kernel
theorem d2_21 : decode method_3_code 21 = .ok (.ldc2_w 31, 3) := by decide +kernel
theorem d2_24 : decode method_3_code 24 = .ok (.lcmp, 1) := by decide +kernel
theorem d2_25 : decode method_3_code 25 = .ok (.ifCond .ge 5, 3) := by decide +kernel
theorem d2_28 : decode method_3_code 28 = .ok (.iconst 3, 1) := by decide +kernel
theorem d2_29 : decode method_3_code 29 = .ok (.ireturn, 1) := by decide +kernel
theorem d2_30 : decode method_3_code 30 = .ok (.lload_n 0, 1) := by decide +kernel
theorem d2_31 : decode method_3_code 31 = .ok (.ldc2_w 33, 3) := by decide +kernel
theorem d2_34 : decode method_3_code 34 = .ok (.lcmp, 1) := by decide +kernel
theorem d2_35 : decode method_3_code 35 = .ok (.ifCond .ge 5, 3) := by decide +kernel
theorem d2_38 : decode method_3_code 38 = .ok (.iconst 4, 1) := by decide +kernel
theorem d2_39 : decode method_3_code 39 = .ok (.ireturn, 1) := by decide +kernel
theorem d2_40 : decode method_3_code 40 = .ok (.lload_n 0, 1) := by decide +kernel
theorem d2_41 : decode method_3_code 41 = .ok (.ldc2_w 35, 3) := by decide +kernel
theorem d2_44 : decode method_3_code 44 = .ok (.lcmp, 1) := by decide +kernel
theorem d2_45 : decode method_3_code 45 = .ok (.ifCond .ge 5, 3) := by decide +kernel
theorem d2_48 : decode method_3_code 48 = .ok (.iconst 5, 1) := by decide +kernel
theorem d2_49 : decode method_3_code 49 = .ok (.ireturn, 1) := by decide +kernel
theorem d2_50 : decode method_3_code 50 = .ok (.lload_n 0, 1) := by decide +kernel
theorem d2_51 : decode method_3_code 51 = .ok (.ldc2_w 37, 3) := by decide +kernel
theorem d2_54 : decode method_3_code 54 = .ok (.lcmp, 1) := by decide +kernel
theorem d2_55 : decode method_3_code 55 = .ok (.ifCond .ge 6, 3) := by decide +kernel
theorem d2_58 : decode method_3_code 58 = .ok (.bipush 6, 2) := by decide +kernel
theorem d2_60 : decode method_3_code 60 = .ok (.ireturn, 1) := by decide +kernel
theorem d2_61 : decode method_3_code 61 = .ok (.lload_n 0, 1) := by decide +kernel
theorem d2_62 : decode method_3_code 62 = .ok (.ldc2_w 39, 3) := by decide +kernel
theorem d2_65 : decode method_3_code 65 = .ok (.lcmp, 1) := by decide +kernel
theorem d2_66 : decode method_3_code 66 = .ok (.ifCond .ge 6, 3) := by decide +kernel
theorem d2_69 : decode method_3_code 69 = .ok (.bipush 7, 2) := by decide +kernel
theorem d2_71 : decode method_3_code 71 = .ok (.ireturn, 1) := by decide +kernel
theorem d2_72 : decode method_3_code 72 = .ok (.lload_n 0, 1) := by decide +kernel
theorem d2_73 : decode method_3_code 73 = .ok (.ldc2_w 41, 3) := by decide +kernel
theorem d2_76 : decode method_3_code 76 = .ok (.lcmp, 1) := by decide +kernel
theorem d2_77 : decode method_3_code 77 = .ok (.ifCond .ge 6, 3) := by decide +kernel
theorem d2_80 : decode method_3_code 80 = .ok (.bipush 8, 2) := by decide +kernel
theorem d2_82 : decode method_3_code 82 = .ok (.ireturn, 1) := by decide +kernel
theorem d2_83 : decode method_3_code 83 = .ok (.bipush 9, 2) := by decide +kernel
theorem d2_85 : decode method_3_code 85 = .ok (.ireturn, 1) := by decide +kernel
theorem d3_0 : decode method_4_code 0 = .ok (.iload_n 1, 1) := by decide +kernel
theorem d3_1 : decode method_4_code 1 = .ok (.iload_n 2, 1) := by decide +kernel
theorem d3_2 : decode method_4_code 2 = .ok (.isub, 1) := by decide +kernel
theorem d3_3 : decode method_4_code 3 = .ok (.istore 7, 2) := by decide +kernel
theorem d3_5 : decode method_4_code 5 = .ok (.iload 7, 2) := by decide +kernel
theorem d3_7 : decode method_4_code 7 = .ok (.ifCond .lt 9, 3) := by decide +kernel
theorem d3_16 : decode method_4_code 16 = .ok (.iload 6, 2) := by decide +kernel
theorem d3_18 : decode method_4_code 18 = .ok (.istore 8, 2) := by decide +kernel
theorem d3_20 : decode method_4_code 20 = .ok (.goto 46, 3) := by decide +kernel
theorem d3_66 : decode method_4_code 66 = .ok (.aload_n 0, 1) := by decide +kernel
theorem d3_67 : decode method_4_code 67 = .ok (.iload_n 1, 1) := by decide +kernel
theorem d3_68 : decode method_4_code 68 = .ok (.baload, 1) := by decide +kernel
theorem d3_69 : decode method_4_code 69 = .ok (.iload 8, 2) := by decide +kernel
theorem d3_71 : decode method_4_code 71 = .ok (.if_icmp .ne 7, 3) := by decide +kernel
theorem d3_74 : decode method_4_code 74 = .ok (.iconst 1, 1) := by decide +kernel
theorem d3_75 : decode method_4_code 75 = .ok (.goto 4, 3) := by decide +kernel
theorem d3_79 : decode method_4_code 79 = .ok (.ireturn, 1) := by decide +kernel
theorem ef_3_RIIIJI (m : MethodId) (x0 : Addr) (x1 : Int32) (x2 : Int32) (x3 : Int32) (x4 : Int64) (x5 : Int32) : entryFrame m #[(.ref x0), (.int x1), (.int x2), (.int x3), (.long x4), (.int x5)] 9 = mkF m 0 #[.val (.ref x0), .val (.int x1), .val (.int x2), .val (.int x3), .val (.long x4), .second, .val (.int x5), .unset, .unset] [] := by first | (simp [entryFrame, mkF, argsToLocals, Value.category]; done) | rfl
theorem d3_10 : decode method_4_code 10 = .ok (.iload 7, 2) := by decide +kernel
theorem d3_12 : decode method_4_code 12 = .ok (.iload_n 3, 1) := by decide +kernel
theorem d3_13 : decode method_4_code 13 = .ok (.if_icmp .lt 10, 3) := by decide +kernel
theorem d3_23 : decode method_4_code 23 = .ok (.iload 7, 2) := by decide +kernel
theorem d3_25 : decode method_4_code 25 = .ok (.iload_n 3, 1) := by decide +kernel
theorem d3_26 : decode method_4_code 26 = .ok (.iconst 1, 1) := by decide +kernel
theorem d3_27 : decode method_4_code 27 = .ok (.isub, 1) := by decide +kernel
theorem d3_28 : decode method_4_code 28 = .ok (.if_icmp .ge 26, 3) := by decide +kernel
theorem d3_31 : decode method_4_code 31 = .ok (.lload 4, 2) := by decide +kernel
theorem d3_33 : decode method_4_code 33 = .ok (.bipush 7, 2) := by decide +kernel
theorem d3_35 : decode method_4_code 35 = .ok (.iload 7, 2) := by decide +kernel
theorem d3_37 : decode method_4_code 37 = .ok (.imul, 1) := by decide +kernel
theorem d3_38 : decode method_4_code 38 = .ok (.lushr, 1) := by decide +kernel
theorem d3_39 : decode method_4_code 39 = .ok (.ldc2_w 43, 3) := by decide +kernel
theorem d3_42 : decode method_4_code 42 = .ok (.land, 1) := by decide +kernel
theorem d3_43 : decode method_4_code 43 = .ok (.ldc2_w 27, 3) := by decide +kernel
theorem d3_46 : decode method_4_code 46 = .ok (.lor, 1) := by decide +kernel
theorem d3_47 : decode method_4_code 47 = .ok (.l2i, 1) := by decide +kernel
theorem d3_48 : decode method_4_code 48 = .ok (.i2b, 1) := by decide +kernel
theorem d3_49 : decode method_4_code 49 = .ok (.istore 8, 2) := by decide +kernel
theorem d3_51 : decode method_4_code 51 = .ok (.goto 15, 3) := by decide +kernel
theorem d3_54 : decode method_4_code 54 = .ok (.lload 4, 2) := by decide +kernel
theorem d3_56 : decode method_4_code 56 = .ok (.bipush 7, 2) := by decide +kernel
theorem d3_58 : decode method_4_code 58 = .ok (.iload 7, 2) := by decide +kernel
theorem d3_60 : decode method_4_code 60 = .ok (.imul, 1) := by decide +kernel
theorem d3_61 : decode method_4_code 61 = .ok (.lushr, 1) := by decide +kernel
theorem d3_62 : decode method_4_code 62 = .ok (.l2i, 1) := by decide +kernel
theorem d3_63 : decode method_4_code 63 = .ok (.i2b, 1) := by decide +kernel
theorem d3_64 : decode method_4_code 64 = .ok (.istore 8, 2) := by decide +kernel
theorem pd_0 : parseMethodDescriptor "([BIJ)I" = some ⟨[(.array .byte), .int, .long], some .int⟩ := by decide +kernel
theorem pd_1 : parseMethodDescriptor "(J)I" = some ⟨[.long], some .int⟩ := by decide +kernel
theorem pd_2 : parseMethodDescriptor "([BIIIJB)Z" = some ⟨[(.array .byte), .int, .int, .int, .long, .byte], some .boolean⟩ := by decide +kernel
theorem ef_0_JIII (m : MethodId) (x0 : Int64) (x1 : Int32) (x2 : Int32) (x3 : Int32) : entryFrame m #[(.long x0), (.int x1), (.int x2), (.int x3)] maxLocals = mkF m 0 #[.val (.long x0), .second, .val (.int x1), .val (.int x2), .val (.int x3), .unset, .unset, .unset, .unset, .unset, .unset, .unset] [] := by first | (simp [entryFrame, mkF, argsToLocals, Value.category, maxLocals]; done) | rfl

def Pins (Z : State) (h : Heap) (w : Nat → Addr) : Prop := True
theorem Pins.ext {Z : State} {h h' : Heap} {w : Nat → Addr} (E : Ext h h') (P : Pins Z h w) : Pins Z h' w := trivial
theorem own_pins {s : State} {args : Array Value} (hw : ∀ d ∈ tables_1, d.before args s = true) (hn : narrow_1.value args s none s [] = some true) : ∃ w, Pins s s.heap w := ⟨fun _ => 0, trivial⟩
set_option maxRecDepth 65536 in
set_option maxHeartbeats 40000000 in
theorem own_loop {p : Program} {l : Launch} {e : Env} {R : Room} {s : State} {m : MethodId} {args : Array Value} {below : List Frame} {meth : Method} {c : Code} {Z : State} {a0 : Array Value} {h0 : Heap} {n0 : Nat} (ob : Addr) (k : ClassId) (hx : p.tables.exec = Jvm.exec) (hZ : Z.Warmed39 s.vm) (hw : ∀ d ∈ tables_1, d.before a0 Z = true) (hby : c.code = prog_51_method_10_code) (hml : c.maxLocals = 4) (hown : s.vm.findClass "millrace/local/ByteSink" = some m.cls) (gg : n0 ≤ ob) (hlk : meth.locks = false) (hret : meth.sig.returnType = some .int) :
    ∀ (r : Nat) (s₁ : State) (h : Heap) (locs : List Loc) (at_ : Int32) (n : Int64) (f : Nat → Int32), Stand p l e R s m args below meth c s₁ locs 0 0 → s₁.heap = h → Keep h0 h [ob] → Fr n0 locs → Arv Z h ob k .byte (16 : Int32) (own_L f) (.int (0 : Int32)) → 0 ≤ at_.toInt → at_.toInt + r < 16 → own_T n r →
      own_Done p e below (s₁.setTop (mkF m 0 #[.val (.ref ob), .val (.int at_), .val (.long n), .second] [])) (fun oo U' => ∃ v L, oo = .returned v ∧ own_QP Z ob k (own_end at_ r) (own_put f at_ n r) h0 n0 v U'.heap L ∧ FrameEnd s oo U' L 0 0) := by
  intro r
  induction r with
  | zero =>
    intro s₁ h locs at_ n f X0 e0 K0 N0 Vo ha har hT
    obtain ⟨hj, h16⟩ := own_in ha har
    have c7 := own_T_zero hT
    refine own_step (W' := s₁.setTop (mkF m 1 #[.val (.ref ob), .val (.int at_), .val (.long n), .second] [(.long n)])) (fun _ k => XS.lloadN X0.here hx rfl (hb hby d1_0) rfl k) ?_
    refine own_step (W' := s₁.setTop (mkF m 4 #[.val (.ref ob), .val (.int at_), .val (.long n), .second] [(.long (-128 : Int64)), (.long n)])) (fun _ k => X0.ldc2Long hx hown (mvT hZ (hw _ (List.mem_of_getElem? (i := 6) rfl))) (g := (mkF m 1 #[.val (.ref ob), .val (.int at_), .val (.long n), .second] [(.long n)])) rfl (hb hby d1_1) _ k) ?_
    refine own_step (W' := s₁.setTop (mkF m 5 #[.val (.ref ob), .val (.int at_), .val (.long n), .second] [(.long (n &&& (-128 : Int64)))])) (fun _ k => XS.land X0.here hx rfl (hb hby d1_4) rfl k) ?_
    refine own_step (W' := s₁.setTop (mkF m 6 #[.val (.ref ob), .val (.int at_), .val (.long n), .second] [(.long (0 : Int64)), (.long (n &&& (-128 : Int64)))])) (fun _ k => XS.lconst X0.here hx rfl (hb hby d1_5) k) ?_
    refine own_step (W' := s₁.setTop (mkF m 7 #[.val (.ref ob), .val (.int at_), .val (.long n), .second] [(.int (lcmpW (n &&& (-128 : Int64)) (0 : Int64)))])) (fun _ k => XS.lcmp X0.here hx rfl (hb hby d1_6) rfl k) ?_
    refine own_step (W' := s₁.setTop (mkF m 35 #[.val (.ref ob), .val (.int at_), .val (.long n), .second] [])) (fun _ k => XS.ifYes X0.here hx rfl (pc0 := 7) (pc' := 35) rfl (hb hby d1_7) rfl ((if0 _ _).trans (teq c7).1) (by decide) (by decide) k) ?_
    refine own_step (W' := s₁.setTop (mkF m 36 #[.val (.ref ob), .val (.int at_), .val (.long n), .second] [(.ref ob)])) (fun _ k => XS.aloadN X0.here hx rfl (hb hby d1_35) rfl rfl k) ?_
    refine own_step (W' := s₁.setTop (mkF m 37 #[.val (.ref ob), .val (.int at_), .val (.long n), .second] [(.int at_), (.ref ob)])) (fun _ k => XS.iloadN X0.here hx rfl (hb hby d1_36) rfl k) ?_
    refine own_step (W' := s₁.setTop (mkF m 40 #[.val (.ref ob), .val (.int (at_ + (1 : Int32))), .val (.long n), .second] [(.int at_), (.ref ob)])) (fun _ k => XS.iinc X0.here hx rfl (hb hby d1_37) rfl (l' := #[.val (.ref ob), .val (.int (at_ + (1 : Int32))), .val (.long n), .second]) rfl k) ?_
    refine own_step (W' := s₁.setTop (mkF m 41 #[.val (.ref ob), .val (.int (at_ + (1 : Int32))), .val (.long n), .second] [(.long n), (.int at_), (.ref ob)])) (fun _ k => XS.lloadN X0.here hx rfl (hb hby d1_40) rfl k) ?_
    refine own_step (W' := s₁.setTop (mkF m 42 #[.val (.ref ob), .val (.int (at_ + (1 : Int32))), .val (.long n), .second] [(.int (n.toInt32)), (.int at_), (.ref ob)])) (fun _ k => XS.l2i X0.here hx rfl (hb hby d1_41) rfl k) ?_
    refine own_step (W' := s₁.setTop (mkF m 43 #[.val (.ref ob), .val (.int (at_ + (1 : Int32))), .val (.long n), .second] [(.int ((n.toInt32).toInt8.toInt32)), (.int at_), (.ref ob)])) (fun _ k => XS.i2b X0.here hx rfl (hb hby d1_42) rfl k) ?_
    obtain ⟨T1, h1, L1, X1, e1, K1, N1, W1, st1⟩ := own_stB2 X0 hx hZ e0 Vo (j := at_) (i := at_.toNatClampNeg) hj rfl (by rw [own_L_len]; exact h16) N0 gg (g := (mkF m 43 #[.val (.ref ob), .val (.int (at_ + (1 : Int32))), .val (.long n), .second] [(.int ((n.toInt32).toInt8.toInt32)), (.int at_), (.ref ob)])) rfl rfl (hb hby d1_43)
    rw [own_nar8, own_set _ _ h16] at W1
    refine own_step (W' := T1.setTop (mkF m 44 #[.val (.ref ob), .val (.int (at_ + (1 : Int32))), .val (.long n), .second] [])) (fun _ k => st1 _ k) ?_
    refine own_step (W' := T1.setTop (mkF m 45 #[.val (.ref ob), .val (.int (at_ + (1 : Int32))), .val (.long n), .second] [(.int (at_ + (1 : Int32)))])) (fun _ k => XS.iloadN X1.here hx rfl (hb hby d1_44) rfl k) ?_
    exact own_ret X1 hlk hret (v := (.int (at_ + (1 : Int32)))) (fun fs hr => retOut X1 hx hret rfl (Or.inl ⟨rfl, Or.inl rfl, _, rfl⟩) (hb hby d1_45) hr) ⟨rfl, N1, by rw [e1]; exact (Keep.trans K0 K1 fun x hx => Or.inl hx), by rw [e1]; exact W1⟩ (by decide) (by decide)
  | succ r ih =>
    intro s₁ h locs at_ n f X0 e0 K0 N0 Vo ha har hT
    obtain ⟨hj, h16⟩ := own_in ha har
    have c7 := own_T_more hT
    refine own_step (W' := s₁.setTop (mkF m 1 #[.val (.ref ob), .val (.int at_), .val (.long n), .second] [(.long n)])) (fun _ k => XS.lloadN X0.here hx rfl (hb hby d1_0) rfl k) ?_
    refine own_step (W' := s₁.setTop (mkF m 4 #[.val (.ref ob), .val (.int at_), .val (.long n), .second] [(.long (-128 : Int64)), (.long n)])) (fun _ k => X0.ldc2Long hx hown (mvT hZ (hw _ (List.mem_of_getElem? (i := 6) rfl))) (g := (mkF m 1 #[.val (.ref ob), .val (.int at_), .val (.long n), .second] [(.long n)])) rfl (hb hby d1_1) _ k) ?_
    refine own_step (W' := s₁.setTop (mkF m 5 #[.val (.ref ob), .val (.int at_), .val (.long n), .second] [(.long (n &&& (-128 : Int64)))])) (fun _ k => XS.land X0.here hx rfl (hb hby d1_4) rfl k) ?_
    refine own_step (W' := s₁.setTop (mkF m 6 #[.val (.ref ob), .val (.int at_), .val (.long n), .second] [(.long (0 : Int64)), (.long (n &&& (-128 : Int64)))])) (fun _ k => XS.lconst X0.here hx rfl (hb hby d1_5) k) ?_
    refine own_step (W' := s₁.setTop (mkF m 7 #[.val (.ref ob), .val (.int at_), .val (.long n), .second] [(.int (lcmpW (n &&& (-128 : Int64)) (0 : Int64)))])) (fun _ k => XS.lcmp X0.here hx rfl (hb hby d1_6) rfl k) ?_
    refine own_step (W' := s₁.setTop (mkF m 10 #[.val (.ref ob), .val (.int at_), .val (.long n), .second] [])) (fun _ k => XS.ifNo X0.here hx rfl (hb hby d1_7) rfl ((if0 _ _).trans (feq c7).1) k) ?_
    refine own_step (W' := s₁.setTop (mkF m 11 #[.val (.ref ob), .val (.int at_), .val (.long n), .second] [(.ref ob)])) (fun _ k => XS.aloadN X0.here hx rfl (hb hby d1_10) rfl rfl k) ?_
    refine own_step (W' := s₁.setTop (mkF m 12 #[.val (.ref ob), .val (.int at_), .val (.long n), .second] [(.int at_), (.ref ob)])) (fun _ k => XS.iloadN X0.here hx rfl (hb hby d1_11) rfl k) ?_
    refine own_step (W' := s₁.setTop (mkF m 15 #[.val (.ref ob), .val (.int (at_ + (1 : Int32))), .val (.long n), .second] [(.int at_), (.ref ob)])) (fun _ k => XS.iinc X0.here hx rfl (hb hby d1_12) rfl (l' := #[.val (.ref ob), .val (.int (at_ + (1 : Int32))), .val (.long n), .second]) rfl k) ?_
    refine own_step (W' := s₁.setTop (mkF m 16 #[.val (.ref ob), .val (.int (at_ + (1 : Int32))), .val (.long n), .second] [(.long n), (.int at_), (.ref ob)])) (fun _ k => XS.lloadN X0.here hx rfl (hb hby d1_15) rfl k) ?_
    refine own_step (W' := s₁.setTop (mkF m 19 #[.val (.ref ob), .val (.int (at_ + (1 : Int32))), .val (.long n), .second] [(.long (127 : Int64)), (.long n), (.int at_), (.ref ob)])) (fun _ k => X0.ldc2Long hx hown (mvT hZ (hw _ (List.mem_of_getElem? (i := 15) rfl))) (g := (mkF m 16 #[.val (.ref ob), .val (.int (at_ + (1 : Int32))), .val (.long n), .second] [(.long n), (.int at_), (.ref ob)])) rfl (hb hby d1_16) _ k) ?_
    refine own_step (W' := s₁.setTop (mkF m 20 #[.val (.ref ob), .val (.int (at_ + (1 : Int32))), .val (.long n), .second] [(.long (n &&& (127 : Int64))), (.int at_), (.ref ob)])) (fun _ k => XS.land X0.here hx rfl (hb hby d1_19) rfl k) ?_
    refine own_step (W' := s₁.setTop (mkF m 23 #[.val (.ref ob), .val (.int (at_ + (1 : Int32))), .val (.long n), .second] [(.long (128 : Int64)), (.long (n &&& (127 : Int64))), (.int at_), (.ref ob)])) (fun _ k => X0.ldc2Long hx hown (mvT hZ (hw _ (List.mem_of_getElem? (i := 16) rfl))) (g := (mkF m 20 #[.val (.ref ob), .val (.int (at_ + (1 : Int32))), .val (.long n), .second] [(.long (n &&& (127 : Int64))), (.int at_), (.ref ob)])) rfl (hb hby d1_20) _ k) ?_
    refine own_step (W' := s₁.setTop (mkF m 24 #[.val (.ref ob), .val (.int (at_ + (1 : Int32))), .val (.long n), .second] [(.long ((n &&& (127 : Int64)) ||| (128 : Int64))), (.int at_), (.ref ob)])) (fun _ k => XS.lor X0.here hx rfl (hb hby d1_23) rfl k) ?_
    refine own_step (W' := s₁.setTop (mkF m 25 #[.val (.ref ob), .val (.int (at_ + (1 : Int32))), .val (.long n), .second] [(.int (((n &&& (127 : Int64)) ||| (128 : Int64)).toInt32)), (.int at_), (.ref ob)])) (fun _ k => XS.l2i X0.here hx rfl (hb hby d1_24) rfl k) ?_
    refine own_step (W' := s₁.setTop (mkF m 26 #[.val (.ref ob), .val (.int (at_ + (1 : Int32))), .val (.long n), .second] [(.int ((((n &&& (127 : Int64)) ||| (128 : Int64)).toInt32).toInt8.toInt32)), (.int at_), (.ref ob)])) (fun _ k => XS.i2b X0.here hx rfl (hb hby d1_25) rfl k) ?_
    obtain ⟨T1, h1, L1, X1, e1, K1, N1, W1, st1⟩ := own_stB2 X0 hx hZ e0 Vo (j := at_) (i := at_.toNatClampNeg) hj rfl (by rw [own_L_len]; exact h16) N0 gg (g := (mkF m 26 #[.val (.ref ob), .val (.int (at_ + (1 : Int32))), .val (.long n), .second] [(.int ((((n &&& (127 : Int64)) ||| (128 : Int64)).toInt32).toInt8.toInt32)), (.int at_), (.ref ob)])) rfl rfl (hb hby d1_26)
    rw [own_nar8, own_set _ _ h16] at W1
    refine own_step (W' := T1.setTop (mkF m 27 #[.val (.ref ob), .val (.int (at_ + (1 : Int32))), .val (.long n), .second] [])) (fun _ k => st1 _ k) ?_
    refine own_step (W' := T1.setTop (mkF m 28 #[.val (.ref ob), .val (.int (at_ + (1 : Int32))), .val (.long n), .second] [(.long n)])) (fun _ k => XS.lloadN X1.here hx rfl (hb hby d1_27) rfl k) ?_
    refine own_step (W' := T1.setTop (mkF m 30 #[.val (.ref ob), .val (.int (at_ + (1 : Int32))), .val (.long n), .second] [(.int (7 : Int32)), (.long n)])) (fun _ k => XS.bipush X1.here hx rfl (hb hby d1_28) k) ?_
    refine own_step (W' := T1.setTop (mkF m 31 #[.val (.ref ob), .val (.int (at_ + (1 : Int32))), .val (.long n), .second] [(.long ((n.toUInt64 >>> ((7 : Int32) &&& 0x3f).toInt64.toUInt64).toInt64))])) (fun _ k => XS.lushr X1.here hx rfl (hb hby d1_30) rfl k) ?_
    refine own_step (W' := T1.setTop (mkF m 32 #[.val (.ref ob), .val (.int (at_ + (1 : Int32))), .val (.long ((n.toUInt64 >>> ((7 : Int32) &&& 0x3f).toInt64.toUInt64).toInt64)), .second] [])) (fun _ k => XS.lstoreN X1.here hx rfl (hb hby d1_31) rfl (l' := #[.val (.ref ob), .val (.int (at_ + (1 : Int32))), .val (.long ((n.toUInt64 >>> ((7 : Int32) &&& 0x3f).toInt64.toUInt64).toInt64)), .second]) rfl k) ?_
    refine own_step (W' := T1.setTop (mkF m 0 #[.val (.ref ob), .val (.int (at_ + (1 : Int32))), .val (.long ((n.toUInt64 >>> ((7 : Int32) &&& 0x3f).toInt64.toUInt64).toInt64)), .second] [])) (fun _ k => XS.goto X1.here hx rfl (pc0 := 32) (pc' := 0) rfl (hb hby d1_32) (by decide) (by decide) k) ?_
    have ea : (at_ + (1 : Int32)).toInt = at_.toInt + 1 := by rw [Jvm.Kit.i32_add] <;> rw [show (1 : Int32).toInt = 1 from rfl] <;> omega
    exact ih T1 h1 _ (at_ + (1 : Int32)) (own_s7 n) _ X1 e1 (Keep.trans K0 K1 fun x hx => Or.inl hx) N1 W1 (by omega) (by omega) (own_T_next hT)
set_option maxRecDepth 65536 in
set_option maxHeartbeats 40000000 in
theorem rm1 (l : Launch) (Z : State) (a0 : Array Value) (hw : ∀ d ∈ tables_1, d.before a0 Z = true) (ws : List Jvm.Cond) (ob : Addr) (k : ClassId) (at_ : Int32) (n : Int64) (f : Nat → Int32) (r : Nat) (h0 : Heap) (n0 : Nat) (Z0 : n0 ≤ h0.size) (Vo : Arv Z h0 ob k .byte (16 : Int32) (own_L f) (.int (0 : Int32))) (gg : n0 ≤ ob) (ha : 0 ≤ at_.toInt) (har : at_.toInt + r < 16) (hT : own_T n r) :
    MetFree l (⟨"millrace/local/ByteSink", "putUnsigned", "([BIJ)I"⟩ : MethodName) (head1 (Jvm.Cond.code (⟨"millrace/local/ByteSink", "putUnsigned", "([BIJ)I"⟩ : MethodName) prog_51_method_10_code 4 (some .int) :: ws) ({ frames := 0, cells := 0, slots := 0, locals := 0 } : Room)) (fun aA U => aA = #[(.ref ob), (.int at_), (.long n)] ∧ Z.Warmed39 U.vm ∧ U.heap = h0) (fun _ _ _ _ _ => True) (fun _ U o U' => ∃ v L, o = .returned v ∧ own_QP Z ob k (own_end at_ r) (own_put f at_ n r) h0 n0 v U'.heap L ∧ FrameEnd U o U' L ({ frames := 0, cells := 0, slots := 0, locals := 0 } : Room).cells ({ frames := 0, cells := 0, slots := 0, locals := 0 } : Room).slots) := by
  refine MetFree.of_bodySF (plainFor_of_name pn_millrace_local_ByteSink) hisR ?_
  intro p e s m args below meth c s₁ Bd hml0 hP hK
  obtain ⟨rfl, hZ, hh⟩ := hP
  have hx := Bd.exec
  have hby := Bd.bytes
  have hml : c.maxLocals = 4 := hml0
  have hown : s.vm.findClass "millrace/local/ByteSink" = some m.cls := findClass_of_methodNamed Bd.named
  have hnm := (name_of_methodNamed Bd.named Bd.method).1
  have X0 : Stand p l e ({ frames := 0, cells := 0, slots := 0, locals := 0 } : Room) s m #[(.ref ob), (.int at_), (.long n)] below meth c s₁ [] 0 0 := Stand.of_body Bd
  have e0 : s₁.heap = h0 := by rw [← hh, Bd.state]; rfl
  have N0 := Fr.nil n0
  refine own_enter (ef_1_RIJ m ob at_ n) ?_
  exact own_loop ob k hx hZ hw hby hml hown gg Bd.notSynchronized Bd.returns r s₁ h0 [] at_ n f X0 e0 (Keep.refl h0 [ob]) N0 Vo ha har hT
set_option maxRecDepth 65536 in
set_option maxHeartbeats 40000000 in
theorem rm2_0 (l : Launch) (Z : State) (a0 : Array Value) (hw : ∀ d ∈ tables_1, d.before a0 Z = true) (ws : List Jvm.Cond) (n : Int64)  (l0 : lcmpW n (128 : Int64) < 0) (h0 : Heap) (n0 : Nat) (Z0 : n0 ≤ h0.size) :
    MetFree l (⟨"millrace/local/ByteSinkPutUnsignedPinLaw", "lengthOf", "(J)I"⟩ : MethodName) (head1 (Jvm.Cond.code (⟨"millrace/local/ByteSinkPutUnsignedPinLaw", "lengthOf", "(J)I"⟩ : MethodName) method_3_code 2 (some .int) :: ws) ({ frames := 0, cells := 0, slots := 0, locals := 0 } : Room)) (fun aA U => aA = #[(.long n)] ∧ Z.Warmed39 U.vm ∧ U.heap = h0) (fun _ _ _ _ _ => True) (fun _ U o U' => ∃ v L, o = .returned v ∧ own_QK (some (.int (1 : Int32))) h0 n0 v U'.heap L ∧ FrameEnd U o U' L ({ frames := 0, cells := 0, slots := 0, locals := 0 } : Room).cells ({ frames := 0, cells := 0, slots := 0, locals := 0 } : Room).slots) := by
  refine MetFree.of_bodySF (plainFor_of_name pn_millrace_local_ByteSinkPutUnsignedPinLaw) hisR ?_
  intro p e s m args below meth c s₁ Bd hml0 hP hK
  obtain ⟨rfl, hZ, hh⟩ := hP
  have hx := Bd.exec
  have hby := Bd.bytes
  have hml : c.maxLocals = 2 := hml0
  have hown : s.vm.findClass "millrace/local/ByteSinkPutUnsignedPinLaw" = some m.cls := findClass_of_methodNamed Bd.named
  have hnm := (name_of_methodNamed Bd.named Bd.method).1
  have X0 : Stand p l e ({ frames := 0, cells := 0, slots := 0, locals := 0 } : Room) s m #[(.long n)] below meth c s₁ [] 0 0 := Stand.of_body Bd
  have e0 : s₁.heap = h0 := by rw [← hh, Bd.state]; rfl
  have N0 := Fr.nil n0
  refine own_enter (ef_2_J m n) ?_
  refine own_step (W' := s₁.setTop (mkF m 1 #[.val (.long n), .second] [(.long n)])) (fun _ k => XS.lloadN X0.here hx rfl (hb hby d2_0) rfl k) ?_
  refine own_step (W' := s₁.setTop (mkF m 4 #[.val (.long n), .second] [(.long (128 : Int64)), (.long n)])) (fun _ k => X0.ldc2Long hx hown (mvT hZ (hw _ (List.mem_of_getElem? (i := 11) rfl))) (g := (mkF m 1 #[.val (.long n), .second] [(.long n)])) rfl (hb hby d2_1) _ k) ?_
  refine own_step (W' := s₁.setTop (mkF m 5 #[.val (.long n), .second] [(.int (lcmpW n (128 : Int64)))])) (fun _ k => XS.lcmp X0.here hx rfl (hb hby d2_4) rfl k) ?_
  refine own_step (W' := s₁.setTop (mkF m 8 #[.val (.long n), .second] [])) (fun _ k => XS.ifNo X0.here hx rfl (hb hby d2_5) rfl ((if0 _ _).trans (tlt l0).2.1) k) ?_
  refine own_step (W' := s₁.setTop (mkF m 9 #[.val (.long n), .second] [(.int (1 : Int32))])) (fun _ k => XS.iconst X0.here hx rfl (hb hby d2_8) k) ?_
  exact own_ret X0 Bd.notSynchronized Bd.returns (v := (.int (1 : Int32))) (fun fs hr => retOut X0 hx Bd.returns rfl (Or.inl ⟨rfl, Or.inl rfl, _, rfl⟩) (hb hby d2_9) hr) ⟨rfl, N0, e0⟩ (by decide) (by decide)
set_option maxRecDepth 65536 in
set_option maxHeartbeats 40000000 in
theorem rm2_1 (l : Launch) (Z : State) (a0 : Array Value) (hw : ∀ d ∈ tables_1, d.before a0 Z = true) (ws : List Jvm.Cond) (n : Int64) (l0 : ¬ (lcmpW n (128 : Int64) < 0)) (l1 : lcmpW n (16384 : Int64) < 0) (h0 : Heap) (n0 : Nat) (Z0 : n0 ≤ h0.size) :
    MetFree l (⟨"millrace/local/ByteSinkPutUnsignedPinLaw", "lengthOf", "(J)I"⟩ : MethodName) (head1 (Jvm.Cond.code (⟨"millrace/local/ByteSinkPutUnsignedPinLaw", "lengthOf", "(J)I"⟩ : MethodName) method_3_code 2 (some .int) :: ws) ({ frames := 0, cells := 0, slots := 0, locals := 0 } : Room)) (fun aA U => aA = #[(.long n)] ∧ Z.Warmed39 U.vm ∧ U.heap = h0) (fun _ _ _ _ _ => True) (fun _ U o U' => ∃ v L, o = .returned v ∧ own_QK (some (.int (2 : Int32))) h0 n0 v U'.heap L ∧ FrameEnd U o U' L ({ frames := 0, cells := 0, slots := 0, locals := 0 } : Room).cells ({ frames := 0, cells := 0, slots := 0, locals := 0 } : Room).slots) := by
  refine MetFree.of_bodySF (plainFor_of_name pn_millrace_local_ByteSinkPutUnsignedPinLaw) hisR ?_
  intro p e s m args below meth c s₁ Bd hml0 hP hK
  obtain ⟨rfl, hZ, hh⟩ := hP
  have hx := Bd.exec
  have hby := Bd.bytes
  have hml : c.maxLocals = 2 := hml0
  have hown : s.vm.findClass "millrace/local/ByteSinkPutUnsignedPinLaw" = some m.cls := findClass_of_methodNamed Bd.named
  have hnm := (name_of_methodNamed Bd.named Bd.method).1
  have X0 : Stand p l e ({ frames := 0, cells := 0, slots := 0, locals := 0 } : Room) s m #[(.long n)] below meth c s₁ [] 0 0 := Stand.of_body Bd
  have e0 : s₁.heap = h0 := by rw [← hh, Bd.state]; rfl
  have N0 := Fr.nil n0
  refine own_enter (ef_2_J m n) ?_
  refine own_step (W' := s₁.setTop (mkF m 1 #[.val (.long n), .second] [(.long n)])) (fun _ k => XS.lloadN X0.here hx rfl (hb hby d2_0) rfl k) ?_
  refine own_step (W' := s₁.setTop (mkF m 4 #[.val (.long n), .second] [(.long (128 : Int64)), (.long n)])) (fun _ k => X0.ldc2Long hx hown (mvT hZ (hw _ (List.mem_of_getElem? (i := 11) rfl))) (g := (mkF m 1 #[.val (.long n), .second] [(.long n)])) rfl (hb hby d2_1) _ k) ?_
  refine own_step (W' := s₁.setTop (mkF m 5 #[.val (.long n), .second] [(.int (lcmpW n (128 : Int64)))])) (fun _ k => XS.lcmp X0.here hx rfl (hb hby d2_4) rfl k) ?_
  refine own_step (W' := s₁.setTop (mkF m 10 #[.val (.long n), .second] [])) (fun _ k => XS.ifYes X0.here hx rfl (pc0 := 5) (pc' := 10) rfl (hb hby d2_5) rfl ((if0 _ _).trans (flt l0).2.1) (by decide) (by decide) k) ?_
  refine own_step (W' := s₁.setTop (mkF m 11 #[.val (.long n), .second] [(.long n)])) (fun _ k => XS.lloadN X0.here hx rfl (hb hby d2_10) rfl k) ?_
  refine own_step (W' := s₁.setTop (mkF m 14 #[.val (.long n), .second] [(.long (16384 : Int64)), (.long n)])) (fun _ k => X0.ldc2Long hx hown (mvT hZ (hw _ (List.mem_of_getElem? (i := 17) rfl))) (g := (mkF m 11 #[.val (.long n), .second] [(.long n)])) rfl (hb hby d2_11) _ k) ?_
  refine own_step (W' := s₁.setTop (mkF m 15 #[.val (.long n), .second] [(.int (lcmpW n (16384 : Int64)))])) (fun _ k => XS.lcmp X0.here hx rfl (hb hby d2_14) rfl k) ?_
  refine own_step (W' := s₁.setTop (mkF m 18 #[.val (.long n), .second] [])) (fun _ k => XS.ifNo X0.here hx rfl (hb hby d2_15) rfl ((if0 _ _).trans (tlt l1).2.1) k) ?_
  refine own_step (W' := s₁.setTop (mkF m 19 #[.val (.long n), .second] [(.int (2 : Int32))])) (fun _ k => XS.iconst X0.here hx rfl (hb hby d2_18) k) ?_
  exact own_ret X0 Bd.notSynchronized Bd.returns (v := (.int (2 : Int32))) (fun fs hr => retOut X0 hx Bd.returns rfl (Or.inl ⟨rfl, Or.inl rfl, _, rfl⟩) (hb hby d2_19) hr) ⟨rfl, N0, e0⟩ (by decide) (by decide)
set_option maxRecDepth 65536 in
set_option maxHeartbeats 40000000 in
theorem rm2_2 (l : Launch) (Z : State) (a0 : Array Value) (hw : ∀ d ∈ tables_1, d.before a0 Z = true) (ws : List Jvm.Cond) (n : Int64) (l0 : ¬ (lcmpW n (128 : Int64) < 0)) (l1 : ¬ (lcmpW n (16384 : Int64) < 0)) (l2 : lcmpW n (2097152 : Int64) < 0) (h0 : Heap) (n0 : Nat) (Z0 : n0 ≤ h0.size) :
    MetFree l (⟨"millrace/local/ByteSinkPutUnsignedPinLaw", "lengthOf", "(J)I"⟩ : MethodName) (head1 (Jvm.Cond.code (⟨"millrace/local/ByteSinkPutUnsignedPinLaw", "lengthOf", "(J)I"⟩ : MethodName) method_3_code 2 (some .int) :: ws) ({ frames := 0, cells := 0, slots := 0, locals := 0 } : Room)) (fun aA U => aA = #[(.long n)] ∧ Z.Warmed39 U.vm ∧ U.heap = h0) (fun _ _ _ _ _ => True) (fun _ U o U' => ∃ v L, o = .returned v ∧ own_QK (some (.int (3 : Int32))) h0 n0 v U'.heap L ∧ FrameEnd U o U' L ({ frames := 0, cells := 0, slots := 0, locals := 0 } : Room).cells ({ frames := 0, cells := 0, slots := 0, locals := 0 } : Room).slots) := by
  refine MetFree.of_bodySF (plainFor_of_name pn_millrace_local_ByteSinkPutUnsignedPinLaw) hisR ?_
  intro p e s m args below meth c s₁ Bd hml0 hP hK
  obtain ⟨rfl, hZ, hh⟩ := hP
  have hx := Bd.exec
  have hby := Bd.bytes
  have hml : c.maxLocals = 2 := hml0
  have hown : s.vm.findClass "millrace/local/ByteSinkPutUnsignedPinLaw" = some m.cls := findClass_of_methodNamed Bd.named
  have hnm := (name_of_methodNamed Bd.named Bd.method).1
  have X0 : Stand p l e ({ frames := 0, cells := 0, slots := 0, locals := 0 } : Room) s m #[(.long n)] below meth c s₁ [] 0 0 := Stand.of_body Bd
  have e0 : s₁.heap = h0 := by rw [← hh, Bd.state]; rfl
  have N0 := Fr.nil n0
  refine own_enter (ef_2_J m n) ?_
  refine own_step (W' := s₁.setTop (mkF m 1 #[.val (.long n), .second] [(.long n)])) (fun _ k => XS.lloadN X0.here hx rfl (hb hby d2_0) rfl k) ?_
  refine own_step (W' := s₁.setTop (mkF m 4 #[.val (.long n), .second] [(.long (128 : Int64)), (.long n)])) (fun _ k => X0.ldc2Long hx hown (mvT hZ (hw _ (List.mem_of_getElem? (i := 11) rfl))) (g := (mkF m 1 #[.val (.long n), .second] [(.long n)])) rfl (hb hby d2_1) _ k) ?_
  refine own_step (W' := s₁.setTop (mkF m 5 #[.val (.long n), .second] [(.int (lcmpW n (128 : Int64)))])) (fun _ k => XS.lcmp X0.here hx rfl (hb hby d2_4) rfl k) ?_
  refine own_step (W' := s₁.setTop (mkF m 10 #[.val (.long n), .second] [])) (fun _ k => XS.ifYes X0.here hx rfl (pc0 := 5) (pc' := 10) rfl (hb hby d2_5) rfl ((if0 _ _).trans (flt l0).2.1) (by decide) (by decide) k) ?_
  refine own_step (W' := s₁.setTop (mkF m 11 #[.val (.long n), .second] [(.long n)])) (fun _ k => XS.lloadN X0.here hx rfl (hb hby d2_10) rfl k) ?_
  refine own_step (W' := s₁.setTop (mkF m 14 #[.val (.long n), .second] [(.long (16384 : Int64)), (.long n)])) (fun _ k => X0.ldc2Long hx hown (mvT hZ (hw _ (List.mem_of_getElem? (i := 17) rfl))) (g := (mkF m 11 #[.val (.long n), .second] [(.long n)])) rfl (hb hby d2_11) _ k) ?_
  refine own_step (W' := s₁.setTop (mkF m 15 #[.val (.long n), .second] [(.int (lcmpW n (16384 : Int64)))])) (fun _ k => XS.lcmp X0.here hx rfl (hb hby d2_14) rfl k) ?_
  refine own_step (W' := s₁.setTop (mkF m 20 #[.val (.long n), .second] [])) (fun _ k => XS.ifYes X0.here hx rfl (pc0 := 15) (pc' := 20) rfl (hb hby d2_15) rfl ((if0 _ _).trans (flt l1).2.1) (by decide) (by decide) k) ?_
  refine own_step (W' := s₁.setTop (mkF m 21 #[.val (.long n), .second] [(.long n)])) (fun _ k => XS.lloadN X0.here hx rfl (hb hby d2_20) rfl k) ?_
  refine own_step (W' := s₁.setTop (mkF m 24 #[.val (.long n), .second] [(.long (2097152 : Int64)), (.long n)])) (fun _ k => X0.ldc2Long hx hown (mvT hZ (hw _ (List.mem_of_getElem? (i := 18) rfl))) (g := (mkF m 21 #[.val (.long n), .second] [(.long n)])) rfl (hb hby d2_21) _ k) ?_
  refine own_step (W' := s₁.setTop (mkF m 25 #[.val (.long n), .second] [(.int (lcmpW n (2097152 : Int64)))])) (fun _ k => XS.lcmp X0.here hx rfl (hb hby d2_24) rfl k) ?_
  refine own_step (W' := s₁.setTop (mkF m 28 #[.val (.long n), .second] [])) (fun _ k => XS.ifNo X0.here hx rfl (hb hby d2_25) rfl ((if0 _ _).trans (tlt l2).2.1) k) ?_
  refine own_step (W' := s₁.setTop (mkF m 29 #[.val (.long n), .second] [(.int (3 : Int32))])) (fun _ k => XS.iconst X0.here hx rfl (hb hby d2_28) k) ?_
  exact own_ret X0 Bd.notSynchronized Bd.returns (v := (.int (3 : Int32))) (fun fs hr => retOut X0 hx Bd.returns rfl (Or.inl ⟨rfl, Or.inl rfl, _, rfl⟩) (hb hby d2_29) hr) ⟨rfl, N0, e0⟩ (by decide) (by decide)
set_option maxRecDepth 65536 in
set_option maxHeartbeats 40000000 in
theorem rm2_3 (l : Launch) (Z : State) (a0 : Array Value) (hw : ∀ d ∈ tables_1, d.before a0 Z = true) (ws : List Jvm.Cond) (n : Int64) (l0 : ¬ (lcmpW n (128 : Int64) < 0)) (l1 : ¬ (lcmpW n (16384 : Int64) < 0)) (l2 : ¬ (lcmpW n (2097152 : Int64) < 0)) (l3 : lcmpW n (268435456 : Int64) < 0) (h0 : Heap) (n0 : Nat) (Z0 : n0 ≤ h0.size) :
    MetFree l (⟨"millrace/local/ByteSinkPutUnsignedPinLaw", "lengthOf", "(J)I"⟩ : MethodName) (head1 (Jvm.Cond.code (⟨"millrace/local/ByteSinkPutUnsignedPinLaw", "lengthOf", "(J)I"⟩ : MethodName) method_3_code 2 (some .int) :: ws) ({ frames := 0, cells := 0, slots := 0, locals := 0 } : Room)) (fun aA U => aA = #[(.long n)] ∧ Z.Warmed39 U.vm ∧ U.heap = h0) (fun _ _ _ _ _ => True) (fun _ U o U' => ∃ v L, o = .returned v ∧ own_QK (some (.int (4 : Int32))) h0 n0 v U'.heap L ∧ FrameEnd U o U' L ({ frames := 0, cells := 0, slots := 0, locals := 0 } : Room).cells ({ frames := 0, cells := 0, slots := 0, locals := 0 } : Room).slots) := by
  refine MetFree.of_bodySF (plainFor_of_name pn_millrace_local_ByteSinkPutUnsignedPinLaw) hisR ?_
  intro p e s m args below meth c s₁ Bd hml0 hP hK
  obtain ⟨rfl, hZ, hh⟩ := hP
  have hx := Bd.exec
  have hby := Bd.bytes
  have hml : c.maxLocals = 2 := hml0
  have hown : s.vm.findClass "millrace/local/ByteSinkPutUnsignedPinLaw" = some m.cls := findClass_of_methodNamed Bd.named
  have hnm := (name_of_methodNamed Bd.named Bd.method).1
  have X0 : Stand p l e ({ frames := 0, cells := 0, slots := 0, locals := 0 } : Room) s m #[(.long n)] below meth c s₁ [] 0 0 := Stand.of_body Bd
  have e0 : s₁.heap = h0 := by rw [← hh, Bd.state]; rfl
  have N0 := Fr.nil n0
  refine own_enter (ef_2_J m n) ?_
  refine own_step (W' := s₁.setTop (mkF m 1 #[.val (.long n), .second] [(.long n)])) (fun _ k => XS.lloadN X0.here hx rfl (hb hby d2_0) rfl k) ?_
  refine own_step (W' := s₁.setTop (mkF m 4 #[.val (.long n), .second] [(.long (128 : Int64)), (.long n)])) (fun _ k => X0.ldc2Long hx hown (mvT hZ (hw _ (List.mem_of_getElem? (i := 11) rfl))) (g := (mkF m 1 #[.val (.long n), .second] [(.long n)])) rfl (hb hby d2_1) _ k) ?_
  refine own_step (W' := s₁.setTop (mkF m 5 #[.val (.long n), .second] [(.int (lcmpW n (128 : Int64)))])) (fun _ k => XS.lcmp X0.here hx rfl (hb hby d2_4) rfl k) ?_
  refine own_step (W' := s₁.setTop (mkF m 10 #[.val (.long n), .second] [])) (fun _ k => XS.ifYes X0.here hx rfl (pc0 := 5) (pc' := 10) rfl (hb hby d2_5) rfl ((if0 _ _).trans (flt l0).2.1) (by decide) (by decide) k) ?_
  refine own_step (W' := s₁.setTop (mkF m 11 #[.val (.long n), .second] [(.long n)])) (fun _ k => XS.lloadN X0.here hx rfl (hb hby d2_10) rfl k) ?_
  refine own_step (W' := s₁.setTop (mkF m 14 #[.val (.long n), .second] [(.long (16384 : Int64)), (.long n)])) (fun _ k => X0.ldc2Long hx hown (mvT hZ (hw _ (List.mem_of_getElem? (i := 17) rfl))) (g := (mkF m 11 #[.val (.long n), .second] [(.long n)])) rfl (hb hby d2_11) _ k) ?_
  refine own_step (W' := s₁.setTop (mkF m 15 #[.val (.long n), .second] [(.int (lcmpW n (16384 : Int64)))])) (fun _ k => XS.lcmp X0.here hx rfl (hb hby d2_14) rfl k) ?_
  refine own_step (W' := s₁.setTop (mkF m 20 #[.val (.long n), .second] [])) (fun _ k => XS.ifYes X0.here hx rfl (pc0 := 15) (pc' := 20) rfl (hb hby d2_15) rfl ((if0 _ _).trans (flt l1).2.1) (by decide) (by decide) k) ?_
  refine own_step (W' := s₁.setTop (mkF m 21 #[.val (.long n), .second] [(.long n)])) (fun _ k => XS.lloadN X0.here hx rfl (hb hby d2_20) rfl k) ?_
  refine own_step (W' := s₁.setTop (mkF m 24 #[.val (.long n), .second] [(.long (2097152 : Int64)), (.long n)])) (fun _ k => X0.ldc2Long hx hown (mvT hZ (hw _ (List.mem_of_getElem? (i := 18) rfl))) (g := (mkF m 21 #[.val (.long n), .second] [(.long n)])) rfl (hb hby d2_21) _ k) ?_
  refine own_step (W' := s₁.setTop (mkF m 25 #[.val (.long n), .second] [(.int (lcmpW n (2097152 : Int64)))])) (fun _ k => XS.lcmp X0.here hx rfl (hb hby d2_24) rfl k) ?_
  refine own_step (W' := s₁.setTop (mkF m 30 #[.val (.long n), .second] [])) (fun _ k => XS.ifYes X0.here hx rfl (pc0 := 25) (pc' := 30) rfl (hb hby d2_25) rfl ((if0 _ _).trans (flt l2).2.1) (by decide) (by decide) k) ?_
  refine own_step (W' := s₁.setTop (mkF m 31 #[.val (.long n), .second] [(.long n)])) (fun _ k => XS.lloadN X0.here hx rfl (hb hby d2_30) rfl k) ?_
  refine own_step (W' := s₁.setTop (mkF m 34 #[.val (.long n), .second] [(.long (268435456 : Int64)), (.long n)])) (fun _ k => X0.ldc2Long hx hown (mvT hZ (hw _ (List.mem_of_getElem? (i := 19) rfl))) (g := (mkF m 31 #[.val (.long n), .second] [(.long n)])) rfl (hb hby d2_31) _ k) ?_
  refine own_step (W' := s₁.setTop (mkF m 35 #[.val (.long n), .second] [(.int (lcmpW n (268435456 : Int64)))])) (fun _ k => XS.lcmp X0.here hx rfl (hb hby d2_34) rfl k) ?_
  refine own_step (W' := s₁.setTop (mkF m 38 #[.val (.long n), .second] [])) (fun _ k => XS.ifNo X0.here hx rfl (hb hby d2_35) rfl ((if0 _ _).trans (tlt l3).2.1) k) ?_
  refine own_step (W' := s₁.setTop (mkF m 39 #[.val (.long n), .second] [(.int (4 : Int32))])) (fun _ k => XS.iconst X0.here hx rfl (hb hby d2_38) k) ?_
  exact own_ret X0 Bd.notSynchronized Bd.returns (v := (.int (4 : Int32))) (fun fs hr => retOut X0 hx Bd.returns rfl (Or.inl ⟨rfl, Or.inl rfl, _, rfl⟩) (hb hby d2_39) hr) ⟨rfl, N0, e0⟩ (by decide) (by decide)
set_option maxRecDepth 65536 in
set_option maxHeartbeats 40000000 in
theorem rm2_4 (l : Launch) (Z : State) (a0 : Array Value) (hw : ∀ d ∈ tables_1, d.before a0 Z = true) (ws : List Jvm.Cond) (n : Int64) (l0 : ¬ (lcmpW n (128 : Int64) < 0)) (l1 : ¬ (lcmpW n (16384 : Int64) < 0)) (l2 : ¬ (lcmpW n (2097152 : Int64) < 0)) (l3 : ¬ (lcmpW n (268435456 : Int64) < 0)) (l4 : lcmpW n (34359738368 : Int64) < 0) (h0 : Heap) (n0 : Nat) (Z0 : n0 ≤ h0.size) :
    MetFree l (⟨"millrace/local/ByteSinkPutUnsignedPinLaw", "lengthOf", "(J)I"⟩ : MethodName) (head1 (Jvm.Cond.code (⟨"millrace/local/ByteSinkPutUnsignedPinLaw", "lengthOf", "(J)I"⟩ : MethodName) method_3_code 2 (some .int) :: ws) ({ frames := 0, cells := 0, slots := 0, locals := 0 } : Room)) (fun aA U => aA = #[(.long n)] ∧ Z.Warmed39 U.vm ∧ U.heap = h0) (fun _ _ _ _ _ => True) (fun _ U o U' => ∃ v L, o = .returned v ∧ own_QK (some (.int (5 : Int32))) h0 n0 v U'.heap L ∧ FrameEnd U o U' L ({ frames := 0, cells := 0, slots := 0, locals := 0 } : Room).cells ({ frames := 0, cells := 0, slots := 0, locals := 0 } : Room).slots) := by
  refine MetFree.of_bodySF (plainFor_of_name pn_millrace_local_ByteSinkPutUnsignedPinLaw) hisR ?_
  intro p e s m args below meth c s₁ Bd hml0 hP hK
  obtain ⟨rfl, hZ, hh⟩ := hP
  have hx := Bd.exec
  have hby := Bd.bytes
  have hml : c.maxLocals = 2 := hml0
  have hown : s.vm.findClass "millrace/local/ByteSinkPutUnsignedPinLaw" = some m.cls := findClass_of_methodNamed Bd.named
  have hnm := (name_of_methodNamed Bd.named Bd.method).1
  have X0 : Stand p l e ({ frames := 0, cells := 0, slots := 0, locals := 0 } : Room) s m #[(.long n)] below meth c s₁ [] 0 0 := Stand.of_body Bd
  have e0 : s₁.heap = h0 := by rw [← hh, Bd.state]; rfl
  have N0 := Fr.nil n0
  refine own_enter (ef_2_J m n) ?_
  refine own_step (W' := s₁.setTop (mkF m 1 #[.val (.long n), .second] [(.long n)])) (fun _ k => XS.lloadN X0.here hx rfl (hb hby d2_0) rfl k) ?_
  refine own_step (W' := s₁.setTop (mkF m 4 #[.val (.long n), .second] [(.long (128 : Int64)), (.long n)])) (fun _ k => X0.ldc2Long hx hown (mvT hZ (hw _ (List.mem_of_getElem? (i := 11) rfl))) (g := (mkF m 1 #[.val (.long n), .second] [(.long n)])) rfl (hb hby d2_1) _ k) ?_
  refine own_step (W' := s₁.setTop (mkF m 5 #[.val (.long n), .second] [(.int (lcmpW n (128 : Int64)))])) (fun _ k => XS.lcmp X0.here hx rfl (hb hby d2_4) rfl k) ?_
  refine own_step (W' := s₁.setTop (mkF m 10 #[.val (.long n), .second] [])) (fun _ k => XS.ifYes X0.here hx rfl (pc0 := 5) (pc' := 10) rfl (hb hby d2_5) rfl ((if0 _ _).trans (flt l0).2.1) (by decide) (by decide) k) ?_
  refine own_step (W' := s₁.setTop (mkF m 11 #[.val (.long n), .second] [(.long n)])) (fun _ k => XS.lloadN X0.here hx rfl (hb hby d2_10) rfl k) ?_
  refine own_step (W' := s₁.setTop (mkF m 14 #[.val (.long n), .second] [(.long (16384 : Int64)), (.long n)])) (fun _ k => X0.ldc2Long hx hown (mvT hZ (hw _ (List.mem_of_getElem? (i := 17) rfl))) (g := (mkF m 11 #[.val (.long n), .second] [(.long n)])) rfl (hb hby d2_11) _ k) ?_
  refine own_step (W' := s₁.setTop (mkF m 15 #[.val (.long n), .second] [(.int (lcmpW n (16384 : Int64)))])) (fun _ k => XS.lcmp X0.here hx rfl (hb hby d2_14) rfl k) ?_
  refine own_step (W' := s₁.setTop (mkF m 20 #[.val (.long n), .second] [])) (fun _ k => XS.ifYes X0.here hx rfl (pc0 := 15) (pc' := 20) rfl (hb hby d2_15) rfl ((if0 _ _).trans (flt l1).2.1) (by decide) (by decide) k) ?_
  refine own_step (W' := s₁.setTop (mkF m 21 #[.val (.long n), .second] [(.long n)])) (fun _ k => XS.lloadN X0.here hx rfl (hb hby d2_20) rfl k) ?_
  refine own_step (W' := s₁.setTop (mkF m 24 #[.val (.long n), .second] [(.long (2097152 : Int64)), (.long n)])) (fun _ k => X0.ldc2Long hx hown (mvT hZ (hw _ (List.mem_of_getElem? (i := 18) rfl))) (g := (mkF m 21 #[.val (.long n), .second] [(.long n)])) rfl (hb hby d2_21) _ k) ?_
  refine own_step (W' := s₁.setTop (mkF m 25 #[.val (.long n), .second] [(.int (lcmpW n (2097152 : Int64)))])) (fun _ k => XS.lcmp X0.here hx rfl (hb hby d2_24) rfl k) ?_
  refine own_step (W' := s₁.setTop (mkF m 30 #[.val (.long n), .second] [])) (fun _ k => XS.ifYes X0.here hx rfl (pc0 := 25) (pc' := 30) rfl (hb hby d2_25) rfl ((if0 _ _).trans (flt l2).2.1) (by decide) (by decide) k) ?_
  refine own_step (W' := s₁.setTop (mkF m 31 #[.val (.long n), .second] [(.long n)])) (fun _ k => XS.lloadN X0.here hx rfl (hb hby d2_30) rfl k) ?_
  refine own_step (W' := s₁.setTop (mkF m 34 #[.val (.long n), .second] [(.long (268435456 : Int64)), (.long n)])) (fun _ k => X0.ldc2Long hx hown (mvT hZ (hw _ (List.mem_of_getElem? (i := 19) rfl))) (g := (mkF m 31 #[.val (.long n), .second] [(.long n)])) rfl (hb hby d2_31) _ k) ?_
  refine own_step (W' := s₁.setTop (mkF m 35 #[.val (.long n), .second] [(.int (lcmpW n (268435456 : Int64)))])) (fun _ k => XS.lcmp X0.here hx rfl (hb hby d2_34) rfl k) ?_
  refine own_step (W' := s₁.setTop (mkF m 40 #[.val (.long n), .second] [])) (fun _ k => XS.ifYes X0.here hx rfl (pc0 := 35) (pc' := 40) rfl (hb hby d2_35) rfl ((if0 _ _).trans (flt l3).2.1) (by decide) (by decide) k) ?_
  refine own_step (W' := s₁.setTop (mkF m 41 #[.val (.long n), .second] [(.long n)])) (fun _ k => XS.lloadN X0.here hx rfl (hb hby d2_40) rfl k) ?_
  refine own_step (W' := s₁.setTop (mkF m 44 #[.val (.long n), .second] [(.long (34359738368 : Int64)), (.long n)])) (fun _ k => X0.ldc2Long hx hown (mvT hZ (hw _ (List.mem_of_getElem? (i := 20) rfl))) (g := (mkF m 41 #[.val (.long n), .second] [(.long n)])) rfl (hb hby d2_41) _ k) ?_
  refine own_step (W' := s₁.setTop (mkF m 45 #[.val (.long n), .second] [(.int (lcmpW n (34359738368 : Int64)))])) (fun _ k => XS.lcmp X0.here hx rfl (hb hby d2_44) rfl k) ?_
  refine own_step (W' := s₁.setTop (mkF m 48 #[.val (.long n), .second] [])) (fun _ k => XS.ifNo X0.here hx rfl (hb hby d2_45) rfl ((if0 _ _).trans (tlt l4).2.1) k) ?_
  refine own_step (W' := s₁.setTop (mkF m 49 #[.val (.long n), .second] [(.int (5 : Int32))])) (fun _ k => XS.iconst X0.here hx rfl (hb hby d2_48) k) ?_
  exact own_ret X0 Bd.notSynchronized Bd.returns (v := (.int (5 : Int32))) (fun fs hr => retOut X0 hx Bd.returns rfl (Or.inl ⟨rfl, Or.inl rfl, _, rfl⟩) (hb hby d2_49) hr) ⟨rfl, N0, e0⟩ (by decide) (by decide)
set_option maxRecDepth 65536 in
set_option maxHeartbeats 40000000 in
theorem rm2_5 (l : Launch) (Z : State) (a0 : Array Value) (hw : ∀ d ∈ tables_1, d.before a0 Z = true) (ws : List Jvm.Cond) (n : Int64) (l0 : ¬ (lcmpW n (128 : Int64) < 0)) (l1 : ¬ (lcmpW n (16384 : Int64) < 0)) (l2 : ¬ (lcmpW n (2097152 : Int64) < 0)) (l3 : ¬ (lcmpW n (268435456 : Int64) < 0)) (l4 : ¬ (lcmpW n (34359738368 : Int64) < 0)) (l5 : lcmpW n (4398046511104 : Int64) < 0) (h0 : Heap) (n0 : Nat) (Z0 : n0 ≤ h0.size) :
    MetFree l (⟨"millrace/local/ByteSinkPutUnsignedPinLaw", "lengthOf", "(J)I"⟩ : MethodName) (head1 (Jvm.Cond.code (⟨"millrace/local/ByteSinkPutUnsignedPinLaw", "lengthOf", "(J)I"⟩ : MethodName) method_3_code 2 (some .int) :: ws) ({ frames := 0, cells := 0, slots := 0, locals := 0 } : Room)) (fun aA U => aA = #[(.long n)] ∧ Z.Warmed39 U.vm ∧ U.heap = h0) (fun _ _ _ _ _ => True) (fun _ U o U' => ∃ v L, o = .returned v ∧ own_QK (some (.int (6 : Int32))) h0 n0 v U'.heap L ∧ FrameEnd U o U' L ({ frames := 0, cells := 0, slots := 0, locals := 0 } : Room).cells ({ frames := 0, cells := 0, slots := 0, locals := 0 } : Room).slots) := by
  refine MetFree.of_bodySF (plainFor_of_name pn_millrace_local_ByteSinkPutUnsignedPinLaw) hisR ?_
  intro p e s m args below meth c s₁ Bd hml0 hP hK
  obtain ⟨rfl, hZ, hh⟩ := hP
  have hx := Bd.exec
  have hby := Bd.bytes
  have hml : c.maxLocals = 2 := hml0
  have hown : s.vm.findClass "millrace/local/ByteSinkPutUnsignedPinLaw" = some m.cls := findClass_of_methodNamed Bd.named
  have hnm := (name_of_methodNamed Bd.named Bd.method).1
  have X0 : Stand p l e ({ frames := 0, cells := 0, slots := 0, locals := 0 } : Room) s m #[(.long n)] below meth c s₁ [] 0 0 := Stand.of_body Bd
  have e0 : s₁.heap = h0 := by rw [← hh, Bd.state]; rfl
  have N0 := Fr.nil n0
  refine own_enter (ef_2_J m n) ?_
  refine own_step (W' := s₁.setTop (mkF m 1 #[.val (.long n), .second] [(.long n)])) (fun _ k => XS.lloadN X0.here hx rfl (hb hby d2_0) rfl k) ?_
  refine own_step (W' := s₁.setTop (mkF m 4 #[.val (.long n), .second] [(.long (128 : Int64)), (.long n)])) (fun _ k => X0.ldc2Long hx hown (mvT hZ (hw _ (List.mem_of_getElem? (i := 11) rfl))) (g := (mkF m 1 #[.val (.long n), .second] [(.long n)])) rfl (hb hby d2_1) _ k) ?_
  refine own_step (W' := s₁.setTop (mkF m 5 #[.val (.long n), .second] [(.int (lcmpW n (128 : Int64)))])) (fun _ k => XS.lcmp X0.here hx rfl (hb hby d2_4) rfl k) ?_
  refine own_step (W' := s₁.setTop (mkF m 10 #[.val (.long n), .second] [])) (fun _ k => XS.ifYes X0.here hx rfl (pc0 := 5) (pc' := 10) rfl (hb hby d2_5) rfl ((if0 _ _).trans (flt l0).2.1) (by decide) (by decide) k) ?_
  refine own_step (W' := s₁.setTop (mkF m 11 #[.val (.long n), .second] [(.long n)])) (fun _ k => XS.lloadN X0.here hx rfl (hb hby d2_10) rfl k) ?_
  refine own_step (W' := s₁.setTop (mkF m 14 #[.val (.long n), .second] [(.long (16384 : Int64)), (.long n)])) (fun _ k => X0.ldc2Long hx hown (mvT hZ (hw _ (List.mem_of_getElem? (i := 17) rfl))) (g := (mkF m 11 #[.val (.long n), .second] [(.long n)])) rfl (hb hby d2_11) _ k) ?_
  refine own_step (W' := s₁.setTop (mkF m 15 #[.val (.long n), .second] [(.int (lcmpW n (16384 : Int64)))])) (fun _ k => XS.lcmp X0.here hx rfl (hb hby d2_14) rfl k) ?_
  refine own_step (W' := s₁.setTop (mkF m 20 #[.val (.long n), .second] [])) (fun _ k => XS.ifYes X0.here hx rfl (pc0 := 15) (pc' := 20) rfl (hb hby d2_15) rfl ((if0 _ _).trans (flt l1).2.1) (by decide) (by decide) k) ?_
  refine own_step (W' := s₁.setTop (mkF m 21 #[.val (.long n), .second] [(.long n)])) (fun _ k => XS.lloadN X0.here hx rfl (hb hby d2_20) rfl k) ?_
  refine own_step (W' := s₁.setTop (mkF m 24 #[.val (.long n), .second] [(.long (2097152 : Int64)), (.long n)])) (fun _ k => X0.ldc2Long hx hown (mvT hZ (hw _ (List.mem_of_getElem? (i := 18) rfl))) (g := (mkF m 21 #[.val (.long n), .second] [(.long n)])) rfl (hb hby d2_21) _ k) ?_
  refine own_step (W' := s₁.setTop (mkF m 25 #[.val (.long n), .second] [(.int (lcmpW n (2097152 : Int64)))])) (fun _ k => XS.lcmp X0.here hx rfl (hb hby d2_24) rfl k) ?_
  refine own_step (W' := s₁.setTop (mkF m 30 #[.val (.long n), .second] [])) (fun _ k => XS.ifYes X0.here hx rfl (pc0 := 25) (pc' := 30) rfl (hb hby d2_25) rfl ((if0 _ _).trans (flt l2).2.1) (by decide) (by decide) k) ?_
  refine own_step (W' := s₁.setTop (mkF m 31 #[.val (.long n), .second] [(.long n)])) (fun _ k => XS.lloadN X0.here hx rfl (hb hby d2_30) rfl k) ?_
  refine own_step (W' := s₁.setTop (mkF m 34 #[.val (.long n), .second] [(.long (268435456 : Int64)), (.long n)])) (fun _ k => X0.ldc2Long hx hown (mvT hZ (hw _ (List.mem_of_getElem? (i := 19) rfl))) (g := (mkF m 31 #[.val (.long n), .second] [(.long n)])) rfl (hb hby d2_31) _ k) ?_
  refine own_step (W' := s₁.setTop (mkF m 35 #[.val (.long n), .second] [(.int (lcmpW n (268435456 : Int64)))])) (fun _ k => XS.lcmp X0.here hx rfl (hb hby d2_34) rfl k) ?_
  refine own_step (W' := s₁.setTop (mkF m 40 #[.val (.long n), .second] [])) (fun _ k => XS.ifYes X0.here hx rfl (pc0 := 35) (pc' := 40) rfl (hb hby d2_35) rfl ((if0 _ _).trans (flt l3).2.1) (by decide) (by decide) k) ?_
  refine own_step (W' := s₁.setTop (mkF m 41 #[.val (.long n), .second] [(.long n)])) (fun _ k => XS.lloadN X0.here hx rfl (hb hby d2_40) rfl k) ?_
  refine own_step (W' := s₁.setTop (mkF m 44 #[.val (.long n), .second] [(.long (34359738368 : Int64)), (.long n)])) (fun _ k => X0.ldc2Long hx hown (mvT hZ (hw _ (List.mem_of_getElem? (i := 20) rfl))) (g := (mkF m 41 #[.val (.long n), .second] [(.long n)])) rfl (hb hby d2_41) _ k) ?_
  refine own_step (W' := s₁.setTop (mkF m 45 #[.val (.long n), .second] [(.int (lcmpW n (34359738368 : Int64)))])) (fun _ k => XS.lcmp X0.here hx rfl (hb hby d2_44) rfl k) ?_
  refine own_step (W' := s₁.setTop (mkF m 50 #[.val (.long n), .second] [])) (fun _ k => XS.ifYes X0.here hx rfl (pc0 := 45) (pc' := 50) rfl (hb hby d2_45) rfl ((if0 _ _).trans (flt l4).2.1) (by decide) (by decide) k) ?_
  refine own_step (W' := s₁.setTop (mkF m 51 #[.val (.long n), .second] [(.long n)])) (fun _ k => XS.lloadN X0.here hx rfl (hb hby d2_50) rfl k) ?_
  refine own_step (W' := s₁.setTop (mkF m 54 #[.val (.long n), .second] [(.long (4398046511104 : Int64)), (.long n)])) (fun _ k => X0.ldc2Long hx hown (mvT hZ (hw _ (List.mem_of_getElem? (i := 22) rfl))) (g := (mkF m 51 #[.val (.long n), .second] [(.long n)])) rfl (hb hby d2_51) _ k) ?_
  refine own_step (W' := s₁.setTop (mkF m 55 #[.val (.long n), .second] [(.int (lcmpW n (4398046511104 : Int64)))])) (fun _ k => XS.lcmp X0.here hx rfl (hb hby d2_54) rfl k) ?_
  refine own_step (W' := s₁.setTop (mkF m 58 #[.val (.long n), .second] [])) (fun _ k => XS.ifNo X0.here hx rfl (hb hby d2_55) rfl ((if0 _ _).trans (tlt l5).2.1) k) ?_
  refine own_step (W' := s₁.setTop (mkF m 60 #[.val (.long n), .second] [(.int (6 : Int32))])) (fun _ k => XS.bipush X0.here hx rfl (hb hby d2_58) k) ?_
  exact own_ret X0 Bd.notSynchronized Bd.returns (v := (.int (6 : Int32))) (fun fs hr => retOut X0 hx Bd.returns rfl (Or.inl ⟨rfl, Or.inl rfl, _, rfl⟩) (hb hby d2_60) hr) ⟨rfl, N0, e0⟩ (by decide) (by decide)
set_option maxRecDepth 65536 in
set_option maxHeartbeats 40000000 in
theorem rm2_6 (l : Launch) (Z : State) (a0 : Array Value) (hw : ∀ d ∈ tables_1, d.before a0 Z = true) (ws : List Jvm.Cond) (n : Int64) (l0 : ¬ (lcmpW n (128 : Int64) < 0)) (l1 : ¬ (lcmpW n (16384 : Int64) < 0)) (l2 : ¬ (lcmpW n (2097152 : Int64) < 0)) (l3 : ¬ (lcmpW n (268435456 : Int64) < 0)) (l4 : ¬ (lcmpW n (34359738368 : Int64) < 0)) (l5 : ¬ (lcmpW n (4398046511104 : Int64) < 0)) (l6 : lcmpW n (562949953421312 : Int64) < 0) (h0 : Heap) (n0 : Nat) (Z0 : n0 ≤ h0.size) :
    MetFree l (⟨"millrace/local/ByteSinkPutUnsignedPinLaw", "lengthOf", "(J)I"⟩ : MethodName) (head1 (Jvm.Cond.code (⟨"millrace/local/ByteSinkPutUnsignedPinLaw", "lengthOf", "(J)I"⟩ : MethodName) method_3_code 2 (some .int) :: ws) ({ frames := 0, cells := 0, slots := 0, locals := 0 } : Room)) (fun aA U => aA = #[(.long n)] ∧ Z.Warmed39 U.vm ∧ U.heap = h0) (fun _ _ _ _ _ => True) (fun _ U o U' => ∃ v L, o = .returned v ∧ own_QK (some (.int (7 : Int32))) h0 n0 v U'.heap L ∧ FrameEnd U o U' L ({ frames := 0, cells := 0, slots := 0, locals := 0 } : Room).cells ({ frames := 0, cells := 0, slots := 0, locals := 0 } : Room).slots) := by
  refine MetFree.of_bodySF (plainFor_of_name pn_millrace_local_ByteSinkPutUnsignedPinLaw) hisR ?_
  intro p e s m args below meth c s₁ Bd hml0 hP hK
  obtain ⟨rfl, hZ, hh⟩ := hP
  have hx := Bd.exec
  have hby := Bd.bytes
  have hml : c.maxLocals = 2 := hml0
  have hown : s.vm.findClass "millrace/local/ByteSinkPutUnsignedPinLaw" = some m.cls := findClass_of_methodNamed Bd.named
  have hnm := (name_of_methodNamed Bd.named Bd.method).1
  have X0 : Stand p l e ({ frames := 0, cells := 0, slots := 0, locals := 0 } : Room) s m #[(.long n)] below meth c s₁ [] 0 0 := Stand.of_body Bd
  have e0 : s₁.heap = h0 := by rw [← hh, Bd.state]; rfl
  have N0 := Fr.nil n0
  refine own_enter (ef_2_J m n) ?_
  refine own_step (W' := s₁.setTop (mkF m 1 #[.val (.long n), .second] [(.long n)])) (fun _ k => XS.lloadN X0.here hx rfl (hb hby d2_0) rfl k) ?_
  refine own_step (W' := s₁.setTop (mkF m 4 #[.val (.long n), .second] [(.long (128 : Int64)), (.long n)])) (fun _ k => X0.ldc2Long hx hown (mvT hZ (hw _ (List.mem_of_getElem? (i := 11) rfl))) (g := (mkF m 1 #[.val (.long n), .second] [(.long n)])) rfl (hb hby d2_1) _ k) ?_
  refine own_step (W' := s₁.setTop (mkF m 5 #[.val (.long n), .second] [(.int (lcmpW n (128 : Int64)))])) (fun _ k => XS.lcmp X0.here hx rfl (hb hby d2_4) rfl k) ?_
  refine own_step (W' := s₁.setTop (mkF m 10 #[.val (.long n), .second] [])) (fun _ k => XS.ifYes X0.here hx rfl (pc0 := 5) (pc' := 10) rfl (hb hby d2_5) rfl ((if0 _ _).trans (flt l0).2.1) (by decide) (by decide) k) ?_
  refine own_step (W' := s₁.setTop (mkF m 11 #[.val (.long n), .second] [(.long n)])) (fun _ k => XS.lloadN X0.here hx rfl (hb hby d2_10) rfl k) ?_
  refine own_step (W' := s₁.setTop (mkF m 14 #[.val (.long n), .second] [(.long (16384 : Int64)), (.long n)])) (fun _ k => X0.ldc2Long hx hown (mvT hZ (hw _ (List.mem_of_getElem? (i := 17) rfl))) (g := (mkF m 11 #[.val (.long n), .second] [(.long n)])) rfl (hb hby d2_11) _ k) ?_
  refine own_step (W' := s₁.setTop (mkF m 15 #[.val (.long n), .second] [(.int (lcmpW n (16384 : Int64)))])) (fun _ k => XS.lcmp X0.here hx rfl (hb hby d2_14) rfl k) ?_
  refine own_step (W' := s₁.setTop (mkF m 20 #[.val (.long n), .second] [])) (fun _ k => XS.ifYes X0.here hx rfl (pc0 := 15) (pc' := 20) rfl (hb hby d2_15) rfl ((if0 _ _).trans (flt l1).2.1) (by decide) (by decide) k) ?_
  refine own_step (W' := s₁.setTop (mkF m 21 #[.val (.long n), .second] [(.long n)])) (fun _ k => XS.lloadN X0.here hx rfl (hb hby d2_20) rfl k) ?_
  refine own_step (W' := s₁.setTop (mkF m 24 #[.val (.long n), .second] [(.long (2097152 : Int64)), (.long n)])) (fun _ k => X0.ldc2Long hx hown (mvT hZ (hw _ (List.mem_of_getElem? (i := 18) rfl))) (g := (mkF m 21 #[.val (.long n), .second] [(.long n)])) rfl (hb hby d2_21) _ k) ?_
  refine own_step (W' := s₁.setTop (mkF m 25 #[.val (.long n), .second] [(.int (lcmpW n (2097152 : Int64)))])) (fun _ k => XS.lcmp X0.here hx rfl (hb hby d2_24) rfl k) ?_
  refine own_step (W' := s₁.setTop (mkF m 30 #[.val (.long n), .second] [])) (fun _ k => XS.ifYes X0.here hx rfl (pc0 := 25) (pc' := 30) rfl (hb hby d2_25) rfl ((if0 _ _).trans (flt l2).2.1) (by decide) (by decide) k) ?_
  refine own_step (W' := s₁.setTop (mkF m 31 #[.val (.long n), .second] [(.long n)])) (fun _ k => XS.lloadN X0.here hx rfl (hb hby d2_30) rfl k) ?_
  refine own_step (W' := s₁.setTop (mkF m 34 #[.val (.long n), .second] [(.long (268435456 : Int64)), (.long n)])) (fun _ k => X0.ldc2Long hx hown (mvT hZ (hw _ (List.mem_of_getElem? (i := 19) rfl))) (g := (mkF m 31 #[.val (.long n), .second] [(.long n)])) rfl (hb hby d2_31) _ k) ?_
  refine own_step (W' := s₁.setTop (mkF m 35 #[.val (.long n), .second] [(.int (lcmpW n (268435456 : Int64)))])) (fun _ k => XS.lcmp X0.here hx rfl (hb hby d2_34) rfl k) ?_
  refine own_step (W' := s₁.setTop (mkF m 40 #[.val (.long n), .second] [])) (fun _ k => XS.ifYes X0.here hx rfl (pc0 := 35) (pc' := 40) rfl (hb hby d2_35) rfl ((if0 _ _).trans (flt l3).2.1) (by decide) (by decide) k) ?_
  refine own_step (W' := s₁.setTop (mkF m 41 #[.val (.long n), .second] [(.long n)])) (fun _ k => XS.lloadN X0.here hx rfl (hb hby d2_40) rfl k) ?_
  refine own_step (W' := s₁.setTop (mkF m 44 #[.val (.long n), .second] [(.long (34359738368 : Int64)), (.long n)])) (fun _ k => X0.ldc2Long hx hown (mvT hZ (hw _ (List.mem_of_getElem? (i := 20) rfl))) (g := (mkF m 41 #[.val (.long n), .second] [(.long n)])) rfl (hb hby d2_41) _ k) ?_
  refine own_step (W' := s₁.setTop (mkF m 45 #[.val (.long n), .second] [(.int (lcmpW n (34359738368 : Int64)))])) (fun _ k => XS.lcmp X0.here hx rfl (hb hby d2_44) rfl k) ?_
  refine own_step (W' := s₁.setTop (mkF m 50 #[.val (.long n), .second] [])) (fun _ k => XS.ifYes X0.here hx rfl (pc0 := 45) (pc' := 50) rfl (hb hby d2_45) rfl ((if0 _ _).trans (flt l4).2.1) (by decide) (by decide) k) ?_
  refine own_step (W' := s₁.setTop (mkF m 51 #[.val (.long n), .second] [(.long n)])) (fun _ k => XS.lloadN X0.here hx rfl (hb hby d2_50) rfl k) ?_
  refine own_step (W' := s₁.setTop (mkF m 54 #[.val (.long n), .second] [(.long (4398046511104 : Int64)), (.long n)])) (fun _ k => X0.ldc2Long hx hown (mvT hZ (hw _ (List.mem_of_getElem? (i := 22) rfl))) (g := (mkF m 51 #[.val (.long n), .second] [(.long n)])) rfl (hb hby d2_51) _ k) ?_
  refine own_step (W' := s₁.setTop (mkF m 55 #[.val (.long n), .second] [(.int (lcmpW n (4398046511104 : Int64)))])) (fun _ k => XS.lcmp X0.here hx rfl (hb hby d2_54) rfl k) ?_
  refine own_step (W' := s₁.setTop (mkF m 61 #[.val (.long n), .second] [])) (fun _ k => XS.ifYes X0.here hx rfl (pc0 := 55) (pc' := 61) rfl (hb hby d2_55) rfl ((if0 _ _).trans (flt l5).2.1) (by decide) (by decide) k) ?_
  refine own_step (W' := s₁.setTop (mkF m 62 #[.val (.long n), .second] [(.long n)])) (fun _ k => XS.lloadN X0.here hx rfl (hb hby d2_61) rfl k) ?_
  refine own_step (W' := s₁.setTop (mkF m 65 #[.val (.long n), .second] [(.long (562949953421312 : Int64)), (.long n)])) (fun _ k => X0.ldc2Long hx hown (mvT hZ (hw _ (List.mem_of_getElem? (i := 23) rfl))) (g := (mkF m 62 #[.val (.long n), .second] [(.long n)])) rfl (hb hby d2_62) _ k) ?_
  refine own_step (W' := s₁.setTop (mkF m 66 #[.val (.long n), .second] [(.int (lcmpW n (562949953421312 : Int64)))])) (fun _ k => XS.lcmp X0.here hx rfl (hb hby d2_65) rfl k) ?_
  refine own_step (W' := s₁.setTop (mkF m 69 #[.val (.long n), .second] [])) (fun _ k => XS.ifNo X0.here hx rfl (hb hby d2_66) rfl ((if0 _ _).trans (tlt l6).2.1) k) ?_
  refine own_step (W' := s₁.setTop (mkF m 71 #[.val (.long n), .second] [(.int (7 : Int32))])) (fun _ k => XS.bipush X0.here hx rfl (hb hby d2_69) k) ?_
  exact own_ret X0 Bd.notSynchronized Bd.returns (v := (.int (7 : Int32))) (fun fs hr => retOut X0 hx Bd.returns rfl (Or.inl ⟨rfl, Or.inl rfl, _, rfl⟩) (hb hby d2_71) hr) ⟨rfl, N0, e0⟩ (by decide) (by decide)
set_option maxRecDepth 65536 in
set_option maxHeartbeats 40000000 in
theorem rm2_7 (l : Launch) (Z : State) (a0 : Array Value) (hw : ∀ d ∈ tables_1, d.before a0 Z = true) (ws : List Jvm.Cond) (n : Int64) (l0 : ¬ (lcmpW n (128 : Int64) < 0)) (l1 : ¬ (lcmpW n (16384 : Int64) < 0)) (l2 : ¬ (lcmpW n (2097152 : Int64) < 0)) (l3 : ¬ (lcmpW n (268435456 : Int64) < 0)) (l4 : ¬ (lcmpW n (34359738368 : Int64) < 0)) (l5 : ¬ (lcmpW n (4398046511104 : Int64) < 0)) (l6 : ¬ (lcmpW n (562949953421312 : Int64) < 0)) (l7 : lcmpW n (72057594037927936 : Int64) < 0) (h0 : Heap) (n0 : Nat) (Z0 : n0 ≤ h0.size) :
    MetFree l (⟨"millrace/local/ByteSinkPutUnsignedPinLaw", "lengthOf", "(J)I"⟩ : MethodName) (head1 (Jvm.Cond.code (⟨"millrace/local/ByteSinkPutUnsignedPinLaw", "lengthOf", "(J)I"⟩ : MethodName) method_3_code 2 (some .int) :: ws) ({ frames := 0, cells := 0, slots := 0, locals := 0 } : Room)) (fun aA U => aA = #[(.long n)] ∧ Z.Warmed39 U.vm ∧ U.heap = h0) (fun _ _ _ _ _ => True) (fun _ U o U' => ∃ v L, o = .returned v ∧ own_QK (some (.int (8 : Int32))) h0 n0 v U'.heap L ∧ FrameEnd U o U' L ({ frames := 0, cells := 0, slots := 0, locals := 0 } : Room).cells ({ frames := 0, cells := 0, slots := 0, locals := 0 } : Room).slots) := by
  refine MetFree.of_bodySF (plainFor_of_name pn_millrace_local_ByteSinkPutUnsignedPinLaw) hisR ?_
  intro p e s m args below meth c s₁ Bd hml0 hP hK
  obtain ⟨rfl, hZ, hh⟩ := hP
  have hx := Bd.exec
  have hby := Bd.bytes
  have hml : c.maxLocals = 2 := hml0
  have hown : s.vm.findClass "millrace/local/ByteSinkPutUnsignedPinLaw" = some m.cls := findClass_of_methodNamed Bd.named
  have hnm := (name_of_methodNamed Bd.named Bd.method).1
  have X0 : Stand p l e ({ frames := 0, cells := 0, slots := 0, locals := 0 } : Room) s m #[(.long n)] below meth c s₁ [] 0 0 := Stand.of_body Bd
  have e0 : s₁.heap = h0 := by rw [← hh, Bd.state]; rfl
  have N0 := Fr.nil n0
  refine own_enter (ef_2_J m n) ?_
  refine own_step (W' := s₁.setTop (mkF m 1 #[.val (.long n), .second] [(.long n)])) (fun _ k => XS.lloadN X0.here hx rfl (hb hby d2_0) rfl k) ?_
  refine own_step (W' := s₁.setTop (mkF m 4 #[.val (.long n), .second] [(.long (128 : Int64)), (.long n)])) (fun _ k => X0.ldc2Long hx hown (mvT hZ (hw _ (List.mem_of_getElem? (i := 11) rfl))) (g := (mkF m 1 #[.val (.long n), .second] [(.long n)])) rfl (hb hby d2_1) _ k) ?_
  refine own_step (W' := s₁.setTop (mkF m 5 #[.val (.long n), .second] [(.int (lcmpW n (128 : Int64)))])) (fun _ k => XS.lcmp X0.here hx rfl (hb hby d2_4) rfl k) ?_
  refine own_step (W' := s₁.setTop (mkF m 10 #[.val (.long n), .second] [])) (fun _ k => XS.ifYes X0.here hx rfl (pc0 := 5) (pc' := 10) rfl (hb hby d2_5) rfl ((if0 _ _).trans (flt l0).2.1) (by decide) (by decide) k) ?_
  refine own_step (W' := s₁.setTop (mkF m 11 #[.val (.long n), .second] [(.long n)])) (fun _ k => XS.lloadN X0.here hx rfl (hb hby d2_10) rfl k) ?_
  refine own_step (W' := s₁.setTop (mkF m 14 #[.val (.long n), .second] [(.long (16384 : Int64)), (.long n)])) (fun _ k => X0.ldc2Long hx hown (mvT hZ (hw _ (List.mem_of_getElem? (i := 17) rfl))) (g := (mkF m 11 #[.val (.long n), .second] [(.long n)])) rfl (hb hby d2_11) _ k) ?_
  refine own_step (W' := s₁.setTop (mkF m 15 #[.val (.long n), .second] [(.int (lcmpW n (16384 : Int64)))])) (fun _ k => XS.lcmp X0.here hx rfl (hb hby d2_14) rfl k) ?_
  refine own_step (W' := s₁.setTop (mkF m 20 #[.val (.long n), .second] [])) (fun _ k => XS.ifYes X0.here hx rfl (pc0 := 15) (pc' := 20) rfl (hb hby d2_15) rfl ((if0 _ _).trans (flt l1).2.1) (by decide) (by decide) k) ?_
  refine own_step (W' := s₁.setTop (mkF m 21 #[.val (.long n), .second] [(.long n)])) (fun _ k => XS.lloadN X0.here hx rfl (hb hby d2_20) rfl k) ?_
  refine own_step (W' := s₁.setTop (mkF m 24 #[.val (.long n), .second] [(.long (2097152 : Int64)), (.long n)])) (fun _ k => X0.ldc2Long hx hown (mvT hZ (hw _ (List.mem_of_getElem? (i := 18) rfl))) (g := (mkF m 21 #[.val (.long n), .second] [(.long n)])) rfl (hb hby d2_21) _ k) ?_
  refine own_step (W' := s₁.setTop (mkF m 25 #[.val (.long n), .second] [(.int (lcmpW n (2097152 : Int64)))])) (fun _ k => XS.lcmp X0.here hx rfl (hb hby d2_24) rfl k) ?_
  refine own_step (W' := s₁.setTop (mkF m 30 #[.val (.long n), .second] [])) (fun _ k => XS.ifYes X0.here hx rfl (pc0 := 25) (pc' := 30) rfl (hb hby d2_25) rfl ((if0 _ _).trans (flt l2).2.1) (by decide) (by decide) k) ?_
  refine own_step (W' := s₁.setTop (mkF m 31 #[.val (.long n), .second] [(.long n)])) (fun _ k => XS.lloadN X0.here hx rfl (hb hby d2_30) rfl k) ?_
  refine own_step (W' := s₁.setTop (mkF m 34 #[.val (.long n), .second] [(.long (268435456 : Int64)), (.long n)])) (fun _ k => X0.ldc2Long hx hown (mvT hZ (hw _ (List.mem_of_getElem? (i := 19) rfl))) (g := (mkF m 31 #[.val (.long n), .second] [(.long n)])) rfl (hb hby d2_31) _ k) ?_
  refine own_step (W' := s₁.setTop (mkF m 35 #[.val (.long n), .second] [(.int (lcmpW n (268435456 : Int64)))])) (fun _ k => XS.lcmp X0.here hx rfl (hb hby d2_34) rfl k) ?_
  refine own_step (W' := s₁.setTop (mkF m 40 #[.val (.long n), .second] [])) (fun _ k => XS.ifYes X0.here hx rfl (pc0 := 35) (pc' := 40) rfl (hb hby d2_35) rfl ((if0 _ _).trans (flt l3).2.1) (by decide) (by decide) k) ?_
  refine own_step (W' := s₁.setTop (mkF m 41 #[.val (.long n), .second] [(.long n)])) (fun _ k => XS.lloadN X0.here hx rfl (hb hby d2_40) rfl k) ?_
  refine own_step (W' := s₁.setTop (mkF m 44 #[.val (.long n), .second] [(.long (34359738368 : Int64)), (.long n)])) (fun _ k => X0.ldc2Long hx hown (mvT hZ (hw _ (List.mem_of_getElem? (i := 20) rfl))) (g := (mkF m 41 #[.val (.long n), .second] [(.long n)])) rfl (hb hby d2_41) _ k) ?_
  refine own_step (W' := s₁.setTop (mkF m 45 #[.val (.long n), .second] [(.int (lcmpW n (34359738368 : Int64)))])) (fun _ k => XS.lcmp X0.here hx rfl (hb hby d2_44) rfl k) ?_
  refine own_step (W' := s₁.setTop (mkF m 50 #[.val (.long n), .second] [])) (fun _ k => XS.ifYes X0.here hx rfl (pc0 := 45) (pc' := 50) rfl (hb hby d2_45) rfl ((if0 _ _).trans (flt l4).2.1) (by decide) (by decide) k) ?_
  refine own_step (W' := s₁.setTop (mkF m 51 #[.val (.long n), .second] [(.long n)])) (fun _ k => XS.lloadN X0.here hx rfl (hb hby d2_50) rfl k) ?_
  refine own_step (W' := s₁.setTop (mkF m 54 #[.val (.long n), .second] [(.long (4398046511104 : Int64)), (.long n)])) (fun _ k => X0.ldc2Long hx hown (mvT hZ (hw _ (List.mem_of_getElem? (i := 22) rfl))) (g := (mkF m 51 #[.val (.long n), .second] [(.long n)])) rfl (hb hby d2_51) _ k) ?_
  refine own_step (W' := s₁.setTop (mkF m 55 #[.val (.long n), .second] [(.int (lcmpW n (4398046511104 : Int64)))])) (fun _ k => XS.lcmp X0.here hx rfl (hb hby d2_54) rfl k) ?_
  refine own_step (W' := s₁.setTop (mkF m 61 #[.val (.long n), .second] [])) (fun _ k => XS.ifYes X0.here hx rfl (pc0 := 55) (pc' := 61) rfl (hb hby d2_55) rfl ((if0 _ _).trans (flt l5).2.1) (by decide) (by decide) k) ?_
  refine own_step (W' := s₁.setTop (mkF m 62 #[.val (.long n), .second] [(.long n)])) (fun _ k => XS.lloadN X0.here hx rfl (hb hby d2_61) rfl k) ?_
  refine own_step (W' := s₁.setTop (mkF m 65 #[.val (.long n), .second] [(.long (562949953421312 : Int64)), (.long n)])) (fun _ k => X0.ldc2Long hx hown (mvT hZ (hw _ (List.mem_of_getElem? (i := 23) rfl))) (g := (mkF m 62 #[.val (.long n), .second] [(.long n)])) rfl (hb hby d2_62) _ k) ?_
  refine own_step (W' := s₁.setTop (mkF m 66 #[.val (.long n), .second] [(.int (lcmpW n (562949953421312 : Int64)))])) (fun _ k => XS.lcmp X0.here hx rfl (hb hby d2_65) rfl k) ?_
  refine own_step (W' := s₁.setTop (mkF m 72 #[.val (.long n), .second] [])) (fun _ k => XS.ifYes X0.here hx rfl (pc0 := 66) (pc' := 72) rfl (hb hby d2_66) rfl ((if0 _ _).trans (flt l6).2.1) (by decide) (by decide) k) ?_
  refine own_step (W' := s₁.setTop (mkF m 73 #[.val (.long n), .second] [(.long n)])) (fun _ k => XS.lloadN X0.here hx rfl (hb hby d2_72) rfl k) ?_
  refine own_step (W' := s₁.setTop (mkF m 76 #[.val (.long n), .second] [(.long (72057594037927936 : Int64)), (.long n)])) (fun _ k => X0.ldc2Long hx hown (mvT hZ (hw _ (List.mem_of_getElem? (i := 24) rfl))) (g := (mkF m 73 #[.val (.long n), .second] [(.long n)])) rfl (hb hby d2_73) _ k) ?_
  refine own_step (W' := s₁.setTop (mkF m 77 #[.val (.long n), .second] [(.int (lcmpW n (72057594037927936 : Int64)))])) (fun _ k => XS.lcmp X0.here hx rfl (hb hby d2_76) rfl k) ?_
  refine own_step (W' := s₁.setTop (mkF m 80 #[.val (.long n), .second] [])) (fun _ k => XS.ifNo X0.here hx rfl (hb hby d2_77) rfl ((if0 _ _).trans (tlt l7).2.1) k) ?_
  refine own_step (W' := s₁.setTop (mkF m 82 #[.val (.long n), .second] [(.int (8 : Int32))])) (fun _ k => XS.bipush X0.here hx rfl (hb hby d2_80) k) ?_
  exact own_ret X0 Bd.notSynchronized Bd.returns (v := (.int (8 : Int32))) (fun fs hr => retOut X0 hx Bd.returns rfl (Or.inl ⟨rfl, Or.inl rfl, _, rfl⟩) (hb hby d2_82) hr) ⟨rfl, N0, e0⟩ (by decide) (by decide)
set_option maxRecDepth 65536 in
set_option maxHeartbeats 40000000 in
theorem rm2_8 (l : Launch) (Z : State) (a0 : Array Value) (hw : ∀ d ∈ tables_1, d.before a0 Z = true) (ws : List Jvm.Cond) (n : Int64) (l0 : ¬ (lcmpW n (128 : Int64) < 0)) (l1 : ¬ (lcmpW n (16384 : Int64) < 0)) (l2 : ¬ (lcmpW n (2097152 : Int64) < 0)) (l3 : ¬ (lcmpW n (268435456 : Int64) < 0)) (l4 : ¬ (lcmpW n (34359738368 : Int64) < 0)) (l5 : ¬ (lcmpW n (4398046511104 : Int64) < 0)) (l6 : ¬ (lcmpW n (562949953421312 : Int64) < 0)) (l7 : ¬ (lcmpW n (72057594037927936 : Int64) < 0)) (h0 : Heap) (n0 : Nat) (Z0 : n0 ≤ h0.size) :
    MetFree l (⟨"millrace/local/ByteSinkPutUnsignedPinLaw", "lengthOf", "(J)I"⟩ : MethodName) (head1 (Jvm.Cond.code (⟨"millrace/local/ByteSinkPutUnsignedPinLaw", "lengthOf", "(J)I"⟩ : MethodName) method_3_code 2 (some .int) :: ws) ({ frames := 0, cells := 0, slots := 0, locals := 0 } : Room)) (fun aA U => aA = #[(.long n)] ∧ Z.Warmed39 U.vm ∧ U.heap = h0) (fun _ _ _ _ _ => True) (fun _ U o U' => ∃ v L, o = .returned v ∧ own_QK (some (.int (9 : Int32))) h0 n0 v U'.heap L ∧ FrameEnd U o U' L ({ frames := 0, cells := 0, slots := 0, locals := 0 } : Room).cells ({ frames := 0, cells := 0, slots := 0, locals := 0 } : Room).slots) := by
  refine MetFree.of_bodySF (plainFor_of_name pn_millrace_local_ByteSinkPutUnsignedPinLaw) hisR ?_
  intro p e s m args below meth c s₁ Bd hml0 hP hK
  obtain ⟨rfl, hZ, hh⟩ := hP
  have hx := Bd.exec
  have hby := Bd.bytes
  have hml : c.maxLocals = 2 := hml0
  have hown : s.vm.findClass "millrace/local/ByteSinkPutUnsignedPinLaw" = some m.cls := findClass_of_methodNamed Bd.named
  have hnm := (name_of_methodNamed Bd.named Bd.method).1
  have X0 : Stand p l e ({ frames := 0, cells := 0, slots := 0, locals := 0 } : Room) s m #[(.long n)] below meth c s₁ [] 0 0 := Stand.of_body Bd
  have e0 : s₁.heap = h0 := by rw [← hh, Bd.state]; rfl
  have N0 := Fr.nil n0
  refine own_enter (ef_2_J m n) ?_
  refine own_step (W' := s₁.setTop (mkF m 1 #[.val (.long n), .second] [(.long n)])) (fun _ k => XS.lloadN X0.here hx rfl (hb hby d2_0) rfl k) ?_
  refine own_step (W' := s₁.setTop (mkF m 4 #[.val (.long n), .second] [(.long (128 : Int64)), (.long n)])) (fun _ k => X0.ldc2Long hx hown (mvT hZ (hw _ (List.mem_of_getElem? (i := 11) rfl))) (g := (mkF m 1 #[.val (.long n), .second] [(.long n)])) rfl (hb hby d2_1) _ k) ?_
  refine own_step (W' := s₁.setTop (mkF m 5 #[.val (.long n), .second] [(.int (lcmpW n (128 : Int64)))])) (fun _ k => XS.lcmp X0.here hx rfl (hb hby d2_4) rfl k) ?_
  refine own_step (W' := s₁.setTop (mkF m 10 #[.val (.long n), .second] [])) (fun _ k => XS.ifYes X0.here hx rfl (pc0 := 5) (pc' := 10) rfl (hb hby d2_5) rfl ((if0 _ _).trans (flt l0).2.1) (by decide) (by decide) k) ?_
  refine own_step (W' := s₁.setTop (mkF m 11 #[.val (.long n), .second] [(.long n)])) (fun _ k => XS.lloadN X0.here hx rfl (hb hby d2_10) rfl k) ?_
  refine own_step (W' := s₁.setTop (mkF m 14 #[.val (.long n), .second] [(.long (16384 : Int64)), (.long n)])) (fun _ k => X0.ldc2Long hx hown (mvT hZ (hw _ (List.mem_of_getElem? (i := 17) rfl))) (g := (mkF m 11 #[.val (.long n), .second] [(.long n)])) rfl (hb hby d2_11) _ k) ?_
  refine own_step (W' := s₁.setTop (mkF m 15 #[.val (.long n), .second] [(.int (lcmpW n (16384 : Int64)))])) (fun _ k => XS.lcmp X0.here hx rfl (hb hby d2_14) rfl k) ?_
  refine own_step (W' := s₁.setTop (mkF m 20 #[.val (.long n), .second] [])) (fun _ k => XS.ifYes X0.here hx rfl (pc0 := 15) (pc' := 20) rfl (hb hby d2_15) rfl ((if0 _ _).trans (flt l1).2.1) (by decide) (by decide) k) ?_
  refine own_step (W' := s₁.setTop (mkF m 21 #[.val (.long n), .second] [(.long n)])) (fun _ k => XS.lloadN X0.here hx rfl (hb hby d2_20) rfl k) ?_
  refine own_step (W' := s₁.setTop (mkF m 24 #[.val (.long n), .second] [(.long (2097152 : Int64)), (.long n)])) (fun _ k => X0.ldc2Long hx hown (mvT hZ (hw _ (List.mem_of_getElem? (i := 18) rfl))) (g := (mkF m 21 #[.val (.long n), .second] [(.long n)])) rfl (hb hby d2_21) _ k) ?_
  refine own_step (W' := s₁.setTop (mkF m 25 #[.val (.long n), .second] [(.int (lcmpW n (2097152 : Int64)))])) (fun _ k => XS.lcmp X0.here hx rfl (hb hby d2_24) rfl k) ?_
  refine own_step (W' := s₁.setTop (mkF m 30 #[.val (.long n), .second] [])) (fun _ k => XS.ifYes X0.here hx rfl (pc0 := 25) (pc' := 30) rfl (hb hby d2_25) rfl ((if0 _ _).trans (flt l2).2.1) (by decide) (by decide) k) ?_
  refine own_step (W' := s₁.setTop (mkF m 31 #[.val (.long n), .second] [(.long n)])) (fun _ k => XS.lloadN X0.here hx rfl (hb hby d2_30) rfl k) ?_
  refine own_step (W' := s₁.setTop (mkF m 34 #[.val (.long n), .second] [(.long (268435456 : Int64)), (.long n)])) (fun _ k => X0.ldc2Long hx hown (mvT hZ (hw _ (List.mem_of_getElem? (i := 19) rfl))) (g := (mkF m 31 #[.val (.long n), .second] [(.long n)])) rfl (hb hby d2_31) _ k) ?_
  refine own_step (W' := s₁.setTop (mkF m 35 #[.val (.long n), .second] [(.int (lcmpW n (268435456 : Int64)))])) (fun _ k => XS.lcmp X0.here hx rfl (hb hby d2_34) rfl k) ?_
  refine own_step (W' := s₁.setTop (mkF m 40 #[.val (.long n), .second] [])) (fun _ k => XS.ifYes X0.here hx rfl (pc0 := 35) (pc' := 40) rfl (hb hby d2_35) rfl ((if0 _ _).trans (flt l3).2.1) (by decide) (by decide) k) ?_
  refine own_step (W' := s₁.setTop (mkF m 41 #[.val (.long n), .second] [(.long n)])) (fun _ k => XS.lloadN X0.here hx rfl (hb hby d2_40) rfl k) ?_
  refine own_step (W' := s₁.setTop (mkF m 44 #[.val (.long n), .second] [(.long (34359738368 : Int64)), (.long n)])) (fun _ k => X0.ldc2Long hx hown (mvT hZ (hw _ (List.mem_of_getElem? (i := 20) rfl))) (g := (mkF m 41 #[.val (.long n), .second] [(.long n)])) rfl (hb hby d2_41) _ k) ?_
  refine own_step (W' := s₁.setTop (mkF m 45 #[.val (.long n), .second] [(.int (lcmpW n (34359738368 : Int64)))])) (fun _ k => XS.lcmp X0.here hx rfl (hb hby d2_44) rfl k) ?_
  refine own_step (W' := s₁.setTop (mkF m 50 #[.val (.long n), .second] [])) (fun _ k => XS.ifYes X0.here hx rfl (pc0 := 45) (pc' := 50) rfl (hb hby d2_45) rfl ((if0 _ _).trans (flt l4).2.1) (by decide) (by decide) k) ?_
  refine own_step (W' := s₁.setTop (mkF m 51 #[.val (.long n), .second] [(.long n)])) (fun _ k => XS.lloadN X0.here hx rfl (hb hby d2_50) rfl k) ?_
  refine own_step (W' := s₁.setTop (mkF m 54 #[.val (.long n), .second] [(.long (4398046511104 : Int64)), (.long n)])) (fun _ k => X0.ldc2Long hx hown (mvT hZ (hw _ (List.mem_of_getElem? (i := 22) rfl))) (g := (mkF m 51 #[.val (.long n), .second] [(.long n)])) rfl (hb hby d2_51) _ k) ?_
  refine own_step (W' := s₁.setTop (mkF m 55 #[.val (.long n), .second] [(.int (lcmpW n (4398046511104 : Int64)))])) (fun _ k => XS.lcmp X0.here hx rfl (hb hby d2_54) rfl k) ?_
  refine own_step (W' := s₁.setTop (mkF m 61 #[.val (.long n), .second] [])) (fun _ k => XS.ifYes X0.here hx rfl (pc0 := 55) (pc' := 61) rfl (hb hby d2_55) rfl ((if0 _ _).trans (flt l5).2.1) (by decide) (by decide) k) ?_
  refine own_step (W' := s₁.setTop (mkF m 62 #[.val (.long n), .second] [(.long n)])) (fun _ k => XS.lloadN X0.here hx rfl (hb hby d2_61) rfl k) ?_
  refine own_step (W' := s₁.setTop (mkF m 65 #[.val (.long n), .second] [(.long (562949953421312 : Int64)), (.long n)])) (fun _ k => X0.ldc2Long hx hown (mvT hZ (hw _ (List.mem_of_getElem? (i := 23) rfl))) (g := (mkF m 62 #[.val (.long n), .second] [(.long n)])) rfl (hb hby d2_62) _ k) ?_
  refine own_step (W' := s₁.setTop (mkF m 66 #[.val (.long n), .second] [(.int (lcmpW n (562949953421312 : Int64)))])) (fun _ k => XS.lcmp X0.here hx rfl (hb hby d2_65) rfl k) ?_
  refine own_step (W' := s₁.setTop (mkF m 72 #[.val (.long n), .second] [])) (fun _ k => XS.ifYes X0.here hx rfl (pc0 := 66) (pc' := 72) rfl (hb hby d2_66) rfl ((if0 _ _).trans (flt l6).2.1) (by decide) (by decide) k) ?_
  refine own_step (W' := s₁.setTop (mkF m 73 #[.val (.long n), .second] [(.long n)])) (fun _ k => XS.lloadN X0.here hx rfl (hb hby d2_72) rfl k) ?_
  refine own_step (W' := s₁.setTop (mkF m 76 #[.val (.long n), .second] [(.long (72057594037927936 : Int64)), (.long n)])) (fun _ k => X0.ldc2Long hx hown (mvT hZ (hw _ (List.mem_of_getElem? (i := 24) rfl))) (g := (mkF m 73 #[.val (.long n), .second] [(.long n)])) rfl (hb hby d2_73) _ k) ?_
  refine own_step (W' := s₁.setTop (mkF m 77 #[.val (.long n), .second] [(.int (lcmpW n (72057594037927936 : Int64)))])) (fun _ k => XS.lcmp X0.here hx rfl (hb hby d2_76) rfl k) ?_
  refine own_step (W' := s₁.setTop (mkF m 83 #[.val (.long n), .second] [])) (fun _ k => XS.ifYes X0.here hx rfl (pc0 := 77) (pc' := 83) rfl (hb hby d2_77) rfl ((if0 _ _).trans (flt l7).2.1) (by decide) (by decide) k) ?_
  refine own_step (W' := s₁.setTop (mkF m 85 #[.val (.long n), .second] [(.int (9 : Int32))])) (fun _ k => XS.bipush X0.here hx rfl (hb hby d2_83) k) ?_
  exact own_ret X0 Bd.notSynchronized Bd.returns (v := (.int (9 : Int32))) (fun fs hr => retOut X0 hx Bd.returns rfl (Or.inl ⟨rfl, Or.inl rfl, _, rfl⟩) (hb hby d2_85) hr) ⟨rfl, N0, e0⟩ (by decide) (by decide)
theorem rm2 (l : Launch) (Z : State) (a0 : Array Value) (hw : ∀ d ∈ tables_1, d.before a0 Z = true) (ws : List Jvm.Cond) (n : Int64) (r : Nat) (hr : r < 9) (hT : own_T n r) (h0 : Heap) (n0 : Nat) (Z0 : n0 ≤ h0.size) :
    MetFree l (⟨"millrace/local/ByteSinkPutUnsignedPinLaw", "lengthOf", "(J)I"⟩ : MethodName) (head1 (Jvm.Cond.code (⟨"millrace/local/ByteSinkPutUnsignedPinLaw", "lengthOf", "(J)I"⟩ : MethodName) method_3_code 2 (some .int) :: ws) ({ frames := 0, cells := 0, slots := 0, locals := 0 } : Room)) (fun aA U => aA = #[(.long n)] ∧ Z.Warmed39 U.vm ∧ U.heap = h0) (fun _ _ _ _ _ => True) (fun _ U o U' => ∃ v L, o = .returned v ∧ own_QK (some (.int (Int32.ofNat (r + 1)))) h0 n0 v U'.heap L ∧ FrameEnd U o U' L ({ frames := 0, cells := 0, slots := 0, locals := 0 } : Room).cells ({ frames := 0, cells := 0, slots := 0, locals := 0 } : Room).slots) := by
  have h1 := hT.1
  have h2 := hT.2.1
  have h3 := hT.2.2
  have hq : r = 0 ∨ r = 1 ∨ r = 2 ∨ r = 3 ∨ r = 4 ∨ r = 5 ∨ r = 6 ∨ r = 7 ∨ r = 8 := by omega
  rcases hq with rfl | rfl | rfl | rfl | rfl | rfl | rfl | rfl | rfl
  · exact rm2_0 l Z a0 hw ws n ((own_lt (z := 128) (by decide)).mpr (by omega)) h0 n0 Z0
  · exact rm2_1 l Z a0 hw ws n (fun q => absurd ((own_lt (z := 128) (by decide)).mp q) (by omega)) ((own_lt (z := 16384) (by decide)).mpr (by omega)) h0 n0 Z0
  · exact rm2_2 l Z a0 hw ws n (fun q => absurd ((own_lt (z := 128) (by decide)).mp q) (by omega)) (fun q => absurd ((own_lt (z := 16384) (by decide)).mp q) (by omega)) ((own_lt (z := 2097152) (by decide)).mpr (by omega)) h0 n0 Z0
  · exact rm2_3 l Z a0 hw ws n (fun q => absurd ((own_lt (z := 128) (by decide)).mp q) (by omega)) (fun q => absurd ((own_lt (z := 16384) (by decide)).mp q) (by omega)) (fun q => absurd ((own_lt (z := 2097152) (by decide)).mp q) (by omega)) ((own_lt (z := 268435456) (by decide)).mpr (by omega)) h0 n0 Z0
  · exact rm2_4 l Z a0 hw ws n (fun q => absurd ((own_lt (z := 128) (by decide)).mp q) (by omega)) (fun q => absurd ((own_lt (z := 16384) (by decide)).mp q) (by omega)) (fun q => absurd ((own_lt (z := 2097152) (by decide)).mp q) (by omega)) (fun q => absurd ((own_lt (z := 268435456) (by decide)).mp q) (by omega)) ((own_lt (z := 34359738368) (by decide)).mpr (by omega)) h0 n0 Z0
  · exact rm2_5 l Z a0 hw ws n (fun q => absurd ((own_lt (z := 128) (by decide)).mp q) (by omega)) (fun q => absurd ((own_lt (z := 16384) (by decide)).mp q) (by omega)) (fun q => absurd ((own_lt (z := 2097152) (by decide)).mp q) (by omega)) (fun q => absurd ((own_lt (z := 268435456) (by decide)).mp q) (by omega)) (fun q => absurd ((own_lt (z := 34359738368) (by decide)).mp q) (by omega)) ((own_lt (z := 4398046511104) (by decide)).mpr (by omega)) h0 n0 Z0
  · exact rm2_6 l Z a0 hw ws n (fun q => absurd ((own_lt (z := 128) (by decide)).mp q) (by omega)) (fun q => absurd ((own_lt (z := 16384) (by decide)).mp q) (by omega)) (fun q => absurd ((own_lt (z := 2097152) (by decide)).mp q) (by omega)) (fun q => absurd ((own_lt (z := 268435456) (by decide)).mp q) (by omega)) (fun q => absurd ((own_lt (z := 34359738368) (by decide)).mp q) (by omega)) (fun q => absurd ((own_lt (z := 4398046511104) (by decide)).mp q) (by omega)) ((own_lt (z := 562949953421312) (by decide)).mpr (by omega)) h0 n0 Z0
  · exact rm2_7 l Z a0 hw ws n (fun q => absurd ((own_lt (z := 128) (by decide)).mp q) (by omega)) (fun q => absurd ((own_lt (z := 16384) (by decide)).mp q) (by omega)) (fun q => absurd ((own_lt (z := 2097152) (by decide)).mp q) (by omega)) (fun q => absurd ((own_lt (z := 268435456) (by decide)).mp q) (by omega)) (fun q => absurd ((own_lt (z := 34359738368) (by decide)).mp q) (by omega)) (fun q => absurd ((own_lt (z := 4398046511104) (by decide)).mp q) (by omega)) (fun q => absurd ((own_lt (z := 562949953421312) (by decide)).mp q) (by omega)) ((own_lt (z := 72057594037927936) (by decide)).mpr (by omega)) h0 n0 Z0
  · exact rm2_8 l Z a0 hw ws n (fun q => absurd ((own_lt (z := 128) (by decide)).mp q) (by omega)) (fun q => absurd ((own_lt (z := 16384) (by decide)).mp q) (by omega)) (fun q => absurd ((own_lt (z := 2097152) (by decide)).mp q) (by omega)) (fun q => absurd ((own_lt (z := 268435456) (by decide)).mp q) (by omega)) (fun q => absurd ((own_lt (z := 34359738368) (by decide)).mp q) (by omega)) (fun q => absurd ((own_lt (z := 4398046511104) (by decide)).mp q) (by omega)) (fun q => absurd ((own_lt (z := 562949953421312) (by decide)).mp q) (by omega)) (fun q => absurd ((own_lt (z := 72057594037927936) (by decide)).mp q) (by omega)) h0 n0 Z0
set_option maxRecDepth 65536 in
set_option maxHeartbeats 40000000 in
theorem rm3_A (l : Launch) (Z : State) (a0 : Array Value) (hw : ∀ d ∈ tables_1, d.before a0 Z = true) (ws : List Jvm.Cond) (ob : Addr) (k : ClassId) (j at_ len : Int32) (n : Int64) (c8 : Int32) (f : Nat → Int32) (h0 : Heap) (n0 : Nat) (Z0 : n0 ≤ h0.size) (Vo : Arv Z h0 ob k .byte (16 : Int32) (own_L f) (.int (0 : Int32))) (hj : ¬ j < 0 ∧ j < (16 : Int32)) (h1 : (j - at_) < 0) (hv : f j.toNatClampNeg = c8) :
    MetFree l (⟨"millrace/local/ByteSinkPutUnsignedPinLaw", "at", "([BIIIJB)Z"⟩ : MethodName) (head1 (Jvm.Cond.code (⟨"millrace/local/ByteSinkPutUnsignedPinLaw", "at", "([BIIIJB)Z"⟩ : MethodName) method_4_code 9 (some .boolean) :: ws) ({ frames := 0, cells := 0, slots := 0, locals := 0 } : Room)) (fun aA U => aA = #[(.ref ob), (.int j), (.int at_), (.int len), (.long n), (.int c8)] ∧ Z.Warmed39 U.vm ∧ U.heap = h0) (fun _ _ _ _ _ => True) (fun _ U o U' => ∃ v L, o = .returned v ∧ own_QK (some (.int (1 : Int32))) h0 n0 v U'.heap L ∧ FrameEnd U o U' L ({ frames := 0, cells := 0, slots := 0, locals := 0 } : Room).cells ({ frames := 0, cells := 0, slots := 0, locals := 0 } : Room).slots) := by
  refine MetFree.of_bodySF (plainFor_of_name pn_millrace_local_ByteSinkPutUnsignedPinLaw) hisR ?_
  intro p e s m args below meth c s₁ Bd hml0 hP hK
  obtain ⟨rfl, hZ, hh⟩ := hP
  have hx := Bd.exec
  have hby := Bd.bytes
  have hml : c.maxLocals = 9 := hml0
  have hown : s.vm.findClass "millrace/local/ByteSinkPutUnsignedPinLaw" = some m.cls := findClass_of_methodNamed Bd.named
  have hnm := (name_of_methodNamed Bd.named Bd.method).1
  have X0 : Stand p l e ({ frames := 0, cells := 0, slots := 0, locals := 0 } : Room) s m #[(.ref ob), (.int j), (.int at_), (.int len), (.long n), (.int c8)] below meth c s₁ [] 0 0 := Stand.of_body Bd
  have e0 : s₁.heap = h0 := by rw [← hh, Bd.state]; rfl
  have N0 := Fr.nil n0
  refine own_enter (ef_3_RIIIJI m ob j at_ len n c8) ?_
  refine own_step (W' := s₁.setTop (mkF m 1 #[.val (.ref ob), .val (.int j), .val (.int at_), .val (.int len), .val (.long n), .second, .val (.int c8), .unset, .unset] [(.int j)])) (fun _ k => XS.iloadN X0.here hx rfl (hb hby d3_0) rfl k) ?_
  refine own_step (W' := s₁.setTop (mkF m 2 #[.val (.ref ob), .val (.int j), .val (.int at_), .val (.int len), .val (.long n), .second, .val (.int c8), .unset, .unset] [(.int at_), (.int j)])) (fun _ k => XS.iloadN X0.here hx rfl (hb hby d3_1) rfl k) ?_
  refine own_step (W' := s₁.setTop (mkF m 3 #[.val (.ref ob), .val (.int j), .val (.int at_), .val (.int len), .val (.long n), .second, .val (.int c8), .unset, .unset] [(.int (j - at_))])) (fun _ k => XS.isub X0.here hx rfl (hb hby d3_2) rfl k) ?_
  refine own_step (W' := s₁.setTop (mkF m 5 #[.val (.ref ob), .val (.int j), .val (.int at_), .val (.int len), .val (.long n), .second, .val (.int c8), .val (.int (j - at_)), .unset] [])) (fun _ k => XS.istore X0.here hx rfl (hb hby d3_3) rfl (l' := #[.val (.ref ob), .val (.int j), .val (.int at_), .val (.int len), .val (.long n), .second, .val (.int c8), .val (.int (j - at_)), .unset]) rfl k) ?_
  refine own_step (W' := s₁.setTop (mkF m 7 #[.val (.ref ob), .val (.int j), .val (.int at_), .val (.int len), .val (.long n), .second, .val (.int c8), .val (.int (j - at_)), .unset] [(.int (j - at_))])) (fun _ k => XS.iload X0.here hx rfl (hb hby d3_5) rfl k) ?_
  refine own_step (W' := s₁.setTop (mkF m 16 #[.val (.ref ob), .val (.int j), .val (.int at_), .val (.int len), .val (.long n), .second, .val (.int c8), .val (.int (j - at_)), .unset] [])) (fun _ k => XS.ifYes X0.here hx rfl (pc0 := 7) (pc' := 16) rfl (hb hby d3_7) rfl ((if0 _ _).trans (tlt h1).1) (by decide) (by decide) k) ?_
  refine own_step (W' := s₁.setTop (mkF m 18 #[.val (.ref ob), .val (.int j), .val (.int at_), .val (.int len), .val (.long n), .second, .val (.int c8), .val (.int (j - at_)), .unset] [(.int c8)])) (fun _ k => XS.iload X0.here hx rfl (hb hby d3_16) rfl k) ?_
  refine own_step (W' := s₁.setTop (mkF m 20 #[.val (.ref ob), .val (.int j), .val (.int at_), .val (.int len), .val (.long n), .second, .val (.int c8), .val (.int (j - at_)), .val (.int c8)] [])) (fun _ k => XS.istore X0.here hx rfl (hb hby d3_18) rfl (l' := #[.val (.ref ob), .val (.int j), .val (.int at_), .val (.int len), .val (.long n), .second, .val (.int c8), .val (.int (j - at_)), .val (.int c8)]) rfl k) ?_
  refine own_step (W' := s₁.setTop (mkF m 66 #[.val (.ref ob), .val (.int j), .val (.int at_), .val (.int len), .val (.long n), .second, .val (.int c8), .val (.int (j - at_)), .val (.int c8)] [])) (fun _ k => XS.goto X0.here hx rfl (pc0 := 20) (pc' := 66) rfl (hb hby d3_20) (by decide) (by decide) k) ?_
  refine own_step (W' := s₁.setTop (mkF m 67 #[.val (.ref ob), .val (.int j), .val (.int at_), .val (.int len), .val (.long n), .second, .val (.int c8), .val (.int (j - at_)), .val (.int c8)] [(.ref ob)])) (fun _ k => XS.aloadN X0.here hx rfl (hb hby d3_66) rfl rfl k) ?_
  refine own_step (W' := s₁.setTop (mkF m 68 #[.val (.ref ob), .val (.int j), .val (.int at_), .val (.int len), .val (.long n), .second, .val (.int c8), .val (.int (j - at_)), .val (.int c8)] [(.int j), (.ref ob)])) (fun _ k => XS.iloadN X0.here hx rfl (hb hby d3_67) rfl k) ?_
  refine own_step (W' := s₁.setTop (mkF m 69 #[.val (.ref ob), .val (.int j), .val (.int at_), .val (.int len), .val (.long n), .second, .val (.int c8), .val (.int (j - at_)), .val (.int c8)] [(.int (f j.toNatClampNeg))])) (fun _ k => own_ldB X0 hx hZ e0 Vo (j := j) (v := (.int (f j.toNatClampNeg))) hj (own_get f _ (own_place hj)) (g := (mkF m 68 #[.val (.ref ob), .val (.int j), .val (.int at_), .val (.int len), .val (.long n), .second, .val (.int c8), .val (.int (j - at_)), .val (.int c8)] [(.int j), (.ref ob)])) rfl rfl (hb hby d3_68) _ k) ?_
  refine own_step (W' := s₁.setTop (mkF m 71 #[.val (.ref ob), .val (.int j), .val (.int at_), .val (.int len), .val (.long n), .second, .val (.int c8), .val (.int (j - at_)), .val (.int c8)] [(.int c8), (.int (f j.toNatClampNeg))])) (fun _ k => XS.iload X0.here hx rfl (hb hby d3_69) rfl k) ?_
  refine own_step (W' := s₁.setTop (mkF m 74 #[.val (.ref ob), .val (.int j), .val (.int at_), .val (.int len), .val (.long n), .second, .val (.int c8), .val (.int (j - at_)), .val (.int c8)] [])) (fun _ k => XS.icmpNo X0.here hx rfl (hb hby d3_71) rfl (teq hv).2 k) ?_
  refine own_step (W' := s₁.setTop (mkF m 75 #[.val (.ref ob), .val (.int j), .val (.int at_), .val (.int len), .val (.long n), .second, .val (.int c8), .val (.int (j - at_)), .val (.int c8)] [(.int (1 : Int32))])) (fun _ k => XS.iconst X0.here hx rfl (hb hby d3_74) k) ?_
  refine own_step (W' := s₁.setTop (mkF m 79 #[.val (.ref ob), .val (.int j), .val (.int at_), .val (.int len), .val (.long n), .second, .val (.int c8), .val (.int (j - at_)), .val (.int c8)] [(.int (1 : Int32))])) (fun _ k => XS.goto X0.here hx rfl (pc0 := 75) (pc' := 79) rfl (hb hby d3_75) (by decide) (by decide) k) ?_
  exact own_ret X0 Bd.notSynchronized Bd.returns (v := (.int (1 : Int32))) (fun fs hr => retN X0 hx (t := .boolean) Bd.returns (by simp) (hb hby d3_79) hr) ⟨rfl, N0, e0⟩ (by decide) (by decide)
set_option maxRecDepth 65536 in
set_option maxHeartbeats 40000000 in
theorem rm3_B (l : Launch) (Z : State) (a0 : Array Value) (hw : ∀ d ∈ tables_1, d.before a0 Z = true) (ws : List Jvm.Cond) (ob : Addr) (k : ClassId) (j at_ len : Int32) (n : Int64) (c8 : Int32) (f : Nat → Int32) (h0 : Heap) (n0 : Nat) (Z0 : n0 ≤ h0.size) (Vo : Arv Z h0 ob k .byte (16 : Int32) (own_L f) (.int (0 : Int32))) (hj : ¬ j < 0 ∧ j < (16 : Int32)) (h1 : ¬ ((j - at_) < 0)) (h2 : ¬ ((j - at_) < len)) (hv : f j.toNatClampNeg = c8) :
    MetFree l (⟨"millrace/local/ByteSinkPutUnsignedPinLaw", "at", "([BIIIJB)Z"⟩ : MethodName) (head1 (Jvm.Cond.code (⟨"millrace/local/ByteSinkPutUnsignedPinLaw", "at", "([BIIIJB)Z"⟩ : MethodName) method_4_code 9 (some .boolean) :: ws) ({ frames := 0, cells := 0, slots := 0, locals := 0 } : Room)) (fun aA U => aA = #[(.ref ob), (.int j), (.int at_), (.int len), (.long n), (.int c8)] ∧ Z.Warmed39 U.vm ∧ U.heap = h0) (fun _ _ _ _ _ => True) (fun _ U o U' => ∃ v L, o = .returned v ∧ own_QK (some (.int (1 : Int32))) h0 n0 v U'.heap L ∧ FrameEnd U o U' L ({ frames := 0, cells := 0, slots := 0, locals := 0 } : Room).cells ({ frames := 0, cells := 0, slots := 0, locals := 0 } : Room).slots) := by
  refine MetFree.of_bodySF (plainFor_of_name pn_millrace_local_ByteSinkPutUnsignedPinLaw) hisR ?_
  intro p e s m args below meth c s₁ Bd hml0 hP hK
  obtain ⟨rfl, hZ, hh⟩ := hP
  have hx := Bd.exec
  have hby := Bd.bytes
  have hml : c.maxLocals = 9 := hml0
  have hown : s.vm.findClass "millrace/local/ByteSinkPutUnsignedPinLaw" = some m.cls := findClass_of_methodNamed Bd.named
  have hnm := (name_of_methodNamed Bd.named Bd.method).1
  have X0 : Stand p l e ({ frames := 0, cells := 0, slots := 0, locals := 0 } : Room) s m #[(.ref ob), (.int j), (.int at_), (.int len), (.long n), (.int c8)] below meth c s₁ [] 0 0 := Stand.of_body Bd
  have e0 : s₁.heap = h0 := by rw [← hh, Bd.state]; rfl
  have N0 := Fr.nil n0
  refine own_enter (ef_3_RIIIJI m ob j at_ len n c8) ?_
  refine own_step (W' := s₁.setTop (mkF m 1 #[.val (.ref ob), .val (.int j), .val (.int at_), .val (.int len), .val (.long n), .second, .val (.int c8), .unset, .unset] [(.int j)])) (fun _ k => XS.iloadN X0.here hx rfl (hb hby d3_0) rfl k) ?_
  refine own_step (W' := s₁.setTop (mkF m 2 #[.val (.ref ob), .val (.int j), .val (.int at_), .val (.int len), .val (.long n), .second, .val (.int c8), .unset, .unset] [(.int at_), (.int j)])) (fun _ k => XS.iloadN X0.here hx rfl (hb hby d3_1) rfl k) ?_
  refine own_step (W' := s₁.setTop (mkF m 3 #[.val (.ref ob), .val (.int j), .val (.int at_), .val (.int len), .val (.long n), .second, .val (.int c8), .unset, .unset] [(.int (j - at_))])) (fun _ k => XS.isub X0.here hx rfl (hb hby d3_2) rfl k) ?_
  refine own_step (W' := s₁.setTop (mkF m 5 #[.val (.ref ob), .val (.int j), .val (.int at_), .val (.int len), .val (.long n), .second, .val (.int c8), .val (.int (j - at_)), .unset] [])) (fun _ k => XS.istore X0.here hx rfl (hb hby d3_3) rfl (l' := #[.val (.ref ob), .val (.int j), .val (.int at_), .val (.int len), .val (.long n), .second, .val (.int c8), .val (.int (j - at_)), .unset]) rfl k) ?_
  refine own_step (W' := s₁.setTop (mkF m 7 #[.val (.ref ob), .val (.int j), .val (.int at_), .val (.int len), .val (.long n), .second, .val (.int c8), .val (.int (j - at_)), .unset] [(.int (j - at_))])) (fun _ k => XS.iload X0.here hx rfl (hb hby d3_5) rfl k) ?_
  refine own_step (W' := s₁.setTop (mkF m 10 #[.val (.ref ob), .val (.int j), .val (.int at_), .val (.int len), .val (.long n), .second, .val (.int c8), .val (.int (j - at_)), .unset] [])) (fun _ k => XS.ifNo X0.here hx rfl (hb hby d3_7) rfl ((if0 _ _).trans (flt h1).1) k) ?_
  refine own_step (W' := s₁.setTop (mkF m 12 #[.val (.ref ob), .val (.int j), .val (.int at_), .val (.int len), .val (.long n), .second, .val (.int c8), .val (.int (j - at_)), .unset] [(.int (j - at_))])) (fun _ k => XS.iload X0.here hx rfl (hb hby d3_10) rfl k) ?_
  refine own_step (W' := s₁.setTop (mkF m 13 #[.val (.ref ob), .val (.int j), .val (.int at_), .val (.int len), .val (.long n), .second, .val (.int c8), .val (.int (j - at_)), .unset] [(.int len), (.int (j - at_))])) (fun _ k => XS.iloadN X0.here hx rfl (hb hby d3_12) rfl k) ?_
  refine own_step (W' := s₁.setTop (mkF m 16 #[.val (.ref ob), .val (.int j), .val (.int at_), .val (.int len), .val (.long n), .second, .val (.int c8), .val (.int (j - at_)), .unset] [])) (fun _ k => XS.icmpNo X0.here hx rfl (hb hby d3_13) rfl (flt h2).1 k) ?_
  refine own_step (W' := s₁.setTop (mkF m 18 #[.val (.ref ob), .val (.int j), .val (.int at_), .val (.int len), .val (.long n), .second, .val (.int c8), .val (.int (j - at_)), .unset] [(.int c8)])) (fun _ k => XS.iload X0.here hx rfl (hb hby d3_16) rfl k) ?_
  refine own_step (W' := s₁.setTop (mkF m 20 #[.val (.ref ob), .val (.int j), .val (.int at_), .val (.int len), .val (.long n), .second, .val (.int c8), .val (.int (j - at_)), .val (.int c8)] [])) (fun _ k => XS.istore X0.here hx rfl (hb hby d3_18) rfl (l' := #[.val (.ref ob), .val (.int j), .val (.int at_), .val (.int len), .val (.long n), .second, .val (.int c8), .val (.int (j - at_)), .val (.int c8)]) rfl k) ?_
  refine own_step (W' := s₁.setTop (mkF m 66 #[.val (.ref ob), .val (.int j), .val (.int at_), .val (.int len), .val (.long n), .second, .val (.int c8), .val (.int (j - at_)), .val (.int c8)] [])) (fun _ k => XS.goto X0.here hx rfl (pc0 := 20) (pc' := 66) rfl (hb hby d3_20) (by decide) (by decide) k) ?_
  refine own_step (W' := s₁.setTop (mkF m 67 #[.val (.ref ob), .val (.int j), .val (.int at_), .val (.int len), .val (.long n), .second, .val (.int c8), .val (.int (j - at_)), .val (.int c8)] [(.ref ob)])) (fun _ k => XS.aloadN X0.here hx rfl (hb hby d3_66) rfl rfl k) ?_
  refine own_step (W' := s₁.setTop (mkF m 68 #[.val (.ref ob), .val (.int j), .val (.int at_), .val (.int len), .val (.long n), .second, .val (.int c8), .val (.int (j - at_)), .val (.int c8)] [(.int j), (.ref ob)])) (fun _ k => XS.iloadN X0.here hx rfl (hb hby d3_67) rfl k) ?_
  refine own_step (W' := s₁.setTop (mkF m 69 #[.val (.ref ob), .val (.int j), .val (.int at_), .val (.int len), .val (.long n), .second, .val (.int c8), .val (.int (j - at_)), .val (.int c8)] [(.int (f j.toNatClampNeg))])) (fun _ k => own_ldB X0 hx hZ e0 Vo (j := j) (v := (.int (f j.toNatClampNeg))) hj (own_get f _ (own_place hj)) (g := (mkF m 68 #[.val (.ref ob), .val (.int j), .val (.int at_), .val (.int len), .val (.long n), .second, .val (.int c8), .val (.int (j - at_)), .val (.int c8)] [(.int j), (.ref ob)])) rfl rfl (hb hby d3_68) _ k) ?_
  refine own_step (W' := s₁.setTop (mkF m 71 #[.val (.ref ob), .val (.int j), .val (.int at_), .val (.int len), .val (.long n), .second, .val (.int c8), .val (.int (j - at_)), .val (.int c8)] [(.int c8), (.int (f j.toNatClampNeg))])) (fun _ k => XS.iload X0.here hx rfl (hb hby d3_69) rfl k) ?_
  refine own_step (W' := s₁.setTop (mkF m 74 #[.val (.ref ob), .val (.int j), .val (.int at_), .val (.int len), .val (.long n), .second, .val (.int c8), .val (.int (j - at_)), .val (.int c8)] [])) (fun _ k => XS.icmpNo X0.here hx rfl (hb hby d3_71) rfl (teq hv).2 k) ?_
  refine own_step (W' := s₁.setTop (mkF m 75 #[.val (.ref ob), .val (.int j), .val (.int at_), .val (.int len), .val (.long n), .second, .val (.int c8), .val (.int (j - at_)), .val (.int c8)] [(.int (1 : Int32))])) (fun _ k => XS.iconst X0.here hx rfl (hb hby d3_74) k) ?_
  refine own_step (W' := s₁.setTop (mkF m 79 #[.val (.ref ob), .val (.int j), .val (.int at_), .val (.int len), .val (.long n), .second, .val (.int c8), .val (.int (j - at_)), .val (.int c8)] [(.int (1 : Int32))])) (fun _ k => XS.goto X0.here hx rfl (pc0 := 75) (pc' := 79) rfl (hb hby d3_75) (by decide) (by decide) k) ?_
  exact own_ret X0 Bd.notSynchronized Bd.returns (v := (.int (1 : Int32))) (fun fs hr => retN X0 hx (t := .boolean) Bd.returns (by simp) (hb hby d3_79) hr) ⟨rfl, N0, e0⟩ (by decide) (by decide)
set_option maxRecDepth 65536 in
set_option maxHeartbeats 40000000 in
theorem rm3_C (l : Launch) (Z : State) (a0 : Array Value) (hw : ∀ d ∈ tables_1, d.before a0 Z = true) (ws : List Jvm.Cond) (ob : Addr) (k : ClassId) (j at_ len : Int32) (n : Int64) (c8 : Int32) (f : Nat → Int32) (h0 : Heap) (n0 : Nat) (Z0 : n0 ≤ h0.size) (Vo : Arv Z h0 ob k .byte (16 : Int32) (own_L f) (.int (0 : Int32))) (hj : ¬ j < 0 ∧ j < (16 : Int32)) (h1 : ¬ ((j - at_) < 0)) (h2 : (j - at_) < len) (h3 : (j - at_) < (len - (1 : Int32))) (hv : f j.toNatClampNeg = own_b1 (own_si n (j - at_))) :
    MetFree l (⟨"millrace/local/ByteSinkPutUnsignedPinLaw", "at", "([BIIIJB)Z"⟩ : MethodName) (head1 (Jvm.Cond.code (⟨"millrace/local/ByteSinkPutUnsignedPinLaw", "at", "([BIIIJB)Z"⟩ : MethodName) method_4_code 9 (some .boolean) :: ws) ({ frames := 0, cells := 0, slots := 0, locals := 0 } : Room)) (fun aA U => aA = #[(.ref ob), (.int j), (.int at_), (.int len), (.long n), (.int c8)] ∧ Z.Warmed39 U.vm ∧ U.heap = h0) (fun _ _ _ _ _ => True) (fun _ U o U' => ∃ v L, o = .returned v ∧ own_QK (some (.int (1 : Int32))) h0 n0 v U'.heap L ∧ FrameEnd U o U' L ({ frames := 0, cells := 0, slots := 0, locals := 0 } : Room).cells ({ frames := 0, cells := 0, slots := 0, locals := 0 } : Room).slots) := by
  refine MetFree.of_bodySF (plainFor_of_name pn_millrace_local_ByteSinkPutUnsignedPinLaw) hisR ?_
  intro p e s m args below meth c s₁ Bd hml0 hP hK
  obtain ⟨rfl, hZ, hh⟩ := hP
  have hx := Bd.exec
  have hby := Bd.bytes
  have hml : c.maxLocals = 9 := hml0
  have hown : s.vm.findClass "millrace/local/ByteSinkPutUnsignedPinLaw" = some m.cls := findClass_of_methodNamed Bd.named
  have hnm := (name_of_methodNamed Bd.named Bd.method).1
  have X0 : Stand p l e ({ frames := 0, cells := 0, slots := 0, locals := 0 } : Room) s m #[(.ref ob), (.int j), (.int at_), (.int len), (.long n), (.int c8)] below meth c s₁ [] 0 0 := Stand.of_body Bd
  have e0 : s₁.heap = h0 := by rw [← hh, Bd.state]; rfl
  have N0 := Fr.nil n0
  refine own_enter (ef_3_RIIIJI m ob j at_ len n c8) ?_
  refine own_step (W' := s₁.setTop (mkF m 1 #[.val (.ref ob), .val (.int j), .val (.int at_), .val (.int len), .val (.long n), .second, .val (.int c8), .unset, .unset] [(.int j)])) (fun _ k => XS.iloadN X0.here hx rfl (hb hby d3_0) rfl k) ?_
  refine own_step (W' := s₁.setTop (mkF m 2 #[.val (.ref ob), .val (.int j), .val (.int at_), .val (.int len), .val (.long n), .second, .val (.int c8), .unset, .unset] [(.int at_), (.int j)])) (fun _ k => XS.iloadN X0.here hx rfl (hb hby d3_1) rfl k) ?_
  refine own_step (W' := s₁.setTop (mkF m 3 #[.val (.ref ob), .val (.int j), .val (.int at_), .val (.int len), .val (.long n), .second, .val (.int c8), .unset, .unset] [(.int (j - at_))])) (fun _ k => XS.isub X0.here hx rfl (hb hby d3_2) rfl k) ?_
  refine own_step (W' := s₁.setTop (mkF m 5 #[.val (.ref ob), .val (.int j), .val (.int at_), .val (.int len), .val (.long n), .second, .val (.int c8), .val (.int (j - at_)), .unset] [])) (fun _ k => XS.istore X0.here hx rfl (hb hby d3_3) rfl (l' := #[.val (.ref ob), .val (.int j), .val (.int at_), .val (.int len), .val (.long n), .second, .val (.int c8), .val (.int (j - at_)), .unset]) rfl k) ?_
  refine own_step (W' := s₁.setTop (mkF m 7 #[.val (.ref ob), .val (.int j), .val (.int at_), .val (.int len), .val (.long n), .second, .val (.int c8), .val (.int (j - at_)), .unset] [(.int (j - at_))])) (fun _ k => XS.iload X0.here hx rfl (hb hby d3_5) rfl k) ?_
  refine own_step (W' := s₁.setTop (mkF m 10 #[.val (.ref ob), .val (.int j), .val (.int at_), .val (.int len), .val (.long n), .second, .val (.int c8), .val (.int (j - at_)), .unset] [])) (fun _ k => XS.ifNo X0.here hx rfl (hb hby d3_7) rfl ((if0 _ _).trans (flt h1).1) k) ?_
  refine own_step (W' := s₁.setTop (mkF m 12 #[.val (.ref ob), .val (.int j), .val (.int at_), .val (.int len), .val (.long n), .second, .val (.int c8), .val (.int (j - at_)), .unset] [(.int (j - at_))])) (fun _ k => XS.iload X0.here hx rfl (hb hby d3_10) rfl k) ?_
  refine own_step (W' := s₁.setTop (mkF m 13 #[.val (.ref ob), .val (.int j), .val (.int at_), .val (.int len), .val (.long n), .second, .val (.int c8), .val (.int (j - at_)), .unset] [(.int len), (.int (j - at_))])) (fun _ k => XS.iloadN X0.here hx rfl (hb hby d3_12) rfl k) ?_
  refine own_step (W' := s₁.setTop (mkF m 23 #[.val (.ref ob), .val (.int j), .val (.int at_), .val (.int len), .val (.long n), .second, .val (.int c8), .val (.int (j - at_)), .unset] [])) (fun _ k => XS.icmpYes X0.here hx rfl (pc0 := 13) (pc' := 23) rfl (hb hby d3_13) rfl (tlt h2).1 (by decide) (by decide) k) ?_
  refine own_step (W' := s₁.setTop (mkF m 25 #[.val (.ref ob), .val (.int j), .val (.int at_), .val (.int len), .val (.long n), .second, .val (.int c8), .val (.int (j - at_)), .unset] [(.int (j - at_))])) (fun _ k => XS.iload X0.here hx rfl (hb hby d3_23) rfl k) ?_
  refine own_step (W' := s₁.setTop (mkF m 26 #[.val (.ref ob), .val (.int j), .val (.int at_), .val (.int len), .val (.long n), .second, .val (.int c8), .val (.int (j - at_)), .unset] [(.int len), (.int (j - at_))])) (fun _ k => XS.iloadN X0.here hx rfl (hb hby d3_25) rfl k) ?_
  refine own_step (W' := s₁.setTop (mkF m 27 #[.val (.ref ob), .val (.int j), .val (.int at_), .val (.int len), .val (.long n), .second, .val (.int c8), .val (.int (j - at_)), .unset] [(.int (1 : Int32)), (.int len), (.int (j - at_))])) (fun _ k => XS.iconst X0.here hx rfl (hb hby d3_26) k) ?_
  refine own_step (W' := s₁.setTop (mkF m 28 #[.val (.ref ob), .val (.int j), .val (.int at_), .val (.int len), .val (.long n), .second, .val (.int c8), .val (.int (j - at_)), .unset] [(.int (len - (1 : Int32))), (.int (j - at_))])) (fun _ k => XS.isub X0.here hx rfl (hb hby d3_27) rfl k) ?_
  refine own_step (W' := s₁.setTop (mkF m 31 #[.val (.ref ob), .val (.int j), .val (.int at_), .val (.int len), .val (.long n), .second, .val (.int c8), .val (.int (j - at_)), .unset] [])) (fun _ k => XS.icmpNo X0.here hx rfl (hb hby d3_28) rfl (tlt h3).2.1 k) ?_
  refine own_step (W' := s₁.setTop (mkF m 33 #[.val (.ref ob), .val (.int j), .val (.int at_), .val (.int len), .val (.long n), .second, .val (.int c8), .val (.int (j - at_)), .unset] [(.long n)])) (fun _ k => XS.lload X0.here hx rfl (hb hby d3_31) rfl k) ?_
  refine own_step (W' := s₁.setTop (mkF m 35 #[.val (.ref ob), .val (.int j), .val (.int at_), .val (.int len), .val (.long n), .second, .val (.int c8), .val (.int (j - at_)), .unset] [(.int (7 : Int32)), (.long n)])) (fun _ k => XS.bipush X0.here hx rfl (hb hby d3_33) k) ?_
  refine own_step (W' := s₁.setTop (mkF m 37 #[.val (.ref ob), .val (.int j), .val (.int at_), .val (.int len), .val (.long n), .second, .val (.int c8), .val (.int (j - at_)), .unset] [(.int (j - at_)), (.int (7 : Int32)), (.long n)])) (fun _ k => XS.iload X0.here hx rfl (hb hby d3_35) rfl k) ?_
  refine own_step (W' := s₁.setTop (mkF m 38 #[.val (.ref ob), .val (.int j), .val (.int at_), .val (.int len), .val (.long n), .second, .val (.int c8), .val (.int (j - at_)), .unset] [(.int ((7 : Int32) * (j - at_))), (.long n)])) (fun _ k => XS.imul X0.here hx rfl (hb hby d3_37) rfl k) ?_
  refine own_step (W' := s₁.setTop (mkF m 39 #[.val (.ref ob), .val (.int j), .val (.int at_), .val (.int len), .val (.long n), .second, .val (.int c8), .val (.int (j - at_)), .unset] [(.long ((n.toUInt64 >>> (((7 : Int32) * (j - at_)) &&& 0x3f).toInt64.toUInt64).toInt64))])) (fun _ k => XS.lushr X0.here hx rfl (hb hby d3_38) rfl k) ?_
  refine own_step (W' := s₁.setTop (mkF m 42 #[.val (.ref ob), .val (.int j), .val (.int at_), .val (.int len), .val (.long n), .second, .val (.int c8), .val (.int (j - at_)), .unset] [(.long (127 : Int64)), (.long ((n.toUInt64 >>> (((7 : Int32) * (j - at_)) &&& 0x3f).toInt64.toUInt64).toInt64))])) (fun _ k => X0.ldc2Long hx hown (mvT hZ (hw _ (List.mem_of_getElem? (i := 21) rfl))) (g := (mkF m 39 #[.val (.ref ob), .val (.int j), .val (.int at_), .val (.int len), .val (.long n), .second, .val (.int c8), .val (.int (j - at_)), .unset] [(.long ((n.toUInt64 >>> (((7 : Int32) * (j - at_)) &&& 0x3f).toInt64.toUInt64).toInt64))])) rfl (hb hby d3_39) _ k) ?_
  refine own_step (W' := s₁.setTop (mkF m 43 #[.val (.ref ob), .val (.int j), .val (.int at_), .val (.int len), .val (.long n), .second, .val (.int c8), .val (.int (j - at_)), .unset] [(.long (((n.toUInt64 >>> (((7 : Int32) * (j - at_)) &&& 0x3f).toInt64.toUInt64).toInt64) &&& (127 : Int64)))])) (fun _ k => XS.land X0.here hx rfl (hb hby d3_42) rfl k) ?_
  refine own_step (W' := s₁.setTop (mkF m 46 #[.val (.ref ob), .val (.int j), .val (.int at_), .val (.int len), .val (.long n), .second, .val (.int c8), .val (.int (j - at_)), .unset] [(.long (128 : Int64)), (.long (((n.toUInt64 >>> (((7 : Int32) * (j - at_)) &&& 0x3f).toInt64.toUInt64).toInt64) &&& (127 : Int64)))])) (fun _ k => X0.ldc2Long hx hown (mvT hZ (hw _ (List.mem_of_getElem? (i := 11) rfl))) (g := (mkF m 43 #[.val (.ref ob), .val (.int j), .val (.int at_), .val (.int len), .val (.long n), .second, .val (.int c8), .val (.int (j - at_)), .unset] [(.long (((n.toUInt64 >>> (((7 : Int32) * (j - at_)) &&& 0x3f).toInt64.toUInt64).toInt64) &&& (127 : Int64)))])) rfl (hb hby d3_43) _ k) ?_
  refine own_step (W' := s₁.setTop (mkF m 47 #[.val (.ref ob), .val (.int j), .val (.int at_), .val (.int len), .val (.long n), .second, .val (.int c8), .val (.int (j - at_)), .unset] [(.long ((((n.toUInt64 >>> (((7 : Int32) * (j - at_)) &&& 0x3f).toInt64.toUInt64).toInt64) &&& (127 : Int64)) ||| (128 : Int64)))])) (fun _ k => XS.lor X0.here hx rfl (hb hby d3_46) rfl k) ?_
  refine own_step (W' := s₁.setTop (mkF m 48 #[.val (.ref ob), .val (.int j), .val (.int at_), .val (.int len), .val (.long n), .second, .val (.int c8), .val (.int (j - at_)), .unset] [(.int (((((n.toUInt64 >>> (((7 : Int32) * (j - at_)) &&& 0x3f).toInt64.toUInt64).toInt64) &&& (127 : Int64)) ||| (128 : Int64)).toInt32))])) (fun _ k => XS.l2i X0.here hx rfl (hb hby d3_47) rfl k) ?_
  refine own_step (W' := s₁.setTop (mkF m 49 #[.val (.ref ob), .val (.int j), .val (.int at_), .val (.int len), .val (.long n), .second, .val (.int c8), .val (.int (j - at_)), .unset] [(.int ((((((n.toUInt64 >>> (((7 : Int32) * (j - at_)) &&& 0x3f).toInt64.toUInt64).toInt64) &&& (127 : Int64)) ||| (128 : Int64)).toInt32).toInt8.toInt32))])) (fun _ k => XS.i2b X0.here hx rfl (hb hby d3_48) rfl k) ?_
  refine own_step (W' := s₁.setTop (mkF m 51 #[.val (.ref ob), .val (.int j), .val (.int at_), .val (.int len), .val (.long n), .second, .val (.int c8), .val (.int (j - at_)), .val (.int ((((((n.toUInt64 >>> (((7 : Int32) * (j - at_)) &&& 0x3f).toInt64.toUInt64).toInt64) &&& (127 : Int64)) ||| (128 : Int64)).toInt32).toInt8.toInt32))] [])) (fun _ k => XS.istore X0.here hx rfl (hb hby d3_49) rfl (l' := #[.val (.ref ob), .val (.int j), .val (.int at_), .val (.int len), .val (.long n), .second, .val (.int c8), .val (.int (j - at_)), .val (.int ((((((n.toUInt64 >>> (((7 : Int32) * (j - at_)) &&& 0x3f).toInt64.toUInt64).toInt64) &&& (127 : Int64)) ||| (128 : Int64)).toInt32).toInt8.toInt32))]) rfl k) ?_
  refine own_step (W' := s₁.setTop (mkF m 66 #[.val (.ref ob), .val (.int j), .val (.int at_), .val (.int len), .val (.long n), .second, .val (.int c8), .val (.int (j - at_)), .val (.int ((((((n.toUInt64 >>> (((7 : Int32) * (j - at_)) &&& 0x3f).toInt64.toUInt64).toInt64) &&& (127 : Int64)) ||| (128 : Int64)).toInt32).toInt8.toInt32))] [])) (fun _ k => XS.goto X0.here hx rfl (pc0 := 51) (pc' := 66) rfl (hb hby d3_51) (by decide) (by decide) k) ?_
  refine own_step (W' := s₁.setTop (mkF m 67 #[.val (.ref ob), .val (.int j), .val (.int at_), .val (.int len), .val (.long n), .second, .val (.int c8), .val (.int (j - at_)), .val (.int ((((((n.toUInt64 >>> (((7 : Int32) * (j - at_)) &&& 0x3f).toInt64.toUInt64).toInt64) &&& (127 : Int64)) ||| (128 : Int64)).toInt32).toInt8.toInt32))] [(.ref ob)])) (fun _ k => XS.aloadN X0.here hx rfl (hb hby d3_66) rfl rfl k) ?_
  refine own_step (W' := s₁.setTop (mkF m 68 #[.val (.ref ob), .val (.int j), .val (.int at_), .val (.int len), .val (.long n), .second, .val (.int c8), .val (.int (j - at_)), .val (.int ((((((n.toUInt64 >>> (((7 : Int32) * (j - at_)) &&& 0x3f).toInt64.toUInt64).toInt64) &&& (127 : Int64)) ||| (128 : Int64)).toInt32).toInt8.toInt32))] [(.int j), (.ref ob)])) (fun _ k => XS.iloadN X0.here hx rfl (hb hby d3_67) rfl k) ?_
  refine own_step (W' := s₁.setTop (mkF m 69 #[.val (.ref ob), .val (.int j), .val (.int at_), .val (.int len), .val (.long n), .second, .val (.int c8), .val (.int (j - at_)), .val (.int ((((((n.toUInt64 >>> (((7 : Int32) * (j - at_)) &&& 0x3f).toInt64.toUInt64).toInt64) &&& (127 : Int64)) ||| (128 : Int64)).toInt32).toInt8.toInt32))] [(.int (f j.toNatClampNeg))])) (fun _ k => own_ldB X0 hx hZ e0 Vo (j := j) (v := (.int (f j.toNatClampNeg))) hj (own_get f _ (own_place hj)) (g := (mkF m 68 #[.val (.ref ob), .val (.int j), .val (.int at_), .val (.int len), .val (.long n), .second, .val (.int c8), .val (.int (j - at_)), .val (.int ((((((n.toUInt64 >>> (((7 : Int32) * (j - at_)) &&& 0x3f).toInt64.toUInt64).toInt64) &&& (127 : Int64)) ||| (128 : Int64)).toInt32).toInt8.toInt32))] [(.int j), (.ref ob)])) rfl rfl (hb hby d3_68) _ k) ?_
  refine own_step (W' := s₁.setTop (mkF m 71 #[.val (.ref ob), .val (.int j), .val (.int at_), .val (.int len), .val (.long n), .second, .val (.int c8), .val (.int (j - at_)), .val (.int ((((((n.toUInt64 >>> (((7 : Int32) * (j - at_)) &&& 0x3f).toInt64.toUInt64).toInt64) &&& (127 : Int64)) ||| (128 : Int64)).toInt32).toInt8.toInt32))] [(.int ((((((n.toUInt64 >>> (((7 : Int32) * (j - at_)) &&& 0x3f).toInt64.toUInt64).toInt64) &&& (127 : Int64)) ||| (128 : Int64)).toInt32).toInt8.toInt32)), (.int (f j.toNatClampNeg))])) (fun _ k => XS.iload X0.here hx rfl (hb hby d3_69) rfl k) ?_
  refine own_step (W' := s₁.setTop (mkF m 74 #[.val (.ref ob), .val (.int j), .val (.int at_), .val (.int len), .val (.long n), .second, .val (.int c8), .val (.int (j - at_)), .val (.int ((((((n.toUInt64 >>> (((7 : Int32) * (j - at_)) &&& 0x3f).toInt64.toUInt64).toInt64) &&& (127 : Int64)) ||| (128 : Int64)).toInt32).toInt8.toInt32))] [])) (fun _ k => XS.icmpNo X0.here hx rfl (hb hby d3_71) rfl (teq hv).2 k) ?_
  refine own_step (W' := s₁.setTop (mkF m 75 #[.val (.ref ob), .val (.int j), .val (.int at_), .val (.int len), .val (.long n), .second, .val (.int c8), .val (.int (j - at_)), .val (.int ((((((n.toUInt64 >>> (((7 : Int32) * (j - at_)) &&& 0x3f).toInt64.toUInt64).toInt64) &&& (127 : Int64)) ||| (128 : Int64)).toInt32).toInt8.toInt32))] [(.int (1 : Int32))])) (fun _ k => XS.iconst X0.here hx rfl (hb hby d3_74) k) ?_
  refine own_step (W' := s₁.setTop (mkF m 79 #[.val (.ref ob), .val (.int j), .val (.int at_), .val (.int len), .val (.long n), .second, .val (.int c8), .val (.int (j - at_)), .val (.int ((((((n.toUInt64 >>> (((7 : Int32) * (j - at_)) &&& 0x3f).toInt64.toUInt64).toInt64) &&& (127 : Int64)) ||| (128 : Int64)).toInt32).toInt8.toInt32))] [(.int (1 : Int32))])) (fun _ k => XS.goto X0.here hx rfl (pc0 := 75) (pc' := 79) rfl (hb hby d3_75) (by decide) (by decide) k) ?_
  exact own_ret X0 Bd.notSynchronized Bd.returns (v := (.int (1 : Int32))) (fun fs hr => retN X0 hx (t := .boolean) Bd.returns (by simp) (hb hby d3_79) hr) ⟨rfl, N0, e0⟩ (by decide) (by decide)
set_option maxRecDepth 65536 in
set_option maxHeartbeats 40000000 in
theorem rm3_D (l : Launch) (Z : State) (a0 : Array Value) (hw : ∀ d ∈ tables_1, d.before a0 Z = true) (ws : List Jvm.Cond) (ob : Addr) (k : ClassId) (j at_ len : Int32) (n : Int64) (c8 : Int32) (f : Nat → Int32) (h0 : Heap) (n0 : Nat) (Z0 : n0 ≤ h0.size) (Vo : Arv Z h0 ob k .byte (16 : Int32) (own_L f) (.int (0 : Int32))) (hj : ¬ j < 0 ∧ j < (16 : Int32)) (h1 : ¬ ((j - at_) < 0)) (h2 : (j - at_) < len) (h3 : ¬ ((j - at_) < (len - (1 : Int32)))) (hv : f j.toNatClampNeg = own_b0 (own_si n (j - at_))) :
    MetFree l (⟨"millrace/local/ByteSinkPutUnsignedPinLaw", "at", "([BIIIJB)Z"⟩ : MethodName) (head1 (Jvm.Cond.code (⟨"millrace/local/ByteSinkPutUnsignedPinLaw", "at", "([BIIIJB)Z"⟩ : MethodName) method_4_code 9 (some .boolean) :: ws) ({ frames := 0, cells := 0, slots := 0, locals := 0 } : Room)) (fun aA U => aA = #[(.ref ob), (.int j), (.int at_), (.int len), (.long n), (.int c8)] ∧ Z.Warmed39 U.vm ∧ U.heap = h0) (fun _ _ _ _ _ => True) (fun _ U o U' => ∃ v L, o = .returned v ∧ own_QK (some (.int (1 : Int32))) h0 n0 v U'.heap L ∧ FrameEnd U o U' L ({ frames := 0, cells := 0, slots := 0, locals := 0 } : Room).cells ({ frames := 0, cells := 0, slots := 0, locals := 0 } : Room).slots) := by
  refine MetFree.of_bodySF (plainFor_of_name pn_millrace_local_ByteSinkPutUnsignedPinLaw) hisR ?_
  intro p e s m args below meth c s₁ Bd hml0 hP hK
  obtain ⟨rfl, hZ, hh⟩ := hP
  have hx := Bd.exec
  have hby := Bd.bytes
  have hml : c.maxLocals = 9 := hml0
  have hown : s.vm.findClass "millrace/local/ByteSinkPutUnsignedPinLaw" = some m.cls := findClass_of_methodNamed Bd.named
  have hnm := (name_of_methodNamed Bd.named Bd.method).1
  have X0 : Stand p l e ({ frames := 0, cells := 0, slots := 0, locals := 0 } : Room) s m #[(.ref ob), (.int j), (.int at_), (.int len), (.long n), (.int c8)] below meth c s₁ [] 0 0 := Stand.of_body Bd
  have e0 : s₁.heap = h0 := by rw [← hh, Bd.state]; rfl
  have N0 := Fr.nil n0
  refine own_enter (ef_3_RIIIJI m ob j at_ len n c8) ?_
  refine own_step (W' := s₁.setTop (mkF m 1 #[.val (.ref ob), .val (.int j), .val (.int at_), .val (.int len), .val (.long n), .second, .val (.int c8), .unset, .unset] [(.int j)])) (fun _ k => XS.iloadN X0.here hx rfl (hb hby d3_0) rfl k) ?_
  refine own_step (W' := s₁.setTop (mkF m 2 #[.val (.ref ob), .val (.int j), .val (.int at_), .val (.int len), .val (.long n), .second, .val (.int c8), .unset, .unset] [(.int at_), (.int j)])) (fun _ k => XS.iloadN X0.here hx rfl (hb hby d3_1) rfl k) ?_
  refine own_step (W' := s₁.setTop (mkF m 3 #[.val (.ref ob), .val (.int j), .val (.int at_), .val (.int len), .val (.long n), .second, .val (.int c8), .unset, .unset] [(.int (j - at_))])) (fun _ k => XS.isub X0.here hx rfl (hb hby d3_2) rfl k) ?_
  refine own_step (W' := s₁.setTop (mkF m 5 #[.val (.ref ob), .val (.int j), .val (.int at_), .val (.int len), .val (.long n), .second, .val (.int c8), .val (.int (j - at_)), .unset] [])) (fun _ k => XS.istore X0.here hx rfl (hb hby d3_3) rfl (l' := #[.val (.ref ob), .val (.int j), .val (.int at_), .val (.int len), .val (.long n), .second, .val (.int c8), .val (.int (j - at_)), .unset]) rfl k) ?_
  refine own_step (W' := s₁.setTop (mkF m 7 #[.val (.ref ob), .val (.int j), .val (.int at_), .val (.int len), .val (.long n), .second, .val (.int c8), .val (.int (j - at_)), .unset] [(.int (j - at_))])) (fun _ k => XS.iload X0.here hx rfl (hb hby d3_5) rfl k) ?_
  refine own_step (W' := s₁.setTop (mkF m 10 #[.val (.ref ob), .val (.int j), .val (.int at_), .val (.int len), .val (.long n), .second, .val (.int c8), .val (.int (j - at_)), .unset] [])) (fun _ k => XS.ifNo X0.here hx rfl (hb hby d3_7) rfl ((if0 _ _).trans (flt h1).1) k) ?_
  refine own_step (W' := s₁.setTop (mkF m 12 #[.val (.ref ob), .val (.int j), .val (.int at_), .val (.int len), .val (.long n), .second, .val (.int c8), .val (.int (j - at_)), .unset] [(.int (j - at_))])) (fun _ k => XS.iload X0.here hx rfl (hb hby d3_10) rfl k) ?_
  refine own_step (W' := s₁.setTop (mkF m 13 #[.val (.ref ob), .val (.int j), .val (.int at_), .val (.int len), .val (.long n), .second, .val (.int c8), .val (.int (j - at_)), .unset] [(.int len), (.int (j - at_))])) (fun _ k => XS.iloadN X0.here hx rfl (hb hby d3_12) rfl k) ?_
  refine own_step (W' := s₁.setTop (mkF m 23 #[.val (.ref ob), .val (.int j), .val (.int at_), .val (.int len), .val (.long n), .second, .val (.int c8), .val (.int (j - at_)), .unset] [])) (fun _ k => XS.icmpYes X0.here hx rfl (pc0 := 13) (pc' := 23) rfl (hb hby d3_13) rfl (tlt h2).1 (by decide) (by decide) k) ?_
  refine own_step (W' := s₁.setTop (mkF m 25 #[.val (.ref ob), .val (.int j), .val (.int at_), .val (.int len), .val (.long n), .second, .val (.int c8), .val (.int (j - at_)), .unset] [(.int (j - at_))])) (fun _ k => XS.iload X0.here hx rfl (hb hby d3_23) rfl k) ?_
  refine own_step (W' := s₁.setTop (mkF m 26 #[.val (.ref ob), .val (.int j), .val (.int at_), .val (.int len), .val (.long n), .second, .val (.int c8), .val (.int (j - at_)), .unset] [(.int len), (.int (j - at_))])) (fun _ k => XS.iloadN X0.here hx rfl (hb hby d3_25) rfl k) ?_
  refine own_step (W' := s₁.setTop (mkF m 27 #[.val (.ref ob), .val (.int j), .val (.int at_), .val (.int len), .val (.long n), .second, .val (.int c8), .val (.int (j - at_)), .unset] [(.int (1 : Int32)), (.int len), (.int (j - at_))])) (fun _ k => XS.iconst X0.here hx rfl (hb hby d3_26) k) ?_
  refine own_step (W' := s₁.setTop (mkF m 28 #[.val (.ref ob), .val (.int j), .val (.int at_), .val (.int len), .val (.long n), .second, .val (.int c8), .val (.int (j - at_)), .unset] [(.int (len - (1 : Int32))), (.int (j - at_))])) (fun _ k => XS.isub X0.here hx rfl (hb hby d3_27) rfl k) ?_
  refine own_step (W' := s₁.setTop (mkF m 54 #[.val (.ref ob), .val (.int j), .val (.int at_), .val (.int len), .val (.long n), .second, .val (.int c8), .val (.int (j - at_)), .unset] [])) (fun _ k => XS.icmpYes X0.here hx rfl (pc0 := 28) (pc' := 54) rfl (hb hby d3_28) rfl (flt h3).2.1 (by decide) (by decide) k) ?_
  refine own_step (W' := s₁.setTop (mkF m 56 #[.val (.ref ob), .val (.int j), .val (.int at_), .val (.int len), .val (.long n), .second, .val (.int c8), .val (.int (j - at_)), .unset] [(.long n)])) (fun _ k => XS.lload X0.here hx rfl (hb hby d3_54) rfl k) ?_
  refine own_step (W' := s₁.setTop (mkF m 58 #[.val (.ref ob), .val (.int j), .val (.int at_), .val (.int len), .val (.long n), .second, .val (.int c8), .val (.int (j - at_)), .unset] [(.int (7 : Int32)), (.long n)])) (fun _ k => XS.bipush X0.here hx rfl (hb hby d3_56) k) ?_
  refine own_step (W' := s₁.setTop (mkF m 60 #[.val (.ref ob), .val (.int j), .val (.int at_), .val (.int len), .val (.long n), .second, .val (.int c8), .val (.int (j - at_)), .unset] [(.int (j - at_)), (.int (7 : Int32)), (.long n)])) (fun _ k => XS.iload X0.here hx rfl (hb hby d3_58) rfl k) ?_
  refine own_step (W' := s₁.setTop (mkF m 61 #[.val (.ref ob), .val (.int j), .val (.int at_), .val (.int len), .val (.long n), .second, .val (.int c8), .val (.int (j - at_)), .unset] [(.int ((7 : Int32) * (j - at_))), (.long n)])) (fun _ k => XS.imul X0.here hx rfl (hb hby d3_60) rfl k) ?_
  refine own_step (W' := s₁.setTop (mkF m 62 #[.val (.ref ob), .val (.int j), .val (.int at_), .val (.int len), .val (.long n), .second, .val (.int c8), .val (.int (j - at_)), .unset] [(.long ((n.toUInt64 >>> (((7 : Int32) * (j - at_)) &&& 0x3f).toInt64.toUInt64).toInt64))])) (fun _ k => XS.lushr X0.here hx rfl (hb hby d3_61) rfl k) ?_
  refine own_step (W' := s₁.setTop (mkF m 63 #[.val (.ref ob), .val (.int j), .val (.int at_), .val (.int len), .val (.long n), .second, .val (.int c8), .val (.int (j - at_)), .unset] [(.int (((n.toUInt64 >>> (((7 : Int32) * (j - at_)) &&& 0x3f).toInt64.toUInt64).toInt64).toInt32))])) (fun _ k => XS.l2i X0.here hx rfl (hb hby d3_62) rfl k) ?_
  refine own_step (W' := s₁.setTop (mkF m 64 #[.val (.ref ob), .val (.int j), .val (.int at_), .val (.int len), .val (.long n), .second, .val (.int c8), .val (.int (j - at_)), .unset] [(.int ((((n.toUInt64 >>> (((7 : Int32) * (j - at_)) &&& 0x3f).toInt64.toUInt64).toInt64).toInt32).toInt8.toInt32))])) (fun _ k => XS.i2b X0.here hx rfl (hb hby d3_63) rfl k) ?_
  refine own_step (W' := s₁.setTop (mkF m 66 #[.val (.ref ob), .val (.int j), .val (.int at_), .val (.int len), .val (.long n), .second, .val (.int c8), .val (.int (j - at_)), .val (.int ((((n.toUInt64 >>> (((7 : Int32) * (j - at_)) &&& 0x3f).toInt64.toUInt64).toInt64).toInt32).toInt8.toInt32))] [])) (fun _ k => XS.istore X0.here hx rfl (hb hby d3_64) rfl (l' := #[.val (.ref ob), .val (.int j), .val (.int at_), .val (.int len), .val (.long n), .second, .val (.int c8), .val (.int (j - at_)), .val (.int ((((n.toUInt64 >>> (((7 : Int32) * (j - at_)) &&& 0x3f).toInt64.toUInt64).toInt64).toInt32).toInt8.toInt32))]) rfl k) ?_
  refine own_step (W' := s₁.setTop (mkF m 67 #[.val (.ref ob), .val (.int j), .val (.int at_), .val (.int len), .val (.long n), .second, .val (.int c8), .val (.int (j - at_)), .val (.int ((((n.toUInt64 >>> (((7 : Int32) * (j - at_)) &&& 0x3f).toInt64.toUInt64).toInt64).toInt32).toInt8.toInt32))] [(.ref ob)])) (fun _ k => XS.aloadN X0.here hx rfl (hb hby d3_66) rfl rfl k) ?_
  refine own_step (W' := s₁.setTop (mkF m 68 #[.val (.ref ob), .val (.int j), .val (.int at_), .val (.int len), .val (.long n), .second, .val (.int c8), .val (.int (j - at_)), .val (.int ((((n.toUInt64 >>> (((7 : Int32) * (j - at_)) &&& 0x3f).toInt64.toUInt64).toInt64).toInt32).toInt8.toInt32))] [(.int j), (.ref ob)])) (fun _ k => XS.iloadN X0.here hx rfl (hb hby d3_67) rfl k) ?_
  refine own_step (W' := s₁.setTop (mkF m 69 #[.val (.ref ob), .val (.int j), .val (.int at_), .val (.int len), .val (.long n), .second, .val (.int c8), .val (.int (j - at_)), .val (.int ((((n.toUInt64 >>> (((7 : Int32) * (j - at_)) &&& 0x3f).toInt64.toUInt64).toInt64).toInt32).toInt8.toInt32))] [(.int (f j.toNatClampNeg))])) (fun _ k => own_ldB X0 hx hZ e0 Vo (j := j) (v := (.int (f j.toNatClampNeg))) hj (own_get f _ (own_place hj)) (g := (mkF m 68 #[.val (.ref ob), .val (.int j), .val (.int at_), .val (.int len), .val (.long n), .second, .val (.int c8), .val (.int (j - at_)), .val (.int ((((n.toUInt64 >>> (((7 : Int32) * (j - at_)) &&& 0x3f).toInt64.toUInt64).toInt64).toInt32).toInt8.toInt32))] [(.int j), (.ref ob)])) rfl rfl (hb hby d3_68) _ k) ?_
  refine own_step (W' := s₁.setTop (mkF m 71 #[.val (.ref ob), .val (.int j), .val (.int at_), .val (.int len), .val (.long n), .second, .val (.int c8), .val (.int (j - at_)), .val (.int ((((n.toUInt64 >>> (((7 : Int32) * (j - at_)) &&& 0x3f).toInt64.toUInt64).toInt64).toInt32).toInt8.toInt32))] [(.int ((((n.toUInt64 >>> (((7 : Int32) * (j - at_)) &&& 0x3f).toInt64.toUInt64).toInt64).toInt32).toInt8.toInt32)), (.int (f j.toNatClampNeg))])) (fun _ k => XS.iload X0.here hx rfl (hb hby d3_69) rfl k) ?_
  refine own_step (W' := s₁.setTop (mkF m 74 #[.val (.ref ob), .val (.int j), .val (.int at_), .val (.int len), .val (.long n), .second, .val (.int c8), .val (.int (j - at_)), .val (.int ((((n.toUInt64 >>> (((7 : Int32) * (j - at_)) &&& 0x3f).toInt64.toUInt64).toInt64).toInt32).toInt8.toInt32))] [])) (fun _ k => XS.icmpNo X0.here hx rfl (hb hby d3_71) rfl (teq hv).2 k) ?_
  refine own_step (W' := s₁.setTop (mkF m 75 #[.val (.ref ob), .val (.int j), .val (.int at_), .val (.int len), .val (.long n), .second, .val (.int c8), .val (.int (j - at_)), .val (.int ((((n.toUInt64 >>> (((7 : Int32) * (j - at_)) &&& 0x3f).toInt64.toUInt64).toInt64).toInt32).toInt8.toInt32))] [(.int (1 : Int32))])) (fun _ k => XS.iconst X0.here hx rfl (hb hby d3_74) k) ?_
  refine own_step (W' := s₁.setTop (mkF m 79 #[.val (.ref ob), .val (.int j), .val (.int at_), .val (.int len), .val (.long n), .second, .val (.int c8), .val (.int (j - at_)), .val (.int ((((n.toUInt64 >>> (((7 : Int32) * (j - at_)) &&& 0x3f).toInt64.toUInt64).toInt64).toInt32).toInt8.toInt32))] [(.int (1 : Int32))])) (fun _ k => XS.goto X0.here hx rfl (pc0 := 75) (pc' := 79) rfl (hb hby d3_75) (by decide) (by decide) k) ?_
  exact own_ret X0 Bd.notSynchronized Bd.returns (v := (.int (1 : Int32))) (fun fs hr => retN X0 hx (t := .boolean) Bd.returns (by simp) (hb hby d3_79) hr) ⟨rfl, N0, e0⟩ (by decide) (by decide)
theorem rm3 (l : Launch) (Z : State) (a0 : Array Value) (hw : ∀ d ∈ tables_1, d.before a0 Z = true) (ws : List Jvm.Cond) (ob : Addr) (k : ClassId) (j at_ len : Int32) (n : Int64) (c8 : Int32) (f : Nat → Int32) (h0 : Heap) (n0 : Nat) (Z0 : n0 ≤ h0.size) (Vo : Arv Z h0 ob k .byte (16 : Int32) (own_L f) (.int (0 : Int32))) (hj : ¬ j < 0 ∧ j < (16 : Int32)) (hv : f j.toNatClampNeg = own_exp j at_ len n c8) :
    MetFree l (⟨"millrace/local/ByteSinkPutUnsignedPinLaw", "at", "([BIIIJB)Z"⟩ : MethodName) (head1 (Jvm.Cond.code (⟨"millrace/local/ByteSinkPutUnsignedPinLaw", "at", "([BIIIJB)Z"⟩ : MethodName) method_4_code 9 (some .boolean) :: ws) ({ frames := 0, cells := 0, slots := 0, locals := 0 } : Room)) (fun aA U => aA = #[(.ref ob), (.int j), (.int at_), (.int len), (.long n), (.int c8)] ∧ Z.Warmed39 U.vm ∧ U.heap = h0) (fun _ _ _ _ _ => True) (fun _ U o U' => ∃ v L, o = .returned v ∧ own_QK (some (.int (1 : Int32))) h0 n0 v U'.heap L ∧ FrameEnd U o U' L ({ frames := 0, cells := 0, slots := 0, locals := 0 } : Room).cells ({ frames := 0, cells := 0, slots := 0, locals := 0 } : Room).slots) := by
  unfold own_exp at hv
  by_cases h1 : (j - at_) < 0
  · rw [if_pos h1] at hv; exact rm3_A l Z a0 hw ws ob k j at_ len n c8 f h0 n0 Z0 Vo hj h1 hv
  rw [if_neg h1] at hv
  by_cases h2 : (j - at_) < len
  · rw [if_pos h2] at hv
    by_cases h3 : (j - at_) < (len - (1 : Int32))
    · rw [if_pos h3] at hv; exact rm3_C l Z a0 hw ws ob k j at_ len n c8 f h0 n0 Z0 Vo hj h1 h2 h3 hv
    · rw [if_neg h3] at hv; exact rm3_D l Z a0 hw ws ob k j at_ len n c8 f h0 n0 Z0 Vo hj h1 h2 h3 hv
  · rw [if_neg h2] at hv; exact rm3_B l Z a0 hw ws ob k j at_ len n c8 f h0 n0 Z0 Vo hj h1 h2 hv
set_option maxRecDepth 65536 in
set_option maxHeartbeats 40000000 in
theorem own_fill {p : Program} {l : Launch} {e : Env} {s : State} {m : MethodId} {args : Array Value} {below : List Frame} {meth : Method} {c : Code} {s₁ : State} {Z : State} {a0 : Array Value} {h0 : Heap} {n0 : Nat} {w : Nat → Addr} {Q : Outcome → State → Prop} (p0 : Int64) (p2 p3 p4 : Int32) (n : Int64) (at_ c8 : Int32)
    (X0 : Stand p l e room_1 s m args below meth c s₁ [] 0 0) (hx : p.tables.exec = Jvm.exec) (hZ : Z.Warmed39 s.vm) (hw : ∀ d ∈ tables_1, d.before a0 Z = true) (hby : c.code = code) (hml : c.maxLocals = 12) (hown : s.vm.findClass "millrace/local/ByteSinkPutUnsignedPinLaw" = some m.cls) (e0 : s₁.heap = h0) (N0 : Fr n0 []) (Z0 : n0 ≤ h0.size) (P : Pins Z h0 w)
    (kt : ∀ (T1 : State) (h1 : Heap) (L1 : List Loc) (k1 : ClassId) (b1 : Addr), Stand p l e room_1 s m args below meth c T1 L1 (0 + 1) (0 + 16) → T1.heap = h1 → Ext h0 h1 → Fr n0 L1 → Arv Z h1 b1 k1 .byte (16 : Int32) [(.int (nar .byte c8)), (.int (nar .byte c8)), (.int (nar .byte c8)), (.int (nar .byte c8)), (.int (nar .byte c8)), (.int (nar .byte c8)), (.int (nar .byte c8)), (.int (nar .byte c8)), (.int (nar .byte c8)), (.int (nar .byte c8)), (.int (nar .byte c8)), (.int (nar .byte c8)), (.int (nar .byte c8)), (.int (nar .byte c8)), (.int (nar .byte c8)), (.int (nar .byte c8))] (.int (0 : Int32)) → n0 ≤ b1 → own_Done p e below (T1.setTop (mkF m 117 #[.val (.long p0), .second, .val (.int p2), .val (.int p3), .val (.int p4), .val (.long n), .second, .val (.int at_), .val (.int c8), .unset, .unset, .unset] [(.ref b1)])) Q) :
    own_Done p e below (s₁.setTop (mkF m 23 #[.val (.long p0), .second, .val (.int p2), .val (.int p3), .val (.int p4), .val (.long n), .second, .val (.int at_), .val (.int c8), .unset, .unset, .unset] [])) Q := by
  refine own_step (W' := s₁.setTop (mkF m 25 #[.val (.long p0), .second, .val (.int p2), .val (.int p3), .val (.int p4), .val (.long n), .second, .val (.int at_), .val (.int c8), .unset, .unset, .unset] [(.int (16 : Int32))])) (fun _ k => XS.bipush X0.here hx rfl (hb hby at_23) k) ?_
  obtain ⟨T1, h1, k1, X1, e1, F1, A1, st1⟩ := newP X0 hx hZ (hw _ (List.mem_of_getElem? (i := 1) rfl)) e0 (g := (mkF m 25 #[.val (.long p0), .second, .val (.int p2), .val (.int p3), .val (.int p4), .val (.long n), .second, .val (.int at_), .val (.int c8), .unset, .unset, .unset] [(.int (16 : Int32))])) rfl (hb hby at_25) rfl (by decide) (cap := 16) (by decide) (by decide) (by decide) (by decide)
  obtain ⟨b1, g1⟩ : ∃ z, z = h0.size := ⟨_, rfl⟩
  rw [← g1] at A1 st1
  have V1 : Arv Z h1 b1 k1 .byte (16 : Int32) [(.int (0 : Int32)), (.int (0 : Int32)), (.int (0 : Int32)), (.int (0 : Int32)), (.int (0 : Int32)), (.int (0 : Int32)), (.int (0 : Int32)), (.int (0 : Int32)), (.int (0 : Int32)), (.int (0 : Int32)), (.int (0 : Int32)), (.int (0 : Int32)), (.int (0 : Int32)), (.int (0 : Int32)), (.int (0 : Int32)), (.int (0 : Int32))] (.int (0 : Int32)) := own_new A1 (by decide) rfl
  have E1 : Ext h0 h1 := F1
  have sz_b1 : h0.size ≤ b1 := by rw [g1]; exact Nat.le_refl _
  have gn_b1 : n0 ≤ b1 := Nat.le_trans Z0 sz_b1
  have P1 : Pins Z h1 w := P.ext E1
  have Z1 : n0 ≤ h1.size := Nat.le_trans Z0 E1.1
  refine own_step (W' := T1.setTop (mkF m 27 #[.val (.long p0), .second, .val (.int p2), .val (.int p3), .val (.int p4), .val (.long n), .second, .val (.int at_), .val (.int c8), .unset, .unset, .unset] [(.ref b1)])) (fun _ k => st1 _ k) ?_
  refine own_step (W' := T1.setTop (mkF m 28 #[.val (.long p0), .second, .val (.int p2), .val (.int p3), .val (.int p4), .val (.long n), .second, .val (.int at_), .val (.int c8), .unset, .unset, .unset] [(.ref b1), (.ref b1)])) (fun _ k => XS.dup X1.here hx rfl (hb hby at_27) rfl rfl k) ?_
  refine own_step (W' := T1.setTop (mkF m 29 #[.val (.long p0), .second, .val (.int p2), .val (.int p3), .val (.int p4), .val (.long n), .second, .val (.int at_), .val (.int c8), .unset, .unset, .unset] [(.int (0 : Int32)), (.ref b1), (.ref b1)])) (fun _ k => XS.iconst X1.here hx rfl (hb hby at_28) k) ?_
  refine own_step (W' := T1.setTop (mkF m 31 #[.val (.long p0), .second, .val (.int p2), .val (.int p3), .val (.int p4), .val (.long n), .second, .val (.int at_), .val (.int c8), .unset, .unset, .unset] [(.int c8), (.int (0 : Int32)), (.ref b1), (.ref b1)])) (fun _ k => XS.iload X1.here hx rfl (hb hby at_29) rfl k) ?_
  obtain ⟨T2, h2, L2, X2, e2, E2, N2, W2, st2⟩ := own_stB X1 hx hZ e1 V1 (j := (0 : Int32)) (i := 0) ⟨by decide, by decide⟩ rfl (Nat.le_of_ble_eq_true rfl) E1 sz_b1 N0 gn_b1 (g := (mkF m 31 #[.val (.long p0), .second, .val (.int p2), .val (.int p3), .val (.int p4), .val (.long n), .second, .val (.int at_), .val (.int c8), .unset, .unset, .unset] [(.int c8), (.int (0 : Int32)), (.ref b1), (.ref b1)])) rfl rfl (hb hby at_31)
  have V2 : Arv Z h2 b1 k1 .byte (16 : Int32) [(.int (nar .byte c8)), (.int (0 : Int32)), (.int (0 : Int32)), (.int (0 : Int32)), (.int (0 : Int32)), (.int (0 : Int32)), (.int (0 : Int32)), (.int (0 : Int32)), (.int (0 : Int32)), (.int (0 : Int32)), (.int (0 : Int32)), (.int (0 : Int32)), (.int (0 : Int32)), (.int (0 : Int32)), (.int (0 : Int32)), (.int (0 : Int32))] (.int (0 : Int32)) := W2
  have P2 : Pins Z h2 w := P.ext E2
  have Z2 : n0 ≤ h2.size := Nat.le_trans Z0 E2.1
  refine own_step (W' := T2.setTop (mkF m 32 #[.val (.long p0), .second, .val (.int p2), .val (.int p3), .val (.int p4), .val (.long n), .second, .val (.int at_), .val (.int c8), .unset, .unset, .unset] [(.ref b1)])) (fun _ k => st2 _ k) ?_
  refine own_step (W' := T2.setTop (mkF m 33 #[.val (.long p0), .second, .val (.int p2), .val (.int p3), .val (.int p4), .val (.long n), .second, .val (.int at_), .val (.int c8), .unset, .unset, .unset] [(.ref b1), (.ref b1)])) (fun _ k => XS.dup X2.here hx rfl (hb hby at_32) rfl rfl k) ?_
  refine own_step (W' := T2.setTop (mkF m 34 #[.val (.long p0), .second, .val (.int p2), .val (.int p3), .val (.int p4), .val (.long n), .second, .val (.int at_), .val (.int c8), .unset, .unset, .unset] [(.int (1 : Int32)), (.ref b1), (.ref b1)])) (fun _ k => XS.iconst X2.here hx rfl (hb hby at_33) k) ?_
  refine own_step (W' := T2.setTop (mkF m 36 #[.val (.long p0), .second, .val (.int p2), .val (.int p3), .val (.int p4), .val (.long n), .second, .val (.int at_), .val (.int c8), .unset, .unset, .unset] [(.int c8), (.int (1 : Int32)), (.ref b1), (.ref b1)])) (fun _ k => XS.iload X2.here hx rfl (hb hby at_34) rfl k) ?_
  obtain ⟨T3, h3, L3, X3, e3, E3, N3, W3, st3⟩ := own_stB X2 hx hZ e2 V2 (j := (1 : Int32)) (i := 1) ⟨by decide, by decide⟩ rfl (Nat.le_of_ble_eq_true rfl) E2 sz_b1 N2 gn_b1 (g := (mkF m 36 #[.val (.long p0), .second, .val (.int p2), .val (.int p3), .val (.int p4), .val (.long n), .second, .val (.int at_), .val (.int c8), .unset, .unset, .unset] [(.int c8), (.int (1 : Int32)), (.ref b1), (.ref b1)])) rfl rfl (hb hby at_36)
  have V3 : Arv Z h3 b1 k1 .byte (16 : Int32) [(.int (nar .byte c8)), (.int (nar .byte c8)), (.int (0 : Int32)), (.int (0 : Int32)), (.int (0 : Int32)), (.int (0 : Int32)), (.int (0 : Int32)), (.int (0 : Int32)), (.int (0 : Int32)), (.int (0 : Int32)), (.int (0 : Int32)), (.int (0 : Int32)), (.int (0 : Int32)), (.int (0 : Int32)), (.int (0 : Int32)), (.int (0 : Int32))] (.int (0 : Int32)) := W3
  have P3 : Pins Z h3 w := P.ext E3
  have Z3 : n0 ≤ h3.size := Nat.le_trans Z0 E3.1
  refine own_step (W' := T3.setTop (mkF m 37 #[.val (.long p0), .second, .val (.int p2), .val (.int p3), .val (.int p4), .val (.long n), .second, .val (.int at_), .val (.int c8), .unset, .unset, .unset] [(.ref b1)])) (fun _ k => st3 _ k) ?_
  refine own_step (W' := T3.setTop (mkF m 38 #[.val (.long p0), .second, .val (.int p2), .val (.int p3), .val (.int p4), .val (.long n), .second, .val (.int at_), .val (.int c8), .unset, .unset, .unset] [(.ref b1), (.ref b1)])) (fun _ k => XS.dup X3.here hx rfl (hb hby at_37) rfl rfl k) ?_
  refine own_step (W' := T3.setTop (mkF m 39 #[.val (.long p0), .second, .val (.int p2), .val (.int p3), .val (.int p4), .val (.long n), .second, .val (.int at_), .val (.int c8), .unset, .unset, .unset] [(.int (2 : Int32)), (.ref b1), (.ref b1)])) (fun _ k => XS.iconst X3.here hx rfl (hb hby at_38) k) ?_
  refine own_step (W' := T3.setTop (mkF m 41 #[.val (.long p0), .second, .val (.int p2), .val (.int p3), .val (.int p4), .val (.long n), .second, .val (.int at_), .val (.int c8), .unset, .unset, .unset] [(.int c8), (.int (2 : Int32)), (.ref b1), (.ref b1)])) (fun _ k => XS.iload X3.here hx rfl (hb hby at_39) rfl k) ?_
  obtain ⟨T4, h4, L4, X4, e4, E4, N4, W4, st4⟩ := own_stB X3 hx hZ e3 V3 (j := (2 : Int32)) (i := 2) ⟨by decide, by decide⟩ rfl (Nat.le_of_ble_eq_true rfl) E3 sz_b1 N3 gn_b1 (g := (mkF m 41 #[.val (.long p0), .second, .val (.int p2), .val (.int p3), .val (.int p4), .val (.long n), .second, .val (.int at_), .val (.int c8), .unset, .unset, .unset] [(.int c8), (.int (2 : Int32)), (.ref b1), (.ref b1)])) rfl rfl (hb hby at_41)
  have V4 : Arv Z h4 b1 k1 .byte (16 : Int32) [(.int (nar .byte c8)), (.int (nar .byte c8)), (.int (nar .byte c8)), (.int (0 : Int32)), (.int (0 : Int32)), (.int (0 : Int32)), (.int (0 : Int32)), (.int (0 : Int32)), (.int (0 : Int32)), (.int (0 : Int32)), (.int (0 : Int32)), (.int (0 : Int32)), (.int (0 : Int32)), (.int (0 : Int32)), (.int (0 : Int32)), (.int (0 : Int32))] (.int (0 : Int32)) := W4
  have P4 : Pins Z h4 w := P.ext E4
  have Z4 : n0 ≤ h4.size := Nat.le_trans Z0 E4.1
  refine own_step (W' := T4.setTop (mkF m 42 #[.val (.long p0), .second, .val (.int p2), .val (.int p3), .val (.int p4), .val (.long n), .second, .val (.int at_), .val (.int c8), .unset, .unset, .unset] [(.ref b1)])) (fun _ k => st4 _ k) ?_
  refine own_step (W' := T4.setTop (mkF m 43 #[.val (.long p0), .second, .val (.int p2), .val (.int p3), .val (.int p4), .val (.long n), .second, .val (.int at_), .val (.int c8), .unset, .unset, .unset] [(.ref b1), (.ref b1)])) (fun _ k => XS.dup X4.here hx rfl (hb hby at_42) rfl rfl k) ?_
  refine own_step (W' := T4.setTop (mkF m 44 #[.val (.long p0), .second, .val (.int p2), .val (.int p3), .val (.int p4), .val (.long n), .second, .val (.int at_), .val (.int c8), .unset, .unset, .unset] [(.int (3 : Int32)), (.ref b1), (.ref b1)])) (fun _ k => XS.iconst X4.here hx rfl (hb hby at_43) k) ?_
  refine own_step (W' := T4.setTop (mkF m 46 #[.val (.long p0), .second, .val (.int p2), .val (.int p3), .val (.int p4), .val (.long n), .second, .val (.int at_), .val (.int c8), .unset, .unset, .unset] [(.int c8), (.int (3 : Int32)), (.ref b1), (.ref b1)])) (fun _ k => XS.iload X4.here hx rfl (hb hby at_44) rfl k) ?_
  obtain ⟨T5, h5, L5, X5, e5, E5, N5, W5, st5⟩ := own_stB X4 hx hZ e4 V4 (j := (3 : Int32)) (i := 3) ⟨by decide, by decide⟩ rfl (Nat.le_of_ble_eq_true rfl) E4 sz_b1 N4 gn_b1 (g := (mkF m 46 #[.val (.long p0), .second, .val (.int p2), .val (.int p3), .val (.int p4), .val (.long n), .second, .val (.int at_), .val (.int c8), .unset, .unset, .unset] [(.int c8), (.int (3 : Int32)), (.ref b1), (.ref b1)])) rfl rfl (hb hby at_46)
  have V5 : Arv Z h5 b1 k1 .byte (16 : Int32) [(.int (nar .byte c8)), (.int (nar .byte c8)), (.int (nar .byte c8)), (.int (nar .byte c8)), (.int (0 : Int32)), (.int (0 : Int32)), (.int (0 : Int32)), (.int (0 : Int32)), (.int (0 : Int32)), (.int (0 : Int32)), (.int (0 : Int32)), (.int (0 : Int32)), (.int (0 : Int32)), (.int (0 : Int32)), (.int (0 : Int32)), (.int (0 : Int32))] (.int (0 : Int32)) := W5
  have P5 : Pins Z h5 w := P.ext E5
  have Z5 : n0 ≤ h5.size := Nat.le_trans Z0 E5.1
  refine own_step (W' := T5.setTop (mkF m 47 #[.val (.long p0), .second, .val (.int p2), .val (.int p3), .val (.int p4), .val (.long n), .second, .val (.int at_), .val (.int c8), .unset, .unset, .unset] [(.ref b1)])) (fun _ k => st5 _ k) ?_
  refine own_step (W' := T5.setTop (mkF m 48 #[.val (.long p0), .second, .val (.int p2), .val (.int p3), .val (.int p4), .val (.long n), .second, .val (.int at_), .val (.int c8), .unset, .unset, .unset] [(.ref b1), (.ref b1)])) (fun _ k => XS.dup X5.here hx rfl (hb hby at_47) rfl rfl k) ?_
  refine own_step (W' := T5.setTop (mkF m 49 #[.val (.long p0), .second, .val (.int p2), .val (.int p3), .val (.int p4), .val (.long n), .second, .val (.int at_), .val (.int c8), .unset, .unset, .unset] [(.int (4 : Int32)), (.ref b1), (.ref b1)])) (fun _ k => XS.iconst X5.here hx rfl (hb hby at_48) k) ?_
  refine own_step (W' := T5.setTop (mkF m 51 #[.val (.long p0), .second, .val (.int p2), .val (.int p3), .val (.int p4), .val (.long n), .second, .val (.int at_), .val (.int c8), .unset, .unset, .unset] [(.int c8), (.int (4 : Int32)), (.ref b1), (.ref b1)])) (fun _ k => XS.iload X5.here hx rfl (hb hby at_49) rfl k) ?_
  obtain ⟨T6, h6, L6, X6, e6, E6, N6, W6, st6⟩ := own_stB X5 hx hZ e5 V5 (j := (4 : Int32)) (i := 4) ⟨by decide, by decide⟩ rfl (Nat.le_of_ble_eq_true rfl) E5 sz_b1 N5 gn_b1 (g := (mkF m 51 #[.val (.long p0), .second, .val (.int p2), .val (.int p3), .val (.int p4), .val (.long n), .second, .val (.int at_), .val (.int c8), .unset, .unset, .unset] [(.int c8), (.int (4 : Int32)), (.ref b1), (.ref b1)])) rfl rfl (hb hby at_51)
  have V6 : Arv Z h6 b1 k1 .byte (16 : Int32) [(.int (nar .byte c8)), (.int (nar .byte c8)), (.int (nar .byte c8)), (.int (nar .byte c8)), (.int (nar .byte c8)), (.int (0 : Int32)), (.int (0 : Int32)), (.int (0 : Int32)), (.int (0 : Int32)), (.int (0 : Int32)), (.int (0 : Int32)), (.int (0 : Int32)), (.int (0 : Int32)), (.int (0 : Int32)), (.int (0 : Int32)), (.int (0 : Int32))] (.int (0 : Int32)) := W6
  have P6 : Pins Z h6 w := P.ext E6
  have Z6 : n0 ≤ h6.size := Nat.le_trans Z0 E6.1
  refine own_step (W' := T6.setTop (mkF m 52 #[.val (.long p0), .second, .val (.int p2), .val (.int p3), .val (.int p4), .val (.long n), .second, .val (.int at_), .val (.int c8), .unset, .unset, .unset] [(.ref b1)])) (fun _ k => st6 _ k) ?_
  refine own_step (W' := T6.setTop (mkF m 53 #[.val (.long p0), .second, .val (.int p2), .val (.int p3), .val (.int p4), .val (.long n), .second, .val (.int at_), .val (.int c8), .unset, .unset, .unset] [(.ref b1), (.ref b1)])) (fun _ k => XS.dup X6.here hx rfl (hb hby at_52) rfl rfl k) ?_
  refine own_step (W' := T6.setTop (mkF m 54 #[.val (.long p0), .second, .val (.int p2), .val (.int p3), .val (.int p4), .val (.long n), .second, .val (.int at_), .val (.int c8), .unset, .unset, .unset] [(.int (5 : Int32)), (.ref b1), (.ref b1)])) (fun _ k => XS.iconst X6.here hx rfl (hb hby at_53) k) ?_
  refine own_step (W' := T6.setTop (mkF m 56 #[.val (.long p0), .second, .val (.int p2), .val (.int p3), .val (.int p4), .val (.long n), .second, .val (.int at_), .val (.int c8), .unset, .unset, .unset] [(.int c8), (.int (5 : Int32)), (.ref b1), (.ref b1)])) (fun _ k => XS.iload X6.here hx rfl (hb hby at_54) rfl k) ?_
  obtain ⟨T7, h7, L7, X7, e7, E7, N7, W7, st7⟩ := own_stB X6 hx hZ e6 V6 (j := (5 : Int32)) (i := 5) ⟨by decide, by decide⟩ rfl (Nat.le_of_ble_eq_true rfl) E6 sz_b1 N6 gn_b1 (g := (mkF m 56 #[.val (.long p0), .second, .val (.int p2), .val (.int p3), .val (.int p4), .val (.long n), .second, .val (.int at_), .val (.int c8), .unset, .unset, .unset] [(.int c8), (.int (5 : Int32)), (.ref b1), (.ref b1)])) rfl rfl (hb hby at_56)
  have V7 : Arv Z h7 b1 k1 .byte (16 : Int32) [(.int (nar .byte c8)), (.int (nar .byte c8)), (.int (nar .byte c8)), (.int (nar .byte c8)), (.int (nar .byte c8)), (.int (nar .byte c8)), (.int (0 : Int32)), (.int (0 : Int32)), (.int (0 : Int32)), (.int (0 : Int32)), (.int (0 : Int32)), (.int (0 : Int32)), (.int (0 : Int32)), (.int (0 : Int32)), (.int (0 : Int32)), (.int (0 : Int32))] (.int (0 : Int32)) := W7
  have P7 : Pins Z h7 w := P.ext E7
  have Z7 : n0 ≤ h7.size := Nat.le_trans Z0 E7.1
  refine own_step (W' := T7.setTop (mkF m 57 #[.val (.long p0), .second, .val (.int p2), .val (.int p3), .val (.int p4), .val (.long n), .second, .val (.int at_), .val (.int c8), .unset, .unset, .unset] [(.ref b1)])) (fun _ k => st7 _ k) ?_
  refine own_step (W' := T7.setTop (mkF m 58 #[.val (.long p0), .second, .val (.int p2), .val (.int p3), .val (.int p4), .val (.long n), .second, .val (.int at_), .val (.int c8), .unset, .unset, .unset] [(.ref b1), (.ref b1)])) (fun _ k => XS.dup X7.here hx rfl (hb hby at_57) rfl rfl k) ?_
  refine own_step (W' := T7.setTop (mkF m 60 #[.val (.long p0), .second, .val (.int p2), .val (.int p3), .val (.int p4), .val (.long n), .second, .val (.int at_), .val (.int c8), .unset, .unset, .unset] [(.int (6 : Int32)), (.ref b1), (.ref b1)])) (fun _ k => XS.bipush X7.here hx rfl (hb hby at_58) k) ?_
  refine own_step (W' := T7.setTop (mkF m 62 #[.val (.long p0), .second, .val (.int p2), .val (.int p3), .val (.int p4), .val (.long n), .second, .val (.int at_), .val (.int c8), .unset, .unset, .unset] [(.int c8), (.int (6 : Int32)), (.ref b1), (.ref b1)])) (fun _ k => XS.iload X7.here hx rfl (hb hby at_60) rfl k) ?_
  obtain ⟨T8, h8, L8, X8, e8, E8, N8, W8, st8⟩ := own_stB X7 hx hZ e7 V7 (j := (6 : Int32)) (i := 6) ⟨by decide, by decide⟩ rfl (Nat.le_of_ble_eq_true rfl) E7 sz_b1 N7 gn_b1 (g := (mkF m 62 #[.val (.long p0), .second, .val (.int p2), .val (.int p3), .val (.int p4), .val (.long n), .second, .val (.int at_), .val (.int c8), .unset, .unset, .unset] [(.int c8), (.int (6 : Int32)), (.ref b1), (.ref b1)])) rfl rfl (hb hby at_62)
  have V8 : Arv Z h8 b1 k1 .byte (16 : Int32) [(.int (nar .byte c8)), (.int (nar .byte c8)), (.int (nar .byte c8)), (.int (nar .byte c8)), (.int (nar .byte c8)), (.int (nar .byte c8)), (.int (nar .byte c8)), (.int (0 : Int32)), (.int (0 : Int32)), (.int (0 : Int32)), (.int (0 : Int32)), (.int (0 : Int32)), (.int (0 : Int32)), (.int (0 : Int32)), (.int (0 : Int32)), (.int (0 : Int32))] (.int (0 : Int32)) := W8
  have P8 : Pins Z h8 w := P.ext E8
  have Z8 : n0 ≤ h8.size := Nat.le_trans Z0 E8.1
  refine own_step (W' := T8.setTop (mkF m 63 #[.val (.long p0), .second, .val (.int p2), .val (.int p3), .val (.int p4), .val (.long n), .second, .val (.int at_), .val (.int c8), .unset, .unset, .unset] [(.ref b1)])) (fun _ k => st8 _ k) ?_
  refine own_step (W' := T8.setTop (mkF m 64 #[.val (.long p0), .second, .val (.int p2), .val (.int p3), .val (.int p4), .val (.long n), .second, .val (.int at_), .val (.int c8), .unset, .unset, .unset] [(.ref b1), (.ref b1)])) (fun _ k => XS.dup X8.here hx rfl (hb hby at_63) rfl rfl k) ?_
  refine own_step (W' := T8.setTop (mkF m 66 #[.val (.long p0), .second, .val (.int p2), .val (.int p3), .val (.int p4), .val (.long n), .second, .val (.int at_), .val (.int c8), .unset, .unset, .unset] [(.int (7 : Int32)), (.ref b1), (.ref b1)])) (fun _ k => XS.bipush X8.here hx rfl (hb hby at_64) k) ?_
  refine own_step (W' := T8.setTop (mkF m 68 #[.val (.long p0), .second, .val (.int p2), .val (.int p3), .val (.int p4), .val (.long n), .second, .val (.int at_), .val (.int c8), .unset, .unset, .unset] [(.int c8), (.int (7 : Int32)), (.ref b1), (.ref b1)])) (fun _ k => XS.iload X8.here hx rfl (hb hby at_66) rfl k) ?_
  obtain ⟨T9, h9, L9, X9, e9, E9, N9, W9, st9⟩ := own_stB X8 hx hZ e8 V8 (j := (7 : Int32)) (i := 7) ⟨by decide, by decide⟩ rfl (Nat.le_of_ble_eq_true rfl) E8 sz_b1 N8 gn_b1 (g := (mkF m 68 #[.val (.long p0), .second, .val (.int p2), .val (.int p3), .val (.int p4), .val (.long n), .second, .val (.int at_), .val (.int c8), .unset, .unset, .unset] [(.int c8), (.int (7 : Int32)), (.ref b1), (.ref b1)])) rfl rfl (hb hby at_68)
  have V9 : Arv Z h9 b1 k1 .byte (16 : Int32) [(.int (nar .byte c8)), (.int (nar .byte c8)), (.int (nar .byte c8)), (.int (nar .byte c8)), (.int (nar .byte c8)), (.int (nar .byte c8)), (.int (nar .byte c8)), (.int (nar .byte c8)), (.int (0 : Int32)), (.int (0 : Int32)), (.int (0 : Int32)), (.int (0 : Int32)), (.int (0 : Int32)), (.int (0 : Int32)), (.int (0 : Int32)), (.int (0 : Int32))] (.int (0 : Int32)) := W9
  have P9 : Pins Z h9 w := P.ext E9
  have Z9 : n0 ≤ h9.size := Nat.le_trans Z0 E9.1
  refine own_step (W' := T9.setTop (mkF m 69 #[.val (.long p0), .second, .val (.int p2), .val (.int p3), .val (.int p4), .val (.long n), .second, .val (.int at_), .val (.int c8), .unset, .unset, .unset] [(.ref b1)])) (fun _ k => st9 _ k) ?_
  refine own_step (W' := T9.setTop (mkF m 70 #[.val (.long p0), .second, .val (.int p2), .val (.int p3), .val (.int p4), .val (.long n), .second, .val (.int at_), .val (.int c8), .unset, .unset, .unset] [(.ref b1), (.ref b1)])) (fun _ k => XS.dup X9.here hx rfl (hb hby at_69) rfl rfl k) ?_
  refine own_step (W' := T9.setTop (mkF m 72 #[.val (.long p0), .second, .val (.int p2), .val (.int p3), .val (.int p4), .val (.long n), .second, .val (.int at_), .val (.int c8), .unset, .unset, .unset] [(.int (8 : Int32)), (.ref b1), (.ref b1)])) (fun _ k => XS.bipush X9.here hx rfl (hb hby at_70) k) ?_
  refine own_step (W' := T9.setTop (mkF m 74 #[.val (.long p0), .second, .val (.int p2), .val (.int p3), .val (.int p4), .val (.long n), .second, .val (.int at_), .val (.int c8), .unset, .unset, .unset] [(.int c8), (.int (8 : Int32)), (.ref b1), (.ref b1)])) (fun _ k => XS.iload X9.here hx rfl (hb hby at_72) rfl k) ?_
  obtain ⟨T10, h10, L10, X10, e10, E10, N10, W10, st10⟩ := own_stB X9 hx hZ e9 V9 (j := (8 : Int32)) (i := 8) ⟨by decide, by decide⟩ rfl (Nat.le_of_ble_eq_true rfl) E9 sz_b1 N9 gn_b1 (g := (mkF m 74 #[.val (.long p0), .second, .val (.int p2), .val (.int p3), .val (.int p4), .val (.long n), .second, .val (.int at_), .val (.int c8), .unset, .unset, .unset] [(.int c8), (.int (8 : Int32)), (.ref b1), (.ref b1)])) rfl rfl (hb hby at_74)
  have V10 : Arv Z h10 b1 k1 .byte (16 : Int32) [(.int (nar .byte c8)), (.int (nar .byte c8)), (.int (nar .byte c8)), (.int (nar .byte c8)), (.int (nar .byte c8)), (.int (nar .byte c8)), (.int (nar .byte c8)), (.int (nar .byte c8)), (.int (nar .byte c8)), (.int (0 : Int32)), (.int (0 : Int32)), (.int (0 : Int32)), (.int (0 : Int32)), (.int (0 : Int32)), (.int (0 : Int32)), (.int (0 : Int32))] (.int (0 : Int32)) := W10
  have P10 : Pins Z h10 w := P.ext E10
  have Z10 : n0 ≤ h10.size := Nat.le_trans Z0 E10.1
  refine own_step (W' := T10.setTop (mkF m 75 #[.val (.long p0), .second, .val (.int p2), .val (.int p3), .val (.int p4), .val (.long n), .second, .val (.int at_), .val (.int c8), .unset, .unset, .unset] [(.ref b1)])) (fun _ k => st10 _ k) ?_
  refine own_step (W' := T10.setTop (mkF m 76 #[.val (.long p0), .second, .val (.int p2), .val (.int p3), .val (.int p4), .val (.long n), .second, .val (.int at_), .val (.int c8), .unset, .unset, .unset] [(.ref b1), (.ref b1)])) (fun _ k => XS.dup X10.here hx rfl (hb hby at_75) rfl rfl k) ?_
  refine own_step (W' := T10.setTop (mkF m 78 #[.val (.long p0), .second, .val (.int p2), .val (.int p3), .val (.int p4), .val (.long n), .second, .val (.int at_), .val (.int c8), .unset, .unset, .unset] [(.int (9 : Int32)), (.ref b1), (.ref b1)])) (fun _ k => XS.bipush X10.here hx rfl (hb hby at_76) k) ?_
  refine own_step (W' := T10.setTop (mkF m 80 #[.val (.long p0), .second, .val (.int p2), .val (.int p3), .val (.int p4), .val (.long n), .second, .val (.int at_), .val (.int c8), .unset, .unset, .unset] [(.int c8), (.int (9 : Int32)), (.ref b1), (.ref b1)])) (fun _ k => XS.iload X10.here hx rfl (hb hby at_78) rfl k) ?_
  obtain ⟨T11, h11, L11, X11, e11, E11, N11, W11, st11⟩ := own_stB X10 hx hZ e10 V10 (j := (9 : Int32)) (i := 9) ⟨by decide, by decide⟩ rfl (Nat.le_of_ble_eq_true rfl) E10 sz_b1 N10 gn_b1 (g := (mkF m 80 #[.val (.long p0), .second, .val (.int p2), .val (.int p3), .val (.int p4), .val (.long n), .second, .val (.int at_), .val (.int c8), .unset, .unset, .unset] [(.int c8), (.int (9 : Int32)), (.ref b1), (.ref b1)])) rfl rfl (hb hby at_80)
  have V11 : Arv Z h11 b1 k1 .byte (16 : Int32) [(.int (nar .byte c8)), (.int (nar .byte c8)), (.int (nar .byte c8)), (.int (nar .byte c8)), (.int (nar .byte c8)), (.int (nar .byte c8)), (.int (nar .byte c8)), (.int (nar .byte c8)), (.int (nar .byte c8)), (.int (nar .byte c8)), (.int (0 : Int32)), (.int (0 : Int32)), (.int (0 : Int32)), (.int (0 : Int32)), (.int (0 : Int32)), (.int (0 : Int32))] (.int (0 : Int32)) := W11
  have P11 : Pins Z h11 w := P.ext E11
  have Z11 : n0 ≤ h11.size := Nat.le_trans Z0 E11.1
  refine own_step (W' := T11.setTop (mkF m 81 #[.val (.long p0), .second, .val (.int p2), .val (.int p3), .val (.int p4), .val (.long n), .second, .val (.int at_), .val (.int c8), .unset, .unset, .unset] [(.ref b1)])) (fun _ k => st11 _ k) ?_
  refine own_step (W' := T11.setTop (mkF m 82 #[.val (.long p0), .second, .val (.int p2), .val (.int p3), .val (.int p4), .val (.long n), .second, .val (.int at_), .val (.int c8), .unset, .unset, .unset] [(.ref b1), (.ref b1)])) (fun _ k => XS.dup X11.here hx rfl (hb hby at_81) rfl rfl k) ?_
  refine own_step (W' := T11.setTop (mkF m 84 #[.val (.long p0), .second, .val (.int p2), .val (.int p3), .val (.int p4), .val (.long n), .second, .val (.int at_), .val (.int c8), .unset, .unset, .unset] [(.int (10 : Int32)), (.ref b1), (.ref b1)])) (fun _ k => XS.bipush X11.here hx rfl (hb hby at_82) k) ?_
  refine own_step (W' := T11.setTop (mkF m 86 #[.val (.long p0), .second, .val (.int p2), .val (.int p3), .val (.int p4), .val (.long n), .second, .val (.int at_), .val (.int c8), .unset, .unset, .unset] [(.int c8), (.int (10 : Int32)), (.ref b1), (.ref b1)])) (fun _ k => XS.iload X11.here hx rfl (hb hby at_84) rfl k) ?_
  obtain ⟨T12, h12, L12, X12, e12, E12, N12, W12, st12⟩ := own_stB X11 hx hZ e11 V11 (j := (10 : Int32)) (i := 10) ⟨by decide, by decide⟩ rfl (Nat.le_of_ble_eq_true rfl) E11 sz_b1 N11 gn_b1 (g := (mkF m 86 #[.val (.long p0), .second, .val (.int p2), .val (.int p3), .val (.int p4), .val (.long n), .second, .val (.int at_), .val (.int c8), .unset, .unset, .unset] [(.int c8), (.int (10 : Int32)), (.ref b1), (.ref b1)])) rfl rfl (hb hby at_86)
  have V12 : Arv Z h12 b1 k1 .byte (16 : Int32) [(.int (nar .byte c8)), (.int (nar .byte c8)), (.int (nar .byte c8)), (.int (nar .byte c8)), (.int (nar .byte c8)), (.int (nar .byte c8)), (.int (nar .byte c8)), (.int (nar .byte c8)), (.int (nar .byte c8)), (.int (nar .byte c8)), (.int (nar .byte c8)), (.int (0 : Int32)), (.int (0 : Int32)), (.int (0 : Int32)), (.int (0 : Int32)), (.int (0 : Int32))] (.int (0 : Int32)) := W12
  have P12 : Pins Z h12 w := P.ext E12
  have Z12 : n0 ≤ h12.size := Nat.le_trans Z0 E12.1
  refine own_step (W' := T12.setTop (mkF m 87 #[.val (.long p0), .second, .val (.int p2), .val (.int p3), .val (.int p4), .val (.long n), .second, .val (.int at_), .val (.int c8), .unset, .unset, .unset] [(.ref b1)])) (fun _ k => st12 _ k) ?_
  refine own_step (W' := T12.setTop (mkF m 88 #[.val (.long p0), .second, .val (.int p2), .val (.int p3), .val (.int p4), .val (.long n), .second, .val (.int at_), .val (.int c8), .unset, .unset, .unset] [(.ref b1), (.ref b1)])) (fun _ k => XS.dup X12.here hx rfl (hb hby at_87) rfl rfl k) ?_
  refine own_step (W' := T12.setTop (mkF m 90 #[.val (.long p0), .second, .val (.int p2), .val (.int p3), .val (.int p4), .val (.long n), .second, .val (.int at_), .val (.int c8), .unset, .unset, .unset] [(.int (11 : Int32)), (.ref b1), (.ref b1)])) (fun _ k => XS.bipush X12.here hx rfl (hb hby at_88) k) ?_
  refine own_step (W' := T12.setTop (mkF m 92 #[.val (.long p0), .second, .val (.int p2), .val (.int p3), .val (.int p4), .val (.long n), .second, .val (.int at_), .val (.int c8), .unset, .unset, .unset] [(.int c8), (.int (11 : Int32)), (.ref b1), (.ref b1)])) (fun _ k => XS.iload X12.here hx rfl (hb hby at_90) rfl k) ?_
  obtain ⟨T13, h13, L13, X13, e13, E13, N13, W13, st13⟩ := own_stB X12 hx hZ e12 V12 (j := (11 : Int32)) (i := 11) ⟨by decide, by decide⟩ rfl (Nat.le_of_ble_eq_true rfl) E12 sz_b1 N12 gn_b1 (g := (mkF m 92 #[.val (.long p0), .second, .val (.int p2), .val (.int p3), .val (.int p4), .val (.long n), .second, .val (.int at_), .val (.int c8), .unset, .unset, .unset] [(.int c8), (.int (11 : Int32)), (.ref b1), (.ref b1)])) rfl rfl (hb hby at_92)
  have V13 : Arv Z h13 b1 k1 .byte (16 : Int32) [(.int (nar .byte c8)), (.int (nar .byte c8)), (.int (nar .byte c8)), (.int (nar .byte c8)), (.int (nar .byte c8)), (.int (nar .byte c8)), (.int (nar .byte c8)), (.int (nar .byte c8)), (.int (nar .byte c8)), (.int (nar .byte c8)), (.int (nar .byte c8)), (.int (nar .byte c8)), (.int (0 : Int32)), (.int (0 : Int32)), (.int (0 : Int32)), (.int (0 : Int32))] (.int (0 : Int32)) := W13
  have P13 : Pins Z h13 w := P.ext E13
  have Z13 : n0 ≤ h13.size := Nat.le_trans Z0 E13.1
  refine own_step (W' := T13.setTop (mkF m 93 #[.val (.long p0), .second, .val (.int p2), .val (.int p3), .val (.int p4), .val (.long n), .second, .val (.int at_), .val (.int c8), .unset, .unset, .unset] [(.ref b1)])) (fun _ k => st13 _ k) ?_
  refine own_step (W' := T13.setTop (mkF m 94 #[.val (.long p0), .second, .val (.int p2), .val (.int p3), .val (.int p4), .val (.long n), .second, .val (.int at_), .val (.int c8), .unset, .unset, .unset] [(.ref b1), (.ref b1)])) (fun _ k => XS.dup X13.here hx rfl (hb hby at_93) rfl rfl k) ?_
  refine own_step (W' := T13.setTop (mkF m 96 #[.val (.long p0), .second, .val (.int p2), .val (.int p3), .val (.int p4), .val (.long n), .second, .val (.int at_), .val (.int c8), .unset, .unset, .unset] [(.int (12 : Int32)), (.ref b1), (.ref b1)])) (fun _ k => XS.bipush X13.here hx rfl (hb hby at_94) k) ?_
  refine own_step (W' := T13.setTop (mkF m 98 #[.val (.long p0), .second, .val (.int p2), .val (.int p3), .val (.int p4), .val (.long n), .second, .val (.int at_), .val (.int c8), .unset, .unset, .unset] [(.int c8), (.int (12 : Int32)), (.ref b1), (.ref b1)])) (fun _ k => XS.iload X13.here hx rfl (hb hby at_96) rfl k) ?_
  obtain ⟨T14, h14, L14, X14, e14, E14, N14, W14, st14⟩ := own_stB X13 hx hZ e13 V13 (j := (12 : Int32)) (i := 12) ⟨by decide, by decide⟩ rfl (Nat.le_of_ble_eq_true rfl) E13 sz_b1 N13 gn_b1 (g := (mkF m 98 #[.val (.long p0), .second, .val (.int p2), .val (.int p3), .val (.int p4), .val (.long n), .second, .val (.int at_), .val (.int c8), .unset, .unset, .unset] [(.int c8), (.int (12 : Int32)), (.ref b1), (.ref b1)])) rfl rfl (hb hby at_98)
  have V14 : Arv Z h14 b1 k1 .byte (16 : Int32) [(.int (nar .byte c8)), (.int (nar .byte c8)), (.int (nar .byte c8)), (.int (nar .byte c8)), (.int (nar .byte c8)), (.int (nar .byte c8)), (.int (nar .byte c8)), (.int (nar .byte c8)), (.int (nar .byte c8)), (.int (nar .byte c8)), (.int (nar .byte c8)), (.int (nar .byte c8)), (.int (nar .byte c8)), (.int (0 : Int32)), (.int (0 : Int32)), (.int (0 : Int32))] (.int (0 : Int32)) := W14
  have P14 : Pins Z h14 w := P.ext E14
  have Z14 : n0 ≤ h14.size := Nat.le_trans Z0 E14.1
  refine own_step (W' := T14.setTop (mkF m 99 #[.val (.long p0), .second, .val (.int p2), .val (.int p3), .val (.int p4), .val (.long n), .second, .val (.int at_), .val (.int c8), .unset, .unset, .unset] [(.ref b1)])) (fun _ k => st14 _ k) ?_
  refine own_step (W' := T14.setTop (mkF m 100 #[.val (.long p0), .second, .val (.int p2), .val (.int p3), .val (.int p4), .val (.long n), .second, .val (.int at_), .val (.int c8), .unset, .unset, .unset] [(.ref b1), (.ref b1)])) (fun _ k => XS.dup X14.here hx rfl (hb hby at_99) rfl rfl k) ?_
  refine own_step (W' := T14.setTop (mkF m 102 #[.val (.long p0), .second, .val (.int p2), .val (.int p3), .val (.int p4), .val (.long n), .second, .val (.int at_), .val (.int c8), .unset, .unset, .unset] [(.int (13 : Int32)), (.ref b1), (.ref b1)])) (fun _ k => XS.bipush X14.here hx rfl (hb hby at_100) k) ?_
  refine own_step (W' := T14.setTop (mkF m 104 #[.val (.long p0), .second, .val (.int p2), .val (.int p3), .val (.int p4), .val (.long n), .second, .val (.int at_), .val (.int c8), .unset, .unset, .unset] [(.int c8), (.int (13 : Int32)), (.ref b1), (.ref b1)])) (fun _ k => XS.iload X14.here hx rfl (hb hby at_102) rfl k) ?_
  obtain ⟨T15, h15, L15, X15, e15, E15, N15, W15, st15⟩ := own_stB X14 hx hZ e14 V14 (j := (13 : Int32)) (i := 13) ⟨by decide, by decide⟩ rfl (Nat.le_of_ble_eq_true rfl) E14 sz_b1 N14 gn_b1 (g := (mkF m 104 #[.val (.long p0), .second, .val (.int p2), .val (.int p3), .val (.int p4), .val (.long n), .second, .val (.int at_), .val (.int c8), .unset, .unset, .unset] [(.int c8), (.int (13 : Int32)), (.ref b1), (.ref b1)])) rfl rfl (hb hby at_104)
  have V15 : Arv Z h15 b1 k1 .byte (16 : Int32) [(.int (nar .byte c8)), (.int (nar .byte c8)), (.int (nar .byte c8)), (.int (nar .byte c8)), (.int (nar .byte c8)), (.int (nar .byte c8)), (.int (nar .byte c8)), (.int (nar .byte c8)), (.int (nar .byte c8)), (.int (nar .byte c8)), (.int (nar .byte c8)), (.int (nar .byte c8)), (.int (nar .byte c8)), (.int (nar .byte c8)), (.int (0 : Int32)), (.int (0 : Int32))] (.int (0 : Int32)) := W15
  have P15 : Pins Z h15 w := P.ext E15
  have Z15 : n0 ≤ h15.size := Nat.le_trans Z0 E15.1
  refine own_step (W' := T15.setTop (mkF m 105 #[.val (.long p0), .second, .val (.int p2), .val (.int p3), .val (.int p4), .val (.long n), .second, .val (.int at_), .val (.int c8), .unset, .unset, .unset] [(.ref b1)])) (fun _ k => st15 _ k) ?_
  refine own_step (W' := T15.setTop (mkF m 106 #[.val (.long p0), .second, .val (.int p2), .val (.int p3), .val (.int p4), .val (.long n), .second, .val (.int at_), .val (.int c8), .unset, .unset, .unset] [(.ref b1), (.ref b1)])) (fun _ k => XS.dup X15.here hx rfl (hb hby at_105) rfl rfl k) ?_
  refine own_step (W' := T15.setTop (mkF m 108 #[.val (.long p0), .second, .val (.int p2), .val (.int p3), .val (.int p4), .val (.long n), .second, .val (.int at_), .val (.int c8), .unset, .unset, .unset] [(.int (14 : Int32)), (.ref b1), (.ref b1)])) (fun _ k => XS.bipush X15.here hx rfl (hb hby at_106) k) ?_
  refine own_step (W' := T15.setTop (mkF m 110 #[.val (.long p0), .second, .val (.int p2), .val (.int p3), .val (.int p4), .val (.long n), .second, .val (.int at_), .val (.int c8), .unset, .unset, .unset] [(.int c8), (.int (14 : Int32)), (.ref b1), (.ref b1)])) (fun _ k => XS.iload X15.here hx rfl (hb hby at_108) rfl k) ?_
  obtain ⟨T16, h16, L16, X16, e16, E16, N16, W16, st16⟩ := own_stB X15 hx hZ e15 V15 (j := (14 : Int32)) (i := 14) ⟨by decide, by decide⟩ rfl (Nat.le_of_ble_eq_true rfl) E15 sz_b1 N15 gn_b1 (g := (mkF m 110 #[.val (.long p0), .second, .val (.int p2), .val (.int p3), .val (.int p4), .val (.long n), .second, .val (.int at_), .val (.int c8), .unset, .unset, .unset] [(.int c8), (.int (14 : Int32)), (.ref b1), (.ref b1)])) rfl rfl (hb hby at_110)
  have V16 : Arv Z h16 b1 k1 .byte (16 : Int32) [(.int (nar .byte c8)), (.int (nar .byte c8)), (.int (nar .byte c8)), (.int (nar .byte c8)), (.int (nar .byte c8)), (.int (nar .byte c8)), (.int (nar .byte c8)), (.int (nar .byte c8)), (.int (nar .byte c8)), (.int (nar .byte c8)), (.int (nar .byte c8)), (.int (nar .byte c8)), (.int (nar .byte c8)), (.int (nar .byte c8)), (.int (nar .byte c8)), (.int (0 : Int32))] (.int (0 : Int32)) := W16
  have P16 : Pins Z h16 w := P.ext E16
  have Z16 : n0 ≤ h16.size := Nat.le_trans Z0 E16.1
  refine own_step (W' := T16.setTop (mkF m 111 #[.val (.long p0), .second, .val (.int p2), .val (.int p3), .val (.int p4), .val (.long n), .second, .val (.int at_), .val (.int c8), .unset, .unset, .unset] [(.ref b1)])) (fun _ k => st16 _ k) ?_
  refine own_step (W' := T16.setTop (mkF m 112 #[.val (.long p0), .second, .val (.int p2), .val (.int p3), .val (.int p4), .val (.long n), .second, .val (.int at_), .val (.int c8), .unset, .unset, .unset] [(.ref b1), (.ref b1)])) (fun _ k => XS.dup X16.here hx rfl (hb hby at_111) rfl rfl k) ?_
  refine own_step (W' := T16.setTop (mkF m 114 #[.val (.long p0), .second, .val (.int p2), .val (.int p3), .val (.int p4), .val (.long n), .second, .val (.int at_), .val (.int c8), .unset, .unset, .unset] [(.int (15 : Int32)), (.ref b1), (.ref b1)])) (fun _ k => XS.bipush X16.here hx rfl (hb hby at_112) k) ?_
  refine own_step (W' := T16.setTop (mkF m 116 #[.val (.long p0), .second, .val (.int p2), .val (.int p3), .val (.int p4), .val (.long n), .second, .val (.int at_), .val (.int c8), .unset, .unset, .unset] [(.int c8), (.int (15 : Int32)), (.ref b1), (.ref b1)])) (fun _ k => XS.iload X16.here hx rfl (hb hby at_114) rfl k) ?_
  obtain ⟨T17, h17, L17, X17, e17, E17, N17, W17, st17⟩ := own_stB X16 hx hZ e16 V16 (j := (15 : Int32)) (i := 15) ⟨by decide, by decide⟩ rfl (Nat.le_of_ble_eq_true rfl) E16 sz_b1 N16 gn_b1 (g := (mkF m 116 #[.val (.long p0), .second, .val (.int p2), .val (.int p3), .val (.int p4), .val (.long n), .second, .val (.int at_), .val (.int c8), .unset, .unset, .unset] [(.int c8), (.int (15 : Int32)), (.ref b1), (.ref b1)])) rfl rfl (hb hby at_116)
  have V17 : Arv Z h17 b1 k1 .byte (16 : Int32) [(.int (nar .byte c8)), (.int (nar .byte c8)), (.int (nar .byte c8)), (.int (nar .byte c8)), (.int (nar .byte c8)), (.int (nar .byte c8)), (.int (nar .byte c8)), (.int (nar .byte c8)), (.int (nar .byte c8)), (.int (nar .byte c8)), (.int (nar .byte c8)), (.int (nar .byte c8)), (.int (nar .byte c8)), (.int (nar .byte c8)), (.int (nar .byte c8)), (.int (nar .byte c8))] (.int (0 : Int32)) := W17
  have P17 : Pins Z h17 w := P.ext E17
  have Z17 : n0 ≤ h17.size := Nat.le_trans Z0 E17.1
  refine own_step (W' := T17.setTop (mkF m 117 #[.val (.long p0), .second, .val (.int p2), .val (.int p3), .val (.int p4), .val (.long n), .second, .val (.int at_), .val (.int c8), .unset, .unset, .unset] [(.ref b1)])) (fun _ k => st17 _ k) ?_
  exact kt _ _ _ _ _ X17 e17 E17 N17 V17 gn_b1
set_option maxRecDepth 65536 in
set_option maxHeartbeats 40000000 in
theorem own_tail {p : Program} {l : Launch} {e : Env} {s : State} {m : MethodId} {args : Array Value} {below : List Frame} {meth : Method} {c : Code} {s₁ : State} {Z : State} {a0 : Array Value} {h1 : Heap} {n0 : Nat} {locs : List Loc} (p0 : Int64) (p2 p3 p4 : Int32) (n : Int64) (at_ c8 : Int32) (b : Addr) (k : ClassId) (ha : 0 ≤ at_.toInt) (ha7 : at_.toInt ≤ 7) (hn : 0 ≤ n.toInt)
    (X0 : Stand p l e room_1 s m args below meth c s₁ locs (0 + 1) (0 + 16)) (hx : p.tables.exec = Jvm.exec) (hZ : Z.Warmed39 s.vm) (hw : ∀ d ∈ tables_1, d.before a0 Z = true) (hby : c.code = code) (hml : c.maxLocals = 12) (hown : s.vm.findClass "millrace/local/ByteSinkPutUnsignedPinLaw" = some m.cls) (e0 : s₁.heap = h1) (N0 : Fr n0 locs) (Z0 : n0 ≤ h1.size) (V0 : Arv Z h1 b k .byte (16 : Int32) (own_L (fun _ => c8)) (.int (0 : Int32))) (gb : n0 ≤ b) (hlk : meth.locks = false) (hret : meth.sig.returnType = ret) :
    own_Done p e below (s₁.setTop (mkF m 117 #[.val (.long p0), .second, .val (.int p2), .val (.int p3), .val (.int p4), .val (.long n), .second, .val (.int at_), .val (.int c8), .unset, .unset, .unset] [(.ref b)])) (fun o U' => ∃ v L, o = .returned v ∧ own_Q0 n0 v U'.heap L ∧ FrameEnd s o U' L room_1.cells room_1.slots) := by
  obtain ⟨r, hr, hT⟩ := own_T_ex hn
  have har : at_.toInt + r < 16 := by omega
  have hall := fun j hj => own_all (c := c8) ha har hr hT (own_len_toInt hr) j hj
  refine own_step (W' := s₁.setTop (mkF m 119 #[.val (.long p0), .second, .val (.int p2), .val (.int p3), .val (.int p4), .val (.long n), .second, .val (.int at_), .val (.int c8), .val (.ref b), .unset, .unset] [])) (fun _ k => XS.astore X0.here hx rfl (hb hby at_117) rfl rfl (l' := #[.val (.long p0), .second, .val (.int p2), .val (.int p3), .val (.int p4), .val (.long n), .second, .val (.int at_), .val (.int c8), .val (.ref b), .unset, .unset]) rfl k) ?_
  refine own_step (W' := s₁.setTop (mkF m 121 #[.val (.long p0), .second, .val (.int p2), .val (.int p3), .val (.int p4), .val (.long n), .second, .val (.int at_), .val (.int c8), .val (.ref b), .unset, .unset] [(.ref b)])) (fun _ k => XS.aload X0.here hx rfl (hb hby at_119) rfl rfl k) ?_
  refine own_step (W' := s₁.setTop (mkF m 123 #[.val (.long p0), .second, .val (.int p2), .val (.int p3), .val (.int p4), .val (.long n), .second, .val (.int at_), .val (.int c8), .val (.ref b), .unset, .unset] [(.int at_), (.ref b)])) (fun _ k => XS.iload X0.here hx rfl (hb hby at_121) rfl k) ?_
  refine own_step (W' := s₁.setTop (mkF m 125 #[.val (.long p0), .second, .val (.int p2), .val (.int p3), .val (.int p4), .val (.long n), .second, .val (.int at_), .val (.int c8), .val (.ref b), .unset, .unset] [(.long n), (.int at_), (.ref b)])) (fun _ k => XS.lload X0.here hx rfl (hb hby at_123) rfl k) ?_
  obtain ⟨_, _, ⟨T1, L1, k1, n1⟩, -, X1, ⟨Lc1, hQ1, l1, y1, z1⟩, st1⟩ := Jvm.LawKit.callS X0 hx (y := (⟨"millrace/local/ByteSink", "putUnsigned", "([BIJ)I"⟩ : MethodName)) hown (mvT hZ (hw _ (List.mem_of_getElem? (i := 2) rfl))) (mvT hZ (hw _ (List.mem_of_getElem? (i := 3) rfl))) (mvT hZ (hw _ (List.mem_of_getElem? (i := 4) rfl))) (mvT hZ (hw _ (List.mem_of_getElem? (i := 5) rfl))) (by decide) (backOf (W := 0) (rm1 l Z a0 hw [] b k at_ n (fun _ => c8) r h1 n0 Z0 V0 gb ha har hT) hZ (hw _ (List.mem_of_getElem? (i := 5) rfl)) (hw _ (List.mem_of_getElem? (i := 4) rfl)) (by decide) (by decide)) (g := (mkF m 125 #[.val (.long p0), .second, .val (.int p2), .val (.int p3), .val (.int p4), .val (.long n), .second, .val (.int at_), .val (.int c8), .val (.ref b), .unset, .unset] [(.long n), (.int at_), (.ref b)])) rfl (by rw [hml]; rfl) (argsL := [(.ref b), (.int at_), (.long n)]) (rest := []) (lenOf pd_0 rfl) rfl (by show 2 * 0 + _ ≤ _; exact Nat.le_of_eq rfl) (hb hby at_125) (fun _ _ => ⟨rfl, e0, (by decide : 1 + 0 ≤ _), (by decide : 16 + 0 ≤ _)⟩)
  dsimp only [Pt.U, Pt.locs, Pt.cells, Pt.slots] at X1 l1 y1 z1 st1 hQ1
  subst l1 y1 z1
  obtain ⟨rfl, N1q, K1, V1⟩ := hQ1
  have N1 := Fr.app N0 N1q
  obtain ⟨h1, e1⟩ : ∃ h, T1.heap = h := ⟨_, rfl⟩
  rw [e1] at K1 V1
  have Z1 : n0 ≤ h1.size := Nat.le_trans Z0 K1.1
  refine own_step (W' := T1.setTop (mkF m 128 #[.val (.long p0), .second, .val (.int p2), .val (.int p3), .val (.int p4), .val (.long n), .second, .val (.int at_), .val (.int c8), .val (.ref b), .unset, .unset] [(.int (own_end at_ r))])) (fun _ k => st1 _ k) ?_
  refine own_step (W' := T1.setTop (mkF m 130 #[.val (.long p0), .second, .val (.int p2), .val (.int p3), .val (.int p4), .val (.long n), .second, .val (.int at_), .val (.int c8), .val (.ref b), .val (.int (own_end at_ r)), .unset] [])) (fun _ k => XS.istore X1.here hx rfl (hb hby at_128) rfl (l' := #[.val (.long p0), .second, .val (.int p2), .val (.int p3), .val (.int p4), .val (.long n), .second, .val (.int at_), .val (.int c8), .val (.ref b), .val (.int (own_end at_ r)), .unset]) rfl k) ?_
  refine own_step (W' := T1.setTop (mkF m 132 #[.val (.long p0), .second, .val (.int p2), .val (.int p3), .val (.int p4), .val (.long n), .second, .val (.int at_), .val (.int c8), .val (.ref b), .val (.int (own_end at_ r)), .unset] [(.long n)])) (fun _ k => XS.lload X1.here hx rfl (hb hby at_130) rfl k) ?_
  obtain ⟨_, _, ⟨T2, L2, k2, n2⟩, -, X2, ⟨Lc2, hQ2, l2, y2, z2⟩, st2⟩ := Jvm.LawKit.callS X1 hx (y := (⟨"millrace/local/ByteSinkPutUnsignedPinLaw", "lengthOf", "(J)I"⟩ : MethodName)) hown (mvT hZ (hw _ (List.mem_of_getElem? (i := 7) rfl))) (mvT hZ (hw _ (List.mem_of_getElem? (i := 8) rfl))) (mvT hZ (hw _ (List.mem_of_getElem? (i := 9) rfl))) (mvT hZ (hw _ (List.mem_of_getElem? (i := 10) rfl))) (by decide) (backOf (W := 0) (rm2 l Z a0 hw [] n r hr hT h1 n0 Z1) hZ (hw _ (List.mem_of_getElem? (i := 10) rfl)) (hw _ (List.mem_of_getElem? (i := 9) rfl)) (by decide) (by decide)) (g := (mkF m 132 #[.val (.long p0), .second, .val (.int p2), .val (.int p3), .val (.int p4), .val (.long n), .second, .val (.int at_), .val (.int c8), .val (.ref b), .val (.int (own_end at_ r)), .unset] [(.long n)])) rfl (by rw [hml]; rfl) (argsL := [(.long n)]) (rest := []) (lenOf pd_1 rfl) rfl (by show 2 * 0 + _ ≤ _; exact Nat.le_of_eq rfl) (hb hby at_132) (fun _ _ => ⟨rfl, e1, (by decide : 1 + 0 ≤ _), (by decide : 16 + 0 ≤ _)⟩)
  dsimp only [Pt.U, Pt.locs, Pt.cells, Pt.slots] at X2 l2 y2 z2 st2 hQ2
  subst l2 y2 z2
  obtain ⟨rfl, N2q, e2⟩ := hQ2
  have N2 := Fr.app N1 N2q
  refine own_step (W' := T2.setTop (mkF m 135 #[.val (.long p0), .second, .val (.int p2), .val (.int p3), .val (.int p4), .val (.long n), .second, .val (.int at_), .val (.int c8), .val (.ref b), .val (.int (own_end at_ r)), .unset] [(.int (Int32.ofNat (r + 1)))])) (fun _ k => st2 _ k) ?_
  refine own_step (W' := T2.setTop (mkF m 137 #[.val (.long p0), .second, .val (.int p2), .val (.int p3), .val (.int p4), .val (.long n), .second, .val (.int at_), .val (.int c8), .val (.ref b), .val (.int (own_end at_ r)), .val (.int (Int32.ofNat (r + 1)))] [])) (fun _ k => XS.istore X2.here hx rfl (hb hby at_135) rfl (l' := #[.val (.long p0), .second, .val (.int p2), .val (.int p3), .val (.int p4), .val (.long n), .second, .val (.int at_), .val (.int c8), .val (.ref b), .val (.int (own_end at_ r)), .val (.int (Int32.ofNat (r + 1)))]) rfl k) ?_
  refine own_step (W' := T2.setTop (mkF m 139 #[.val (.long p0), .second, .val (.int p2), .val (.int p3), .val (.int p4), .val (.long n), .second, .val (.int at_), .val (.int c8), .val (.ref b), .val (.int (own_end at_ r)), .val (.int (Int32.ofNat (r + 1)))] [(.int (own_end at_ r))])) (fun _ k => XS.iload X2.here hx rfl (hb hby at_137) rfl k) ?_
  refine own_step (W' := T2.setTop (mkF m 141 #[.val (.long p0), .second, .val (.int p2), .val (.int p3), .val (.int p4), .val (.long n), .second, .val (.int at_), .val (.int c8), .val (.ref b), .val (.int (own_end at_ r)), .val (.int (Int32.ofNat (r + 1)))] [(.int at_), (.int (own_end at_ r))])) (fun _ k => XS.iload X2.here hx rfl (hb hby at_139) rfl k) ?_
  refine own_step (W' := T2.setTop (mkF m 143 #[.val (.long p0), .second, .val (.int p2), .val (.int p3), .val (.int p4), .val (.long n), .second, .val (.int at_), .val (.int c8), .val (.ref b), .val (.int (own_end at_ r)), .val (.int (Int32.ofNat (r + 1)))] [(.int (Int32.ofNat (r + 1))), (.int at_), (.int (own_end at_ r))])) (fun _ k => XS.iload X2.here hx rfl (hb hby at_141) rfl k) ?_
  refine own_step (W' := T2.setTop (mkF m 144 #[.val (.long p0), .second, .val (.int p2), .val (.int p3), .val (.int p4), .val (.long n), .second, .val (.int at_), .val (.int c8), .val (.ref b), .val (.int (own_end at_ r)), .val (.int (Int32.ofNat (r + 1)))] [(.int (at_ + (Int32.ofNat (r + 1)))), (.int (own_end at_ r))])) (fun _ k => XS.iadd X2.here hx rfl (hb hby at_143) rfl k) ?_
  refine own_step (W' := T2.setTop (mkF m 149 #[.val (.long p0), .second, .val (.int p2), .val (.int p3), .val (.int p4), .val (.long n), .second, .val (.int at_), .val (.int c8), .val (.ref b), .val (.int (own_end at_ r)), .val (.int (Int32.ofNat (r + 1)))] [])) (fun _ k => XS.icmpYes X2.here hx rfl (pc0 := 144) (pc' := 149) rfl (hb hby at_144) rfl (teq (own_ends ha har hr)).1 (by decide) (by decide) k) ?_
  refine own_step (W' := T2.setTop (mkF m 151 #[.val (.long p0), .second, .val (.int p2), .val (.int p3), .val (.int p4), .val (.long n), .second, .val (.int at_), .val (.int c8), .val (.ref b), .val (.int (own_end at_ r)), .val (.int (Int32.ofNat (r + 1)))] [(.ref b)])) (fun _ k => XS.aload X2.here hx rfl (hb hby at_149) rfl rfl k) ?_
  refine own_step (W' := T2.setTop (mkF m 152 #[.val (.long p0), .second, .val (.int p2), .val (.int p3), .val (.int p4), .val (.long n), .second, .val (.int at_), .val (.int c8), .val (.ref b), .val (.int (own_end at_ r)), .val (.int (Int32.ofNat (r + 1)))] [(.int (0 : Int32)), (.ref b)])) (fun _ k => XS.iconst X2.here hx rfl (hb hby at_151) k) ?_
  refine own_step (W' := T2.setTop (mkF m 154 #[.val (.long p0), .second, .val (.int p2), .val (.int p3), .val (.int p4), .val (.long n), .second, .val (.int at_), .val (.int c8), .val (.ref b), .val (.int (own_end at_ r)), .val (.int (Int32.ofNat (r + 1)))] [(.int at_), (.int (0 : Int32)), (.ref b)])) (fun _ k => XS.iload X2.here hx rfl (hb hby at_152) rfl k) ?_
  refine own_step (W' := T2.setTop (mkF m 156 #[.val (.long p0), .second, .val (.int p2), .val (.int p3), .val (.int p4), .val (.long n), .second, .val (.int at_), .val (.int c8), .val (.ref b), .val (.int (own_end at_ r)), .val (.int (Int32.ofNat (r + 1)))] [(.int (Int32.ofNat (r + 1))), (.int at_), (.int (0 : Int32)), (.ref b)])) (fun _ k => XS.iload X2.here hx rfl (hb hby at_154) rfl k) ?_
  refine own_step (W' := T2.setTop (mkF m 158 #[.val (.long p0), .second, .val (.int p2), .val (.int p3), .val (.int p4), .val (.long n), .second, .val (.int at_), .val (.int c8), .val (.ref b), .val (.int (own_end at_ r)), .val (.int (Int32.ofNat (r + 1)))] [(.long n), (.int (Int32.ofNat (r + 1))), (.int at_), (.int (0 : Int32)), (.ref b)])) (fun _ k => XS.lload X2.here hx rfl (hb hby at_156) rfl k) ?_
  refine own_step (W' := T2.setTop (mkF m 160 #[.val (.long p0), .second, .val (.int p2), .val (.int p3), .val (.int p4), .val (.long n), .second, .val (.int at_), .val (.int c8), .val (.ref b), .val (.int (own_end at_ r)), .val (.int (Int32.ofNat (r + 1)))] [(.int c8), (.long n), (.int (Int32.ofNat (r + 1))), (.int at_), (.int (0 : Int32)), (.ref b)])) (fun _ k => XS.iload X2.here hx rfl (hb hby at_158) rfl k) ?_
  obtain ⟨_, _, ⟨T3, L3, k3, n3⟩, -, X3, ⟨Lc3, hQ3, l3, y3, z3⟩, st3⟩ := Jvm.LawKit.callS X2 hx (y := (⟨"millrace/local/ByteSinkPutUnsignedPinLaw", "at", "([BIIIJB)Z"⟩ : MethodName)) hown (mvT hZ (hw _ (List.mem_of_getElem? (i := 12) rfl))) (mvT hZ (hw _ (List.mem_of_getElem? (i := 13) rfl))) (mvT hZ (hw _ (List.mem_of_getElem? (i := 9) rfl))) (mvT hZ (hw _ (List.mem_of_getElem? (i := 14) rfl))) (by decide) (backOf (W := 0) (rm3 l Z a0 hw [] b k (0 : Int32) at_ (Int32.ofNat (r + 1)) n c8 (own_put (fun _ => c8) at_ n r) h1 n0 Z1 V1 ⟨by decide, by decide⟩ (hall _ ⟨by decide, by decide⟩)) hZ (hw _ (List.mem_of_getElem? (i := 14) rfl)) (hw _ (List.mem_of_getElem? (i := 9) rfl)) (by decide) (by decide)) (g := (mkF m 160 #[.val (.long p0), .second, .val (.int p2), .val (.int p3), .val (.int p4), .val (.long n), .second, .val (.int at_), .val (.int c8), .val (.ref b), .val (.int (own_end at_ r)), .val (.int (Int32.ofNat (r + 1)))] [(.int c8), (.long n), (.int (Int32.ofNat (r + 1))), (.int at_), (.int (0 : Int32)), (.ref b)])) rfl (by rw [hml]; rfl) (argsL := [(.ref b), (.int (0 : Int32)), (.int at_), (.int (Int32.ofNat (r + 1))), (.long n), (.int c8)]) (rest := []) (lenOf pd_2 rfl) rfl (by show 2 * 0 + _ ≤ _; exact Nat.le_of_eq rfl) (hb hby at_160) (fun _ _ => ⟨rfl, e2, (by decide : 1 + 0 ≤ _), (by decide : 16 + 0 ≤ _)⟩)
  dsimp only [Pt.U, Pt.locs, Pt.cells, Pt.slots] at X3 l3 y3 z3 st3 hQ3
  subst l3 y3 z3
  obtain ⟨rfl, N3q, e3⟩ := hQ3
  have N3 := Fr.app N2 N3q
  refine own_step (W' := T3.setTop (mkF m 163 #[.val (.long p0), .second, .val (.int p2), .val (.int p3), .val (.int p4), .val (.long n), .second, .val (.int at_), .val (.int c8), .val (.ref b), .val (.int (own_end at_ r)), .val (.int (Int32.ofNat (r + 1)))] [(.int (1 : Int32))])) (fun _ k => st3 _ k) ?_
  refine own_step (W' := T3.setTop (mkF m 166 #[.val (.long p0), .second, .val (.int p2), .val (.int p3), .val (.int p4), .val (.long n), .second, .val (.int at_), .val (.int c8), .val (.ref b), .val (.int (own_end at_ r)), .val (.int (Int32.ofNat (r + 1)))] [])) (fun _ k => XS.ifNo X3.here hx rfl (hb hby at_163) rfl (by decide) k) ?_
  refine own_step (W' := T3.setTop (mkF m 168 #[.val (.long p0), .second, .val (.int p2), .val (.int p3), .val (.int p4), .val (.long n), .second, .val (.int at_), .val (.int c8), .val (.ref b), .val (.int (own_end at_ r)), .val (.int (Int32.ofNat (r + 1)))] [(.ref b)])) (fun _ k => XS.aload X3.here hx rfl (hb hby at_166) rfl rfl k) ?_
  refine own_step (W' := T3.setTop (mkF m 169 #[.val (.long p0), .second, .val (.int p2), .val (.int p3), .val (.int p4), .val (.long n), .second, .val (.int at_), .val (.int c8), .val (.ref b), .val (.int (own_end at_ r)), .val (.int (Int32.ofNat (r + 1)))] [(.int (1 : Int32)), (.ref b)])) (fun _ k => XS.iconst X3.here hx rfl (hb hby at_168) k) ?_
  refine own_step (W' := T3.setTop (mkF m 171 #[.val (.long p0), .second, .val (.int p2), .val (.int p3), .val (.int p4), .val (.long n), .second, .val (.int at_), .val (.int c8), .val (.ref b), .val (.int (own_end at_ r)), .val (.int (Int32.ofNat (r + 1)))] [(.int at_), (.int (1 : Int32)), (.ref b)])) (fun _ k => XS.iload X3.here hx rfl (hb hby at_169) rfl k) ?_
  refine own_step (W' := T3.setTop (mkF m 173 #[.val (.long p0), .second, .val (.int p2), .val (.int p3), .val (.int p4), .val (.long n), .second, .val (.int at_), .val (.int c8), .val (.ref b), .val (.int (own_end at_ r)), .val (.int (Int32.ofNat (r + 1)))] [(.int (Int32.ofNat (r + 1))), (.int at_), (.int (1 : Int32)), (.ref b)])) (fun _ k => XS.iload X3.here hx rfl (hb hby at_171) rfl k) ?_
  refine own_step (W' := T3.setTop (mkF m 175 #[.val (.long p0), .second, .val (.int p2), .val (.int p3), .val (.int p4), .val (.long n), .second, .val (.int at_), .val (.int c8), .val (.ref b), .val (.int (own_end at_ r)), .val (.int (Int32.ofNat (r + 1)))] [(.long n), (.int (Int32.ofNat (r + 1))), (.int at_), (.int (1 : Int32)), (.ref b)])) (fun _ k => XS.lload X3.here hx rfl (hb hby at_173) rfl k) ?_
  refine own_step (W' := T3.setTop (mkF m 177 #[.val (.long p0), .second, .val (.int p2), .val (.int p3), .val (.int p4), .val (.long n), .second, .val (.int at_), .val (.int c8), .val (.ref b), .val (.int (own_end at_ r)), .val (.int (Int32.ofNat (r + 1)))] [(.int c8), (.long n), (.int (Int32.ofNat (r + 1))), (.int at_), (.int (1 : Int32)), (.ref b)])) (fun _ k => XS.iload X3.here hx rfl (hb hby at_175) rfl k) ?_
  obtain ⟨_, _, ⟨T4, L4, k4, n4⟩, -, X4, ⟨Lc4, hQ4, l4, y4, z4⟩, st4⟩ := Jvm.LawKit.callS X3 hx (y := (⟨"millrace/local/ByteSinkPutUnsignedPinLaw", "at", "([BIIIJB)Z"⟩ : MethodName)) hown (mvT hZ (hw _ (List.mem_of_getElem? (i := 12) rfl))) (mvT hZ (hw _ (List.mem_of_getElem? (i := 13) rfl))) (mvT hZ (hw _ (List.mem_of_getElem? (i := 9) rfl))) (mvT hZ (hw _ (List.mem_of_getElem? (i := 14) rfl))) (by decide) (backOf (W := 0) (rm3 l Z a0 hw [] b k (1 : Int32) at_ (Int32.ofNat (r + 1)) n c8 (own_put (fun _ => c8) at_ n r) h1 n0 Z1 V1 ⟨by decide, by decide⟩ (hall _ ⟨by decide, by decide⟩)) hZ (hw _ (List.mem_of_getElem? (i := 14) rfl)) (hw _ (List.mem_of_getElem? (i := 9) rfl)) (by decide) (by decide)) (g := (mkF m 177 #[.val (.long p0), .second, .val (.int p2), .val (.int p3), .val (.int p4), .val (.long n), .second, .val (.int at_), .val (.int c8), .val (.ref b), .val (.int (own_end at_ r)), .val (.int (Int32.ofNat (r + 1)))] [(.int c8), (.long n), (.int (Int32.ofNat (r + 1))), (.int at_), (.int (1 : Int32)), (.ref b)])) rfl (by rw [hml]; rfl) (argsL := [(.ref b), (.int (1 : Int32)), (.int at_), (.int (Int32.ofNat (r + 1))), (.long n), (.int c8)]) (rest := []) (lenOf pd_2 rfl) rfl (by show 2 * 0 + _ ≤ _; exact Nat.le_of_eq rfl) (hb hby at_177) (fun _ _ => ⟨rfl, e3, (by decide : 1 + 0 ≤ _), (by decide : 16 + 0 ≤ _)⟩)
  dsimp only [Pt.U, Pt.locs, Pt.cells, Pt.slots] at X4 l4 y4 z4 st4 hQ4
  subst l4 y4 z4
  obtain ⟨rfl, N4q, e4⟩ := hQ4
  have N4 := Fr.app N3 N4q
  refine own_step (W' := T4.setTop (mkF m 180 #[.val (.long p0), .second, .val (.int p2), .val (.int p3), .val (.int p4), .val (.long n), .second, .val (.int at_), .val (.int c8), .val (.ref b), .val (.int (own_end at_ r)), .val (.int (Int32.ofNat (r + 1)))] [(.int (1 : Int32))])) (fun _ k => st4 _ k) ?_
  refine own_step (W' := T4.setTop (mkF m 183 #[.val (.long p0), .second, .val (.int p2), .val (.int p3), .val (.int p4), .val (.long n), .second, .val (.int at_), .val (.int c8), .val (.ref b), .val (.int (own_end at_ r)), .val (.int (Int32.ofNat (r + 1)))] [])) (fun _ k => XS.ifNo X4.here hx rfl (hb hby at_180) rfl (by decide) k) ?_
  refine own_step (W' := T4.setTop (mkF m 185 #[.val (.long p0), .second, .val (.int p2), .val (.int p3), .val (.int p4), .val (.long n), .second, .val (.int at_), .val (.int c8), .val (.ref b), .val (.int (own_end at_ r)), .val (.int (Int32.ofNat (r + 1)))] [(.ref b)])) (fun _ k => XS.aload X4.here hx rfl (hb hby at_183) rfl rfl k) ?_
  refine own_step (W' := T4.setTop (mkF m 186 #[.val (.long p0), .second, .val (.int p2), .val (.int p3), .val (.int p4), .val (.long n), .second, .val (.int at_), .val (.int c8), .val (.ref b), .val (.int (own_end at_ r)), .val (.int (Int32.ofNat (r + 1)))] [(.int (2 : Int32)), (.ref b)])) (fun _ k => XS.iconst X4.here hx rfl (hb hby at_185) k) ?_
  refine own_step (W' := T4.setTop (mkF m 188 #[.val (.long p0), .second, .val (.int p2), .val (.int p3), .val (.int p4), .val (.long n), .second, .val (.int at_), .val (.int c8), .val (.ref b), .val (.int (own_end at_ r)), .val (.int (Int32.ofNat (r + 1)))] [(.int at_), (.int (2 : Int32)), (.ref b)])) (fun _ k => XS.iload X4.here hx rfl (hb hby at_186) rfl k) ?_
  refine own_step (W' := T4.setTop (mkF m 190 #[.val (.long p0), .second, .val (.int p2), .val (.int p3), .val (.int p4), .val (.long n), .second, .val (.int at_), .val (.int c8), .val (.ref b), .val (.int (own_end at_ r)), .val (.int (Int32.ofNat (r + 1)))] [(.int (Int32.ofNat (r + 1))), (.int at_), (.int (2 : Int32)), (.ref b)])) (fun _ k => XS.iload X4.here hx rfl (hb hby at_188) rfl k) ?_
  refine own_step (W' := T4.setTop (mkF m 192 #[.val (.long p0), .second, .val (.int p2), .val (.int p3), .val (.int p4), .val (.long n), .second, .val (.int at_), .val (.int c8), .val (.ref b), .val (.int (own_end at_ r)), .val (.int (Int32.ofNat (r + 1)))] [(.long n), (.int (Int32.ofNat (r + 1))), (.int at_), (.int (2 : Int32)), (.ref b)])) (fun _ k => XS.lload X4.here hx rfl (hb hby at_190) rfl k) ?_
  refine own_step (W' := T4.setTop (mkF m 194 #[.val (.long p0), .second, .val (.int p2), .val (.int p3), .val (.int p4), .val (.long n), .second, .val (.int at_), .val (.int c8), .val (.ref b), .val (.int (own_end at_ r)), .val (.int (Int32.ofNat (r + 1)))] [(.int c8), (.long n), (.int (Int32.ofNat (r + 1))), (.int at_), (.int (2 : Int32)), (.ref b)])) (fun _ k => XS.iload X4.here hx rfl (hb hby at_192) rfl k) ?_
  obtain ⟨_, _, ⟨T5, L5, k5, n5⟩, -, X5, ⟨Lc5, hQ5, l5, y5, z5⟩, st5⟩ := Jvm.LawKit.callS X4 hx (y := (⟨"millrace/local/ByteSinkPutUnsignedPinLaw", "at", "([BIIIJB)Z"⟩ : MethodName)) hown (mvT hZ (hw _ (List.mem_of_getElem? (i := 12) rfl))) (mvT hZ (hw _ (List.mem_of_getElem? (i := 13) rfl))) (mvT hZ (hw _ (List.mem_of_getElem? (i := 9) rfl))) (mvT hZ (hw _ (List.mem_of_getElem? (i := 14) rfl))) (by decide) (backOf (W := 0) (rm3 l Z a0 hw [] b k (2 : Int32) at_ (Int32.ofNat (r + 1)) n c8 (own_put (fun _ => c8) at_ n r) h1 n0 Z1 V1 ⟨by decide, by decide⟩ (hall _ ⟨by decide, by decide⟩)) hZ (hw _ (List.mem_of_getElem? (i := 14) rfl)) (hw _ (List.mem_of_getElem? (i := 9) rfl)) (by decide) (by decide)) (g := (mkF m 194 #[.val (.long p0), .second, .val (.int p2), .val (.int p3), .val (.int p4), .val (.long n), .second, .val (.int at_), .val (.int c8), .val (.ref b), .val (.int (own_end at_ r)), .val (.int (Int32.ofNat (r + 1)))] [(.int c8), (.long n), (.int (Int32.ofNat (r + 1))), (.int at_), (.int (2 : Int32)), (.ref b)])) rfl (by rw [hml]; rfl) (argsL := [(.ref b), (.int (2 : Int32)), (.int at_), (.int (Int32.ofNat (r + 1))), (.long n), (.int c8)]) (rest := []) (lenOf pd_2 rfl) rfl (by show 2 * 0 + _ ≤ _; exact Nat.le_of_eq rfl) (hb hby at_194) (fun _ _ => ⟨rfl, e4, (by decide : 1 + 0 ≤ _), (by decide : 16 + 0 ≤ _)⟩)
  dsimp only [Pt.U, Pt.locs, Pt.cells, Pt.slots] at X5 l5 y5 z5 st5 hQ5
  subst l5 y5 z5
  obtain ⟨rfl, N5q, e5⟩ := hQ5
  have N5 := Fr.app N4 N5q
  refine own_step (W' := T5.setTop (mkF m 197 #[.val (.long p0), .second, .val (.int p2), .val (.int p3), .val (.int p4), .val (.long n), .second, .val (.int at_), .val (.int c8), .val (.ref b), .val (.int (own_end at_ r)), .val (.int (Int32.ofNat (r + 1)))] [(.int (1 : Int32))])) (fun _ k => st5 _ k) ?_
  refine own_step (W' := T5.setTop (mkF m 200 #[.val (.long p0), .second, .val (.int p2), .val (.int p3), .val (.int p4), .val (.long n), .second, .val (.int at_), .val (.int c8), .val (.ref b), .val (.int (own_end at_ r)), .val (.int (Int32.ofNat (r + 1)))] [])) (fun _ k => XS.ifNo X5.here hx rfl (hb hby at_197) rfl (by decide) k) ?_
  refine own_step (W' := T5.setTop (mkF m 202 #[.val (.long p0), .second, .val (.int p2), .val (.int p3), .val (.int p4), .val (.long n), .second, .val (.int at_), .val (.int c8), .val (.ref b), .val (.int (own_end at_ r)), .val (.int (Int32.ofNat (r + 1)))] [(.ref b)])) (fun _ k => XS.aload X5.here hx rfl (hb hby at_200) rfl rfl k) ?_
  refine own_step (W' := T5.setTop (mkF m 203 #[.val (.long p0), .second, .val (.int p2), .val (.int p3), .val (.int p4), .val (.long n), .second, .val (.int at_), .val (.int c8), .val (.ref b), .val (.int (own_end at_ r)), .val (.int (Int32.ofNat (r + 1)))] [(.int (3 : Int32)), (.ref b)])) (fun _ k => XS.iconst X5.here hx rfl (hb hby at_202) k) ?_
  refine own_step (W' := T5.setTop (mkF m 205 #[.val (.long p0), .second, .val (.int p2), .val (.int p3), .val (.int p4), .val (.long n), .second, .val (.int at_), .val (.int c8), .val (.ref b), .val (.int (own_end at_ r)), .val (.int (Int32.ofNat (r + 1)))] [(.int at_), (.int (3 : Int32)), (.ref b)])) (fun _ k => XS.iload X5.here hx rfl (hb hby at_203) rfl k) ?_
  refine own_step (W' := T5.setTop (mkF m 207 #[.val (.long p0), .second, .val (.int p2), .val (.int p3), .val (.int p4), .val (.long n), .second, .val (.int at_), .val (.int c8), .val (.ref b), .val (.int (own_end at_ r)), .val (.int (Int32.ofNat (r + 1)))] [(.int (Int32.ofNat (r + 1))), (.int at_), (.int (3 : Int32)), (.ref b)])) (fun _ k => XS.iload X5.here hx rfl (hb hby at_205) rfl k) ?_
  refine own_step (W' := T5.setTop (mkF m 209 #[.val (.long p0), .second, .val (.int p2), .val (.int p3), .val (.int p4), .val (.long n), .second, .val (.int at_), .val (.int c8), .val (.ref b), .val (.int (own_end at_ r)), .val (.int (Int32.ofNat (r + 1)))] [(.long n), (.int (Int32.ofNat (r + 1))), (.int at_), (.int (3 : Int32)), (.ref b)])) (fun _ k => XS.lload X5.here hx rfl (hb hby at_207) rfl k) ?_
  refine own_step (W' := T5.setTop (mkF m 211 #[.val (.long p0), .second, .val (.int p2), .val (.int p3), .val (.int p4), .val (.long n), .second, .val (.int at_), .val (.int c8), .val (.ref b), .val (.int (own_end at_ r)), .val (.int (Int32.ofNat (r + 1)))] [(.int c8), (.long n), (.int (Int32.ofNat (r + 1))), (.int at_), (.int (3 : Int32)), (.ref b)])) (fun _ k => XS.iload X5.here hx rfl (hb hby at_209) rfl k) ?_
  obtain ⟨_, _, ⟨T6, L6, k6, n6⟩, -, X6, ⟨Lc6, hQ6, l6, y6, z6⟩, st6⟩ := Jvm.LawKit.callS X5 hx (y := (⟨"millrace/local/ByteSinkPutUnsignedPinLaw", "at", "([BIIIJB)Z"⟩ : MethodName)) hown (mvT hZ (hw _ (List.mem_of_getElem? (i := 12) rfl))) (mvT hZ (hw _ (List.mem_of_getElem? (i := 13) rfl))) (mvT hZ (hw _ (List.mem_of_getElem? (i := 9) rfl))) (mvT hZ (hw _ (List.mem_of_getElem? (i := 14) rfl))) (by decide) (backOf (W := 0) (rm3 l Z a0 hw [] b k (3 : Int32) at_ (Int32.ofNat (r + 1)) n c8 (own_put (fun _ => c8) at_ n r) h1 n0 Z1 V1 ⟨by decide, by decide⟩ (hall _ ⟨by decide, by decide⟩)) hZ (hw _ (List.mem_of_getElem? (i := 14) rfl)) (hw _ (List.mem_of_getElem? (i := 9) rfl)) (by decide) (by decide)) (g := (mkF m 211 #[.val (.long p0), .second, .val (.int p2), .val (.int p3), .val (.int p4), .val (.long n), .second, .val (.int at_), .val (.int c8), .val (.ref b), .val (.int (own_end at_ r)), .val (.int (Int32.ofNat (r + 1)))] [(.int c8), (.long n), (.int (Int32.ofNat (r + 1))), (.int at_), (.int (3 : Int32)), (.ref b)])) rfl (by rw [hml]; rfl) (argsL := [(.ref b), (.int (3 : Int32)), (.int at_), (.int (Int32.ofNat (r + 1))), (.long n), (.int c8)]) (rest := []) (lenOf pd_2 rfl) rfl (by show 2 * 0 + _ ≤ _; exact Nat.le_of_eq rfl) (hb hby at_211) (fun _ _ => ⟨rfl, e5, (by decide : 1 + 0 ≤ _), (by decide : 16 + 0 ≤ _)⟩)
  dsimp only [Pt.U, Pt.locs, Pt.cells, Pt.slots] at X6 l6 y6 z6 st6 hQ6
  subst l6 y6 z6
  obtain ⟨rfl, N6q, e6⟩ := hQ6
  have N6 := Fr.app N5 N6q
  refine own_step (W' := T6.setTop (mkF m 214 #[.val (.long p0), .second, .val (.int p2), .val (.int p3), .val (.int p4), .val (.long n), .second, .val (.int at_), .val (.int c8), .val (.ref b), .val (.int (own_end at_ r)), .val (.int (Int32.ofNat (r + 1)))] [(.int (1 : Int32))])) (fun _ k => st6 _ k) ?_
  refine own_step (W' := T6.setTop (mkF m 217 #[.val (.long p0), .second, .val (.int p2), .val (.int p3), .val (.int p4), .val (.long n), .second, .val (.int at_), .val (.int c8), .val (.ref b), .val (.int (own_end at_ r)), .val (.int (Int32.ofNat (r + 1)))] [])) (fun _ k => XS.ifNo X6.here hx rfl (hb hby at_214) rfl (by decide) k) ?_
  refine own_step (W' := T6.setTop (mkF m 219 #[.val (.long p0), .second, .val (.int p2), .val (.int p3), .val (.int p4), .val (.long n), .second, .val (.int at_), .val (.int c8), .val (.ref b), .val (.int (own_end at_ r)), .val (.int (Int32.ofNat (r + 1)))] [(.ref b)])) (fun _ k => XS.aload X6.here hx rfl (hb hby at_217) rfl rfl k) ?_
  refine own_step (W' := T6.setTop (mkF m 220 #[.val (.long p0), .second, .val (.int p2), .val (.int p3), .val (.int p4), .val (.long n), .second, .val (.int at_), .val (.int c8), .val (.ref b), .val (.int (own_end at_ r)), .val (.int (Int32.ofNat (r + 1)))] [(.int (4 : Int32)), (.ref b)])) (fun _ k => XS.iconst X6.here hx rfl (hb hby at_219) k) ?_
  refine own_step (W' := T6.setTop (mkF m 222 #[.val (.long p0), .second, .val (.int p2), .val (.int p3), .val (.int p4), .val (.long n), .second, .val (.int at_), .val (.int c8), .val (.ref b), .val (.int (own_end at_ r)), .val (.int (Int32.ofNat (r + 1)))] [(.int at_), (.int (4 : Int32)), (.ref b)])) (fun _ k => XS.iload X6.here hx rfl (hb hby at_220) rfl k) ?_
  refine own_step (W' := T6.setTop (mkF m 224 #[.val (.long p0), .second, .val (.int p2), .val (.int p3), .val (.int p4), .val (.long n), .second, .val (.int at_), .val (.int c8), .val (.ref b), .val (.int (own_end at_ r)), .val (.int (Int32.ofNat (r + 1)))] [(.int (Int32.ofNat (r + 1))), (.int at_), (.int (4 : Int32)), (.ref b)])) (fun _ k => XS.iload X6.here hx rfl (hb hby at_222) rfl k) ?_
  refine own_step (W' := T6.setTop (mkF m 226 #[.val (.long p0), .second, .val (.int p2), .val (.int p3), .val (.int p4), .val (.long n), .second, .val (.int at_), .val (.int c8), .val (.ref b), .val (.int (own_end at_ r)), .val (.int (Int32.ofNat (r + 1)))] [(.long n), (.int (Int32.ofNat (r + 1))), (.int at_), (.int (4 : Int32)), (.ref b)])) (fun _ k => XS.lload X6.here hx rfl (hb hby at_224) rfl k) ?_
  refine own_step (W' := T6.setTop (mkF m 228 #[.val (.long p0), .second, .val (.int p2), .val (.int p3), .val (.int p4), .val (.long n), .second, .val (.int at_), .val (.int c8), .val (.ref b), .val (.int (own_end at_ r)), .val (.int (Int32.ofNat (r + 1)))] [(.int c8), (.long n), (.int (Int32.ofNat (r + 1))), (.int at_), (.int (4 : Int32)), (.ref b)])) (fun _ k => XS.iload X6.here hx rfl (hb hby at_226) rfl k) ?_
  obtain ⟨_, _, ⟨T7, L7, k7, n7⟩, -, X7, ⟨Lc7, hQ7, l7, y7, z7⟩, st7⟩ := Jvm.LawKit.callS X6 hx (y := (⟨"millrace/local/ByteSinkPutUnsignedPinLaw", "at", "([BIIIJB)Z"⟩ : MethodName)) hown (mvT hZ (hw _ (List.mem_of_getElem? (i := 12) rfl))) (mvT hZ (hw _ (List.mem_of_getElem? (i := 13) rfl))) (mvT hZ (hw _ (List.mem_of_getElem? (i := 9) rfl))) (mvT hZ (hw _ (List.mem_of_getElem? (i := 14) rfl))) (by decide) (backOf (W := 0) (rm3 l Z a0 hw [] b k (4 : Int32) at_ (Int32.ofNat (r + 1)) n c8 (own_put (fun _ => c8) at_ n r) h1 n0 Z1 V1 ⟨by decide, by decide⟩ (hall _ ⟨by decide, by decide⟩)) hZ (hw _ (List.mem_of_getElem? (i := 14) rfl)) (hw _ (List.mem_of_getElem? (i := 9) rfl)) (by decide) (by decide)) (g := (mkF m 228 #[.val (.long p0), .second, .val (.int p2), .val (.int p3), .val (.int p4), .val (.long n), .second, .val (.int at_), .val (.int c8), .val (.ref b), .val (.int (own_end at_ r)), .val (.int (Int32.ofNat (r + 1)))] [(.int c8), (.long n), (.int (Int32.ofNat (r + 1))), (.int at_), (.int (4 : Int32)), (.ref b)])) rfl (by rw [hml]; rfl) (argsL := [(.ref b), (.int (4 : Int32)), (.int at_), (.int (Int32.ofNat (r + 1))), (.long n), (.int c8)]) (rest := []) (lenOf pd_2 rfl) rfl (by show 2 * 0 + _ ≤ _; exact Nat.le_of_eq rfl) (hb hby at_228) (fun _ _ => ⟨rfl, e6, (by decide : 1 + 0 ≤ _), (by decide : 16 + 0 ≤ _)⟩)
  dsimp only [Pt.U, Pt.locs, Pt.cells, Pt.slots] at X7 l7 y7 z7 st7 hQ7
  subst l7 y7 z7
  obtain ⟨rfl, N7q, e7⟩ := hQ7
  have N7 := Fr.app N6 N7q
  refine own_step (W' := T7.setTop (mkF m 231 #[.val (.long p0), .second, .val (.int p2), .val (.int p3), .val (.int p4), .val (.long n), .second, .val (.int at_), .val (.int c8), .val (.ref b), .val (.int (own_end at_ r)), .val (.int (Int32.ofNat (r + 1)))] [(.int (1 : Int32))])) (fun _ k => st7 _ k) ?_
  refine own_step (W' := T7.setTop (mkF m 234 #[.val (.long p0), .second, .val (.int p2), .val (.int p3), .val (.int p4), .val (.long n), .second, .val (.int at_), .val (.int c8), .val (.ref b), .val (.int (own_end at_ r)), .val (.int (Int32.ofNat (r + 1)))] [])) (fun _ k => XS.ifNo X7.here hx rfl (hb hby at_231) rfl (by decide) k) ?_
  refine own_step (W' := T7.setTop (mkF m 236 #[.val (.long p0), .second, .val (.int p2), .val (.int p3), .val (.int p4), .val (.long n), .second, .val (.int at_), .val (.int c8), .val (.ref b), .val (.int (own_end at_ r)), .val (.int (Int32.ofNat (r + 1)))] [(.ref b)])) (fun _ k => XS.aload X7.here hx rfl (hb hby at_234) rfl rfl k) ?_
  refine own_step (W' := T7.setTop (mkF m 237 #[.val (.long p0), .second, .val (.int p2), .val (.int p3), .val (.int p4), .val (.long n), .second, .val (.int at_), .val (.int c8), .val (.ref b), .val (.int (own_end at_ r)), .val (.int (Int32.ofNat (r + 1)))] [(.int (5 : Int32)), (.ref b)])) (fun _ k => XS.iconst X7.here hx rfl (hb hby at_236) k) ?_
  refine own_step (W' := T7.setTop (mkF m 239 #[.val (.long p0), .second, .val (.int p2), .val (.int p3), .val (.int p4), .val (.long n), .second, .val (.int at_), .val (.int c8), .val (.ref b), .val (.int (own_end at_ r)), .val (.int (Int32.ofNat (r + 1)))] [(.int at_), (.int (5 : Int32)), (.ref b)])) (fun _ k => XS.iload X7.here hx rfl (hb hby at_237) rfl k) ?_
  refine own_step (W' := T7.setTop (mkF m 241 #[.val (.long p0), .second, .val (.int p2), .val (.int p3), .val (.int p4), .val (.long n), .second, .val (.int at_), .val (.int c8), .val (.ref b), .val (.int (own_end at_ r)), .val (.int (Int32.ofNat (r + 1)))] [(.int (Int32.ofNat (r + 1))), (.int at_), (.int (5 : Int32)), (.ref b)])) (fun _ k => XS.iload X7.here hx rfl (hb hby at_239) rfl k) ?_
  refine own_step (W' := T7.setTop (mkF m 243 #[.val (.long p0), .second, .val (.int p2), .val (.int p3), .val (.int p4), .val (.long n), .second, .val (.int at_), .val (.int c8), .val (.ref b), .val (.int (own_end at_ r)), .val (.int (Int32.ofNat (r + 1)))] [(.long n), (.int (Int32.ofNat (r + 1))), (.int at_), (.int (5 : Int32)), (.ref b)])) (fun _ k => XS.lload X7.here hx rfl (hb hby at_241) rfl k) ?_
  refine own_step (W' := T7.setTop (mkF m 245 #[.val (.long p0), .second, .val (.int p2), .val (.int p3), .val (.int p4), .val (.long n), .second, .val (.int at_), .val (.int c8), .val (.ref b), .val (.int (own_end at_ r)), .val (.int (Int32.ofNat (r + 1)))] [(.int c8), (.long n), (.int (Int32.ofNat (r + 1))), (.int at_), (.int (5 : Int32)), (.ref b)])) (fun _ k => XS.iload X7.here hx rfl (hb hby at_243) rfl k) ?_
  obtain ⟨_, _, ⟨T8, L8, k8, n8⟩, -, X8, ⟨Lc8, hQ8, l8, y8, z8⟩, st8⟩ := Jvm.LawKit.callS X7 hx (y := (⟨"millrace/local/ByteSinkPutUnsignedPinLaw", "at", "([BIIIJB)Z"⟩ : MethodName)) hown (mvT hZ (hw _ (List.mem_of_getElem? (i := 12) rfl))) (mvT hZ (hw _ (List.mem_of_getElem? (i := 13) rfl))) (mvT hZ (hw _ (List.mem_of_getElem? (i := 9) rfl))) (mvT hZ (hw _ (List.mem_of_getElem? (i := 14) rfl))) (by decide) (backOf (W := 0) (rm3 l Z a0 hw [] b k (5 : Int32) at_ (Int32.ofNat (r + 1)) n c8 (own_put (fun _ => c8) at_ n r) h1 n0 Z1 V1 ⟨by decide, by decide⟩ (hall _ ⟨by decide, by decide⟩)) hZ (hw _ (List.mem_of_getElem? (i := 14) rfl)) (hw _ (List.mem_of_getElem? (i := 9) rfl)) (by decide) (by decide)) (g := (mkF m 245 #[.val (.long p0), .second, .val (.int p2), .val (.int p3), .val (.int p4), .val (.long n), .second, .val (.int at_), .val (.int c8), .val (.ref b), .val (.int (own_end at_ r)), .val (.int (Int32.ofNat (r + 1)))] [(.int c8), (.long n), (.int (Int32.ofNat (r + 1))), (.int at_), (.int (5 : Int32)), (.ref b)])) rfl (by rw [hml]; rfl) (argsL := [(.ref b), (.int (5 : Int32)), (.int at_), (.int (Int32.ofNat (r + 1))), (.long n), (.int c8)]) (rest := []) (lenOf pd_2 rfl) rfl (by show 2 * 0 + _ ≤ _; exact Nat.le_of_eq rfl) (hb hby at_245) (fun _ _ => ⟨rfl, e7, (by decide : 1 + 0 ≤ _), (by decide : 16 + 0 ≤ _)⟩)
  dsimp only [Pt.U, Pt.locs, Pt.cells, Pt.slots] at X8 l8 y8 z8 st8 hQ8
  subst l8 y8 z8
  obtain ⟨rfl, N8q, e8⟩ := hQ8
  have N8 := Fr.app N7 N8q
  refine own_step (W' := T8.setTop (mkF m 248 #[.val (.long p0), .second, .val (.int p2), .val (.int p3), .val (.int p4), .val (.long n), .second, .val (.int at_), .val (.int c8), .val (.ref b), .val (.int (own_end at_ r)), .val (.int (Int32.ofNat (r + 1)))] [(.int (1 : Int32))])) (fun _ k => st8 _ k) ?_
  refine own_step (W' := T8.setTop (mkF m 251 #[.val (.long p0), .second, .val (.int p2), .val (.int p3), .val (.int p4), .val (.long n), .second, .val (.int at_), .val (.int c8), .val (.ref b), .val (.int (own_end at_ r)), .val (.int (Int32.ofNat (r + 1)))] [])) (fun _ k => XS.ifNo X8.here hx rfl (hb hby at_248) rfl (by decide) k) ?_
  refine own_step (W' := T8.setTop (mkF m 253 #[.val (.long p0), .second, .val (.int p2), .val (.int p3), .val (.int p4), .val (.long n), .second, .val (.int at_), .val (.int c8), .val (.ref b), .val (.int (own_end at_ r)), .val (.int (Int32.ofNat (r + 1)))] [(.ref b)])) (fun _ k => XS.aload X8.here hx rfl (hb hby at_251) rfl rfl k) ?_
  refine own_step (W' := T8.setTop (mkF m 255 #[.val (.long p0), .second, .val (.int p2), .val (.int p3), .val (.int p4), .val (.long n), .second, .val (.int at_), .val (.int c8), .val (.ref b), .val (.int (own_end at_ r)), .val (.int (Int32.ofNat (r + 1)))] [(.int (6 : Int32)), (.ref b)])) (fun _ k => XS.bipush X8.here hx rfl (hb hby at_253) k) ?_
  refine own_step (W' := T8.setTop (mkF m 257 #[.val (.long p0), .second, .val (.int p2), .val (.int p3), .val (.int p4), .val (.long n), .second, .val (.int at_), .val (.int c8), .val (.ref b), .val (.int (own_end at_ r)), .val (.int (Int32.ofNat (r + 1)))] [(.int at_), (.int (6 : Int32)), (.ref b)])) (fun _ k => XS.iload X8.here hx rfl (hb hby at_255) rfl k) ?_
  refine own_step (W' := T8.setTop (mkF m 259 #[.val (.long p0), .second, .val (.int p2), .val (.int p3), .val (.int p4), .val (.long n), .second, .val (.int at_), .val (.int c8), .val (.ref b), .val (.int (own_end at_ r)), .val (.int (Int32.ofNat (r + 1)))] [(.int (Int32.ofNat (r + 1))), (.int at_), (.int (6 : Int32)), (.ref b)])) (fun _ k => XS.iload X8.here hx rfl (hb hby at_257) rfl k) ?_
  refine own_step (W' := T8.setTop (mkF m 261 #[.val (.long p0), .second, .val (.int p2), .val (.int p3), .val (.int p4), .val (.long n), .second, .val (.int at_), .val (.int c8), .val (.ref b), .val (.int (own_end at_ r)), .val (.int (Int32.ofNat (r + 1)))] [(.long n), (.int (Int32.ofNat (r + 1))), (.int at_), (.int (6 : Int32)), (.ref b)])) (fun _ k => XS.lload X8.here hx rfl (hb hby at_259) rfl k) ?_
  refine own_step (W' := T8.setTop (mkF m 263 #[.val (.long p0), .second, .val (.int p2), .val (.int p3), .val (.int p4), .val (.long n), .second, .val (.int at_), .val (.int c8), .val (.ref b), .val (.int (own_end at_ r)), .val (.int (Int32.ofNat (r + 1)))] [(.int c8), (.long n), (.int (Int32.ofNat (r + 1))), (.int at_), (.int (6 : Int32)), (.ref b)])) (fun _ k => XS.iload X8.here hx rfl (hb hby at_261) rfl k) ?_
  obtain ⟨_, _, ⟨T9, L9, k9, n9⟩, -, X9, ⟨Lc9, hQ9, l9, y9, z9⟩, st9⟩ := Jvm.LawKit.callS X8 hx (y := (⟨"millrace/local/ByteSinkPutUnsignedPinLaw", "at", "([BIIIJB)Z"⟩ : MethodName)) hown (mvT hZ (hw _ (List.mem_of_getElem? (i := 12) rfl))) (mvT hZ (hw _ (List.mem_of_getElem? (i := 13) rfl))) (mvT hZ (hw _ (List.mem_of_getElem? (i := 9) rfl))) (mvT hZ (hw _ (List.mem_of_getElem? (i := 14) rfl))) (by decide) (backOf (W := 0) (rm3 l Z a0 hw [] b k (6 : Int32) at_ (Int32.ofNat (r + 1)) n c8 (own_put (fun _ => c8) at_ n r) h1 n0 Z1 V1 ⟨by decide, by decide⟩ (hall _ ⟨by decide, by decide⟩)) hZ (hw _ (List.mem_of_getElem? (i := 14) rfl)) (hw _ (List.mem_of_getElem? (i := 9) rfl)) (by decide) (by decide)) (g := (mkF m 263 #[.val (.long p0), .second, .val (.int p2), .val (.int p3), .val (.int p4), .val (.long n), .second, .val (.int at_), .val (.int c8), .val (.ref b), .val (.int (own_end at_ r)), .val (.int (Int32.ofNat (r + 1)))] [(.int c8), (.long n), (.int (Int32.ofNat (r + 1))), (.int at_), (.int (6 : Int32)), (.ref b)])) rfl (by rw [hml]; rfl) (argsL := [(.ref b), (.int (6 : Int32)), (.int at_), (.int (Int32.ofNat (r + 1))), (.long n), (.int c8)]) (rest := []) (lenOf pd_2 rfl) rfl (by show 2 * 0 + _ ≤ _; exact Nat.le_of_eq rfl) (hb hby at_263) (fun _ _ => ⟨rfl, e8, (by decide : 1 + 0 ≤ _), (by decide : 16 + 0 ≤ _)⟩)
  dsimp only [Pt.U, Pt.locs, Pt.cells, Pt.slots] at X9 l9 y9 z9 st9 hQ9
  subst l9 y9 z9
  obtain ⟨rfl, N9q, e9⟩ := hQ9
  have N9 := Fr.app N8 N9q
  refine own_step (W' := T9.setTop (mkF m 266 #[.val (.long p0), .second, .val (.int p2), .val (.int p3), .val (.int p4), .val (.long n), .second, .val (.int at_), .val (.int c8), .val (.ref b), .val (.int (own_end at_ r)), .val (.int (Int32.ofNat (r + 1)))] [(.int (1 : Int32))])) (fun _ k => st9 _ k) ?_
  refine own_step (W' := T9.setTop (mkF m 269 #[.val (.long p0), .second, .val (.int p2), .val (.int p3), .val (.int p4), .val (.long n), .second, .val (.int at_), .val (.int c8), .val (.ref b), .val (.int (own_end at_ r)), .val (.int (Int32.ofNat (r + 1)))] [])) (fun _ k => XS.ifNo X9.here hx rfl (hb hby at_266) rfl (by decide) k) ?_
  refine own_step (W' := T9.setTop (mkF m 271 #[.val (.long p0), .second, .val (.int p2), .val (.int p3), .val (.int p4), .val (.long n), .second, .val (.int at_), .val (.int c8), .val (.ref b), .val (.int (own_end at_ r)), .val (.int (Int32.ofNat (r + 1)))] [(.ref b)])) (fun _ k => XS.aload X9.here hx rfl (hb hby at_269) rfl rfl k) ?_
  refine own_step (W' := T9.setTop (mkF m 273 #[.val (.long p0), .second, .val (.int p2), .val (.int p3), .val (.int p4), .val (.long n), .second, .val (.int at_), .val (.int c8), .val (.ref b), .val (.int (own_end at_ r)), .val (.int (Int32.ofNat (r + 1)))] [(.int (7 : Int32)), (.ref b)])) (fun _ k => XS.bipush X9.here hx rfl (hb hby at_271) k) ?_
  refine own_step (W' := T9.setTop (mkF m 275 #[.val (.long p0), .second, .val (.int p2), .val (.int p3), .val (.int p4), .val (.long n), .second, .val (.int at_), .val (.int c8), .val (.ref b), .val (.int (own_end at_ r)), .val (.int (Int32.ofNat (r + 1)))] [(.int at_), (.int (7 : Int32)), (.ref b)])) (fun _ k => XS.iload X9.here hx rfl (hb hby at_273) rfl k) ?_
  refine own_step (W' := T9.setTop (mkF m 277 #[.val (.long p0), .second, .val (.int p2), .val (.int p3), .val (.int p4), .val (.long n), .second, .val (.int at_), .val (.int c8), .val (.ref b), .val (.int (own_end at_ r)), .val (.int (Int32.ofNat (r + 1)))] [(.int (Int32.ofNat (r + 1))), (.int at_), (.int (7 : Int32)), (.ref b)])) (fun _ k => XS.iload X9.here hx rfl (hb hby at_275) rfl k) ?_
  refine own_step (W' := T9.setTop (mkF m 279 #[.val (.long p0), .second, .val (.int p2), .val (.int p3), .val (.int p4), .val (.long n), .second, .val (.int at_), .val (.int c8), .val (.ref b), .val (.int (own_end at_ r)), .val (.int (Int32.ofNat (r + 1)))] [(.long n), (.int (Int32.ofNat (r + 1))), (.int at_), (.int (7 : Int32)), (.ref b)])) (fun _ k => XS.lload X9.here hx rfl (hb hby at_277) rfl k) ?_
  refine own_step (W' := T9.setTop (mkF m 281 #[.val (.long p0), .second, .val (.int p2), .val (.int p3), .val (.int p4), .val (.long n), .second, .val (.int at_), .val (.int c8), .val (.ref b), .val (.int (own_end at_ r)), .val (.int (Int32.ofNat (r + 1)))] [(.int c8), (.long n), (.int (Int32.ofNat (r + 1))), (.int at_), (.int (7 : Int32)), (.ref b)])) (fun _ k => XS.iload X9.here hx rfl (hb hby at_279) rfl k) ?_
  obtain ⟨_, _, ⟨T10, L10, k10, n10⟩, -, X10, ⟨Lc10, hQ10, l10, y10, z10⟩, st10⟩ := Jvm.LawKit.callS X9 hx (y := (⟨"millrace/local/ByteSinkPutUnsignedPinLaw", "at", "([BIIIJB)Z"⟩ : MethodName)) hown (mvT hZ (hw _ (List.mem_of_getElem? (i := 12) rfl))) (mvT hZ (hw _ (List.mem_of_getElem? (i := 13) rfl))) (mvT hZ (hw _ (List.mem_of_getElem? (i := 9) rfl))) (mvT hZ (hw _ (List.mem_of_getElem? (i := 14) rfl))) (by decide) (backOf (W := 0) (rm3 l Z a0 hw [] b k (7 : Int32) at_ (Int32.ofNat (r + 1)) n c8 (own_put (fun _ => c8) at_ n r) h1 n0 Z1 V1 ⟨by decide, by decide⟩ (hall _ ⟨by decide, by decide⟩)) hZ (hw _ (List.mem_of_getElem? (i := 14) rfl)) (hw _ (List.mem_of_getElem? (i := 9) rfl)) (by decide) (by decide)) (g := (mkF m 281 #[.val (.long p0), .second, .val (.int p2), .val (.int p3), .val (.int p4), .val (.long n), .second, .val (.int at_), .val (.int c8), .val (.ref b), .val (.int (own_end at_ r)), .val (.int (Int32.ofNat (r + 1)))] [(.int c8), (.long n), (.int (Int32.ofNat (r + 1))), (.int at_), (.int (7 : Int32)), (.ref b)])) rfl (by rw [hml]; rfl) (argsL := [(.ref b), (.int (7 : Int32)), (.int at_), (.int (Int32.ofNat (r + 1))), (.long n), (.int c8)]) (rest := []) (lenOf pd_2 rfl) rfl (by show 2 * 0 + _ ≤ _; exact Nat.le_of_eq rfl) (hb hby at_281) (fun _ _ => ⟨rfl, e9, (by decide : 1 + 0 ≤ _), (by decide : 16 + 0 ≤ _)⟩)
  dsimp only [Pt.U, Pt.locs, Pt.cells, Pt.slots] at X10 l10 y10 z10 st10 hQ10
  subst l10 y10 z10
  obtain ⟨rfl, N10q, e10⟩ := hQ10
  have N10 := Fr.app N9 N10q
  refine own_step (W' := T10.setTop (mkF m 284 #[.val (.long p0), .second, .val (.int p2), .val (.int p3), .val (.int p4), .val (.long n), .second, .val (.int at_), .val (.int c8), .val (.ref b), .val (.int (own_end at_ r)), .val (.int (Int32.ofNat (r + 1)))] [(.int (1 : Int32))])) (fun _ k => st10 _ k) ?_
  refine own_step (W' := T10.setTop (mkF m 287 #[.val (.long p0), .second, .val (.int p2), .val (.int p3), .val (.int p4), .val (.long n), .second, .val (.int at_), .val (.int c8), .val (.ref b), .val (.int (own_end at_ r)), .val (.int (Int32.ofNat (r + 1)))] [])) (fun _ k => XS.ifNo X10.here hx rfl (hb hby at_284) rfl (by decide) k) ?_
  refine own_step (W' := T10.setTop (mkF m 289 #[.val (.long p0), .second, .val (.int p2), .val (.int p3), .val (.int p4), .val (.long n), .second, .val (.int at_), .val (.int c8), .val (.ref b), .val (.int (own_end at_ r)), .val (.int (Int32.ofNat (r + 1)))] [(.ref b)])) (fun _ k => XS.aload X10.here hx rfl (hb hby at_287) rfl rfl k) ?_
  refine own_step (W' := T10.setTop (mkF m 291 #[.val (.long p0), .second, .val (.int p2), .val (.int p3), .val (.int p4), .val (.long n), .second, .val (.int at_), .val (.int c8), .val (.ref b), .val (.int (own_end at_ r)), .val (.int (Int32.ofNat (r + 1)))] [(.int (8 : Int32)), (.ref b)])) (fun _ k => XS.bipush X10.here hx rfl (hb hby at_289) k) ?_
  refine own_step (W' := T10.setTop (mkF m 293 #[.val (.long p0), .second, .val (.int p2), .val (.int p3), .val (.int p4), .val (.long n), .second, .val (.int at_), .val (.int c8), .val (.ref b), .val (.int (own_end at_ r)), .val (.int (Int32.ofNat (r + 1)))] [(.int at_), (.int (8 : Int32)), (.ref b)])) (fun _ k => XS.iload X10.here hx rfl (hb hby at_291) rfl k) ?_
  refine own_step (W' := T10.setTop (mkF m 295 #[.val (.long p0), .second, .val (.int p2), .val (.int p3), .val (.int p4), .val (.long n), .second, .val (.int at_), .val (.int c8), .val (.ref b), .val (.int (own_end at_ r)), .val (.int (Int32.ofNat (r + 1)))] [(.int (Int32.ofNat (r + 1))), (.int at_), (.int (8 : Int32)), (.ref b)])) (fun _ k => XS.iload X10.here hx rfl (hb hby at_293) rfl k) ?_
  refine own_step (W' := T10.setTop (mkF m 297 #[.val (.long p0), .second, .val (.int p2), .val (.int p3), .val (.int p4), .val (.long n), .second, .val (.int at_), .val (.int c8), .val (.ref b), .val (.int (own_end at_ r)), .val (.int (Int32.ofNat (r + 1)))] [(.long n), (.int (Int32.ofNat (r + 1))), (.int at_), (.int (8 : Int32)), (.ref b)])) (fun _ k => XS.lload X10.here hx rfl (hb hby at_295) rfl k) ?_
  refine own_step (W' := T10.setTop (mkF m 299 #[.val (.long p0), .second, .val (.int p2), .val (.int p3), .val (.int p4), .val (.long n), .second, .val (.int at_), .val (.int c8), .val (.ref b), .val (.int (own_end at_ r)), .val (.int (Int32.ofNat (r + 1)))] [(.int c8), (.long n), (.int (Int32.ofNat (r + 1))), (.int at_), (.int (8 : Int32)), (.ref b)])) (fun _ k => XS.iload X10.here hx rfl (hb hby at_297) rfl k) ?_
  obtain ⟨_, _, ⟨T11, L11, k11, n11⟩, -, X11, ⟨Lc11, hQ11, l11, y11, z11⟩, st11⟩ := Jvm.LawKit.callS X10 hx (y := (⟨"millrace/local/ByteSinkPutUnsignedPinLaw", "at", "([BIIIJB)Z"⟩ : MethodName)) hown (mvT hZ (hw _ (List.mem_of_getElem? (i := 12) rfl))) (mvT hZ (hw _ (List.mem_of_getElem? (i := 13) rfl))) (mvT hZ (hw _ (List.mem_of_getElem? (i := 9) rfl))) (mvT hZ (hw _ (List.mem_of_getElem? (i := 14) rfl))) (by decide) (backOf (W := 0) (rm3 l Z a0 hw [] b k (8 : Int32) at_ (Int32.ofNat (r + 1)) n c8 (own_put (fun _ => c8) at_ n r) h1 n0 Z1 V1 ⟨by decide, by decide⟩ (hall _ ⟨by decide, by decide⟩)) hZ (hw _ (List.mem_of_getElem? (i := 14) rfl)) (hw _ (List.mem_of_getElem? (i := 9) rfl)) (by decide) (by decide)) (g := (mkF m 299 #[.val (.long p0), .second, .val (.int p2), .val (.int p3), .val (.int p4), .val (.long n), .second, .val (.int at_), .val (.int c8), .val (.ref b), .val (.int (own_end at_ r)), .val (.int (Int32.ofNat (r + 1)))] [(.int c8), (.long n), (.int (Int32.ofNat (r + 1))), (.int at_), (.int (8 : Int32)), (.ref b)])) rfl (by rw [hml]; rfl) (argsL := [(.ref b), (.int (8 : Int32)), (.int at_), (.int (Int32.ofNat (r + 1))), (.long n), (.int c8)]) (rest := []) (lenOf pd_2 rfl) rfl (by show 2 * 0 + _ ≤ _; exact Nat.le_of_eq rfl) (hb hby at_299) (fun _ _ => ⟨rfl, e10, (by decide : 1 + 0 ≤ _), (by decide : 16 + 0 ≤ _)⟩)
  dsimp only [Pt.U, Pt.locs, Pt.cells, Pt.slots] at X11 l11 y11 z11 st11 hQ11
  subst l11 y11 z11
  obtain ⟨rfl, N11q, e11⟩ := hQ11
  have N11 := Fr.app N10 N11q
  refine own_step (W' := T11.setTop (mkF m 302 #[.val (.long p0), .second, .val (.int p2), .val (.int p3), .val (.int p4), .val (.long n), .second, .val (.int at_), .val (.int c8), .val (.ref b), .val (.int (own_end at_ r)), .val (.int (Int32.ofNat (r + 1)))] [(.int (1 : Int32))])) (fun _ k => st11 _ k) ?_
  refine own_step (W' := T11.setTop (mkF m 305 #[.val (.long p0), .second, .val (.int p2), .val (.int p3), .val (.int p4), .val (.long n), .second, .val (.int at_), .val (.int c8), .val (.ref b), .val (.int (own_end at_ r)), .val (.int (Int32.ofNat (r + 1)))] [])) (fun _ k => XS.ifNo X11.here hx rfl (hb hby at_302) rfl (by decide) k) ?_
  refine own_step (W' := T11.setTop (mkF m 307 #[.val (.long p0), .second, .val (.int p2), .val (.int p3), .val (.int p4), .val (.long n), .second, .val (.int at_), .val (.int c8), .val (.ref b), .val (.int (own_end at_ r)), .val (.int (Int32.ofNat (r + 1)))] [(.ref b)])) (fun _ k => XS.aload X11.here hx rfl (hb hby at_305) rfl rfl k) ?_
  refine own_step (W' := T11.setTop (mkF m 309 #[.val (.long p0), .second, .val (.int p2), .val (.int p3), .val (.int p4), .val (.long n), .second, .val (.int at_), .val (.int c8), .val (.ref b), .val (.int (own_end at_ r)), .val (.int (Int32.ofNat (r + 1)))] [(.int (9 : Int32)), (.ref b)])) (fun _ k => XS.bipush X11.here hx rfl (hb hby at_307) k) ?_
  refine own_step (W' := T11.setTop (mkF m 311 #[.val (.long p0), .second, .val (.int p2), .val (.int p3), .val (.int p4), .val (.long n), .second, .val (.int at_), .val (.int c8), .val (.ref b), .val (.int (own_end at_ r)), .val (.int (Int32.ofNat (r + 1)))] [(.int at_), (.int (9 : Int32)), (.ref b)])) (fun _ k => XS.iload X11.here hx rfl (hb hby at_309) rfl k) ?_
  refine own_step (W' := T11.setTop (mkF m 313 #[.val (.long p0), .second, .val (.int p2), .val (.int p3), .val (.int p4), .val (.long n), .second, .val (.int at_), .val (.int c8), .val (.ref b), .val (.int (own_end at_ r)), .val (.int (Int32.ofNat (r + 1)))] [(.int (Int32.ofNat (r + 1))), (.int at_), (.int (9 : Int32)), (.ref b)])) (fun _ k => XS.iload X11.here hx rfl (hb hby at_311) rfl k) ?_
  refine own_step (W' := T11.setTop (mkF m 315 #[.val (.long p0), .second, .val (.int p2), .val (.int p3), .val (.int p4), .val (.long n), .second, .val (.int at_), .val (.int c8), .val (.ref b), .val (.int (own_end at_ r)), .val (.int (Int32.ofNat (r + 1)))] [(.long n), (.int (Int32.ofNat (r + 1))), (.int at_), (.int (9 : Int32)), (.ref b)])) (fun _ k => XS.lload X11.here hx rfl (hb hby at_313) rfl k) ?_
  refine own_step (W' := T11.setTop (mkF m 317 #[.val (.long p0), .second, .val (.int p2), .val (.int p3), .val (.int p4), .val (.long n), .second, .val (.int at_), .val (.int c8), .val (.ref b), .val (.int (own_end at_ r)), .val (.int (Int32.ofNat (r + 1)))] [(.int c8), (.long n), (.int (Int32.ofNat (r + 1))), (.int at_), (.int (9 : Int32)), (.ref b)])) (fun _ k => XS.iload X11.here hx rfl (hb hby at_315) rfl k) ?_
  obtain ⟨_, _, ⟨T12, L12, k12, n12⟩, -, X12, ⟨Lc12, hQ12, l12, y12, z12⟩, st12⟩ := Jvm.LawKit.callS X11 hx (y := (⟨"millrace/local/ByteSinkPutUnsignedPinLaw", "at", "([BIIIJB)Z"⟩ : MethodName)) hown (mvT hZ (hw _ (List.mem_of_getElem? (i := 12) rfl))) (mvT hZ (hw _ (List.mem_of_getElem? (i := 13) rfl))) (mvT hZ (hw _ (List.mem_of_getElem? (i := 9) rfl))) (mvT hZ (hw _ (List.mem_of_getElem? (i := 14) rfl))) (by decide) (backOf (W := 0) (rm3 l Z a0 hw [] b k (9 : Int32) at_ (Int32.ofNat (r + 1)) n c8 (own_put (fun _ => c8) at_ n r) h1 n0 Z1 V1 ⟨by decide, by decide⟩ (hall _ ⟨by decide, by decide⟩)) hZ (hw _ (List.mem_of_getElem? (i := 14) rfl)) (hw _ (List.mem_of_getElem? (i := 9) rfl)) (by decide) (by decide)) (g := (mkF m 317 #[.val (.long p0), .second, .val (.int p2), .val (.int p3), .val (.int p4), .val (.long n), .second, .val (.int at_), .val (.int c8), .val (.ref b), .val (.int (own_end at_ r)), .val (.int (Int32.ofNat (r + 1)))] [(.int c8), (.long n), (.int (Int32.ofNat (r + 1))), (.int at_), (.int (9 : Int32)), (.ref b)])) rfl (by rw [hml]; rfl) (argsL := [(.ref b), (.int (9 : Int32)), (.int at_), (.int (Int32.ofNat (r + 1))), (.long n), (.int c8)]) (rest := []) (lenOf pd_2 rfl) rfl (by show 2 * 0 + _ ≤ _; exact Nat.le_of_eq rfl) (hb hby at_317) (fun _ _ => ⟨rfl, e11, (by decide : 1 + 0 ≤ _), (by decide : 16 + 0 ≤ _)⟩)
  dsimp only [Pt.U, Pt.locs, Pt.cells, Pt.slots] at X12 l12 y12 z12 st12 hQ12
  subst l12 y12 z12
  obtain ⟨rfl, N12q, e12⟩ := hQ12
  have N12 := Fr.app N11 N12q
  refine own_step (W' := T12.setTop (mkF m 320 #[.val (.long p0), .second, .val (.int p2), .val (.int p3), .val (.int p4), .val (.long n), .second, .val (.int at_), .val (.int c8), .val (.ref b), .val (.int (own_end at_ r)), .val (.int (Int32.ofNat (r + 1)))] [(.int (1 : Int32))])) (fun _ k => st12 _ k) ?_
  refine own_step (W' := T12.setTop (mkF m 323 #[.val (.long p0), .second, .val (.int p2), .val (.int p3), .val (.int p4), .val (.long n), .second, .val (.int at_), .val (.int c8), .val (.ref b), .val (.int (own_end at_ r)), .val (.int (Int32.ofNat (r + 1)))] [])) (fun _ k => XS.ifNo X12.here hx rfl (hb hby at_320) rfl (by decide) k) ?_
  refine own_step (W' := T12.setTop (mkF m 325 #[.val (.long p0), .second, .val (.int p2), .val (.int p3), .val (.int p4), .val (.long n), .second, .val (.int at_), .val (.int c8), .val (.ref b), .val (.int (own_end at_ r)), .val (.int (Int32.ofNat (r + 1)))] [(.ref b)])) (fun _ k => XS.aload X12.here hx rfl (hb hby at_323) rfl rfl k) ?_
  refine own_step (W' := T12.setTop (mkF m 327 #[.val (.long p0), .second, .val (.int p2), .val (.int p3), .val (.int p4), .val (.long n), .second, .val (.int at_), .val (.int c8), .val (.ref b), .val (.int (own_end at_ r)), .val (.int (Int32.ofNat (r + 1)))] [(.int (10 : Int32)), (.ref b)])) (fun _ k => XS.bipush X12.here hx rfl (hb hby at_325) k) ?_
  refine own_step (W' := T12.setTop (mkF m 329 #[.val (.long p0), .second, .val (.int p2), .val (.int p3), .val (.int p4), .val (.long n), .second, .val (.int at_), .val (.int c8), .val (.ref b), .val (.int (own_end at_ r)), .val (.int (Int32.ofNat (r + 1)))] [(.int at_), (.int (10 : Int32)), (.ref b)])) (fun _ k => XS.iload X12.here hx rfl (hb hby at_327) rfl k) ?_
  refine own_step (W' := T12.setTop (mkF m 331 #[.val (.long p0), .second, .val (.int p2), .val (.int p3), .val (.int p4), .val (.long n), .second, .val (.int at_), .val (.int c8), .val (.ref b), .val (.int (own_end at_ r)), .val (.int (Int32.ofNat (r + 1)))] [(.int (Int32.ofNat (r + 1))), (.int at_), (.int (10 : Int32)), (.ref b)])) (fun _ k => XS.iload X12.here hx rfl (hb hby at_329) rfl k) ?_
  refine own_step (W' := T12.setTop (mkF m 333 #[.val (.long p0), .second, .val (.int p2), .val (.int p3), .val (.int p4), .val (.long n), .second, .val (.int at_), .val (.int c8), .val (.ref b), .val (.int (own_end at_ r)), .val (.int (Int32.ofNat (r + 1)))] [(.long n), (.int (Int32.ofNat (r + 1))), (.int at_), (.int (10 : Int32)), (.ref b)])) (fun _ k => XS.lload X12.here hx rfl (hb hby at_331) rfl k) ?_
  refine own_step (W' := T12.setTop (mkF m 335 #[.val (.long p0), .second, .val (.int p2), .val (.int p3), .val (.int p4), .val (.long n), .second, .val (.int at_), .val (.int c8), .val (.ref b), .val (.int (own_end at_ r)), .val (.int (Int32.ofNat (r + 1)))] [(.int c8), (.long n), (.int (Int32.ofNat (r + 1))), (.int at_), (.int (10 : Int32)), (.ref b)])) (fun _ k => XS.iload X12.here hx rfl (hb hby at_333) rfl k) ?_
  obtain ⟨_, _, ⟨T13, L13, k13, n13⟩, -, X13, ⟨Lc13, hQ13, l13, y13, z13⟩, st13⟩ := Jvm.LawKit.callS X12 hx (y := (⟨"millrace/local/ByteSinkPutUnsignedPinLaw", "at", "([BIIIJB)Z"⟩ : MethodName)) hown (mvT hZ (hw _ (List.mem_of_getElem? (i := 12) rfl))) (mvT hZ (hw _ (List.mem_of_getElem? (i := 13) rfl))) (mvT hZ (hw _ (List.mem_of_getElem? (i := 9) rfl))) (mvT hZ (hw _ (List.mem_of_getElem? (i := 14) rfl))) (by decide) (backOf (W := 0) (rm3 l Z a0 hw [] b k (10 : Int32) at_ (Int32.ofNat (r + 1)) n c8 (own_put (fun _ => c8) at_ n r) h1 n0 Z1 V1 ⟨by decide, by decide⟩ (hall _ ⟨by decide, by decide⟩)) hZ (hw _ (List.mem_of_getElem? (i := 14) rfl)) (hw _ (List.mem_of_getElem? (i := 9) rfl)) (by decide) (by decide)) (g := (mkF m 335 #[.val (.long p0), .second, .val (.int p2), .val (.int p3), .val (.int p4), .val (.long n), .second, .val (.int at_), .val (.int c8), .val (.ref b), .val (.int (own_end at_ r)), .val (.int (Int32.ofNat (r + 1)))] [(.int c8), (.long n), (.int (Int32.ofNat (r + 1))), (.int at_), (.int (10 : Int32)), (.ref b)])) rfl (by rw [hml]; rfl) (argsL := [(.ref b), (.int (10 : Int32)), (.int at_), (.int (Int32.ofNat (r + 1))), (.long n), (.int c8)]) (rest := []) (lenOf pd_2 rfl) rfl (by show 2 * 0 + _ ≤ _; exact Nat.le_of_eq rfl) (hb hby at_335) (fun _ _ => ⟨rfl, e12, (by decide : 1 + 0 ≤ _), (by decide : 16 + 0 ≤ _)⟩)
  dsimp only [Pt.U, Pt.locs, Pt.cells, Pt.slots] at X13 l13 y13 z13 st13 hQ13
  subst l13 y13 z13
  obtain ⟨rfl, N13q, e13⟩ := hQ13
  have N13 := Fr.app N12 N13q
  refine own_step (W' := T13.setTop (mkF m 338 #[.val (.long p0), .second, .val (.int p2), .val (.int p3), .val (.int p4), .val (.long n), .second, .val (.int at_), .val (.int c8), .val (.ref b), .val (.int (own_end at_ r)), .val (.int (Int32.ofNat (r + 1)))] [(.int (1 : Int32))])) (fun _ k => st13 _ k) ?_
  refine own_step (W' := T13.setTop (mkF m 341 #[.val (.long p0), .second, .val (.int p2), .val (.int p3), .val (.int p4), .val (.long n), .second, .val (.int at_), .val (.int c8), .val (.ref b), .val (.int (own_end at_ r)), .val (.int (Int32.ofNat (r + 1)))] [])) (fun _ k => XS.ifNo X13.here hx rfl (hb hby at_338) rfl (by decide) k) ?_
  refine own_step (W' := T13.setTop (mkF m 343 #[.val (.long p0), .second, .val (.int p2), .val (.int p3), .val (.int p4), .val (.long n), .second, .val (.int at_), .val (.int c8), .val (.ref b), .val (.int (own_end at_ r)), .val (.int (Int32.ofNat (r + 1)))] [(.ref b)])) (fun _ k => XS.aload X13.here hx rfl (hb hby at_341) rfl rfl k) ?_
  refine own_step (W' := T13.setTop (mkF m 345 #[.val (.long p0), .second, .val (.int p2), .val (.int p3), .val (.int p4), .val (.long n), .second, .val (.int at_), .val (.int c8), .val (.ref b), .val (.int (own_end at_ r)), .val (.int (Int32.ofNat (r + 1)))] [(.int (11 : Int32)), (.ref b)])) (fun _ k => XS.bipush X13.here hx rfl (hb hby at_343) k) ?_
  refine own_step (W' := T13.setTop (mkF m 347 #[.val (.long p0), .second, .val (.int p2), .val (.int p3), .val (.int p4), .val (.long n), .second, .val (.int at_), .val (.int c8), .val (.ref b), .val (.int (own_end at_ r)), .val (.int (Int32.ofNat (r + 1)))] [(.int at_), (.int (11 : Int32)), (.ref b)])) (fun _ k => XS.iload X13.here hx rfl (hb hby at_345) rfl k) ?_
  refine own_step (W' := T13.setTop (mkF m 349 #[.val (.long p0), .second, .val (.int p2), .val (.int p3), .val (.int p4), .val (.long n), .second, .val (.int at_), .val (.int c8), .val (.ref b), .val (.int (own_end at_ r)), .val (.int (Int32.ofNat (r + 1)))] [(.int (Int32.ofNat (r + 1))), (.int at_), (.int (11 : Int32)), (.ref b)])) (fun _ k => XS.iload X13.here hx rfl (hb hby at_347) rfl k) ?_
  refine own_step (W' := T13.setTop (mkF m 351 #[.val (.long p0), .second, .val (.int p2), .val (.int p3), .val (.int p4), .val (.long n), .second, .val (.int at_), .val (.int c8), .val (.ref b), .val (.int (own_end at_ r)), .val (.int (Int32.ofNat (r + 1)))] [(.long n), (.int (Int32.ofNat (r + 1))), (.int at_), (.int (11 : Int32)), (.ref b)])) (fun _ k => XS.lload X13.here hx rfl (hb hby at_349) rfl k) ?_
  refine own_step (W' := T13.setTop (mkF m 353 #[.val (.long p0), .second, .val (.int p2), .val (.int p3), .val (.int p4), .val (.long n), .second, .val (.int at_), .val (.int c8), .val (.ref b), .val (.int (own_end at_ r)), .val (.int (Int32.ofNat (r + 1)))] [(.int c8), (.long n), (.int (Int32.ofNat (r + 1))), (.int at_), (.int (11 : Int32)), (.ref b)])) (fun _ k => XS.iload X13.here hx rfl (hb hby at_351) rfl k) ?_
  obtain ⟨_, _, ⟨T14, L14, k14, n14⟩, -, X14, ⟨Lc14, hQ14, l14, y14, z14⟩, st14⟩ := Jvm.LawKit.callS X13 hx (y := (⟨"millrace/local/ByteSinkPutUnsignedPinLaw", "at", "([BIIIJB)Z"⟩ : MethodName)) hown (mvT hZ (hw _ (List.mem_of_getElem? (i := 12) rfl))) (mvT hZ (hw _ (List.mem_of_getElem? (i := 13) rfl))) (mvT hZ (hw _ (List.mem_of_getElem? (i := 9) rfl))) (mvT hZ (hw _ (List.mem_of_getElem? (i := 14) rfl))) (by decide) (backOf (W := 0) (rm3 l Z a0 hw [] b k (11 : Int32) at_ (Int32.ofNat (r + 1)) n c8 (own_put (fun _ => c8) at_ n r) h1 n0 Z1 V1 ⟨by decide, by decide⟩ (hall _ ⟨by decide, by decide⟩)) hZ (hw _ (List.mem_of_getElem? (i := 14) rfl)) (hw _ (List.mem_of_getElem? (i := 9) rfl)) (by decide) (by decide)) (g := (mkF m 353 #[.val (.long p0), .second, .val (.int p2), .val (.int p3), .val (.int p4), .val (.long n), .second, .val (.int at_), .val (.int c8), .val (.ref b), .val (.int (own_end at_ r)), .val (.int (Int32.ofNat (r + 1)))] [(.int c8), (.long n), (.int (Int32.ofNat (r + 1))), (.int at_), (.int (11 : Int32)), (.ref b)])) rfl (by rw [hml]; rfl) (argsL := [(.ref b), (.int (11 : Int32)), (.int at_), (.int (Int32.ofNat (r + 1))), (.long n), (.int c8)]) (rest := []) (lenOf pd_2 rfl) rfl (by show 2 * 0 + _ ≤ _; exact Nat.le_of_eq rfl) (hb hby at_353) (fun _ _ => ⟨rfl, e13, (by decide : 1 + 0 ≤ _), (by decide : 16 + 0 ≤ _)⟩)
  dsimp only [Pt.U, Pt.locs, Pt.cells, Pt.slots] at X14 l14 y14 z14 st14 hQ14
  subst l14 y14 z14
  obtain ⟨rfl, N14q, e14⟩ := hQ14
  have N14 := Fr.app N13 N14q
  refine own_step (W' := T14.setTop (mkF m 356 #[.val (.long p0), .second, .val (.int p2), .val (.int p3), .val (.int p4), .val (.long n), .second, .val (.int at_), .val (.int c8), .val (.ref b), .val (.int (own_end at_ r)), .val (.int (Int32.ofNat (r + 1)))] [(.int (1 : Int32))])) (fun _ k => st14 _ k) ?_
  refine own_step (W' := T14.setTop (mkF m 359 #[.val (.long p0), .second, .val (.int p2), .val (.int p3), .val (.int p4), .val (.long n), .second, .val (.int at_), .val (.int c8), .val (.ref b), .val (.int (own_end at_ r)), .val (.int (Int32.ofNat (r + 1)))] [])) (fun _ k => XS.ifNo X14.here hx rfl (hb hby at_356) rfl (by decide) k) ?_
  refine own_step (W' := T14.setTop (mkF m 361 #[.val (.long p0), .second, .val (.int p2), .val (.int p3), .val (.int p4), .val (.long n), .second, .val (.int at_), .val (.int c8), .val (.ref b), .val (.int (own_end at_ r)), .val (.int (Int32.ofNat (r + 1)))] [(.ref b)])) (fun _ k => XS.aload X14.here hx rfl (hb hby at_359) rfl rfl k) ?_
  refine own_step (W' := T14.setTop (mkF m 363 #[.val (.long p0), .second, .val (.int p2), .val (.int p3), .val (.int p4), .val (.long n), .second, .val (.int at_), .val (.int c8), .val (.ref b), .val (.int (own_end at_ r)), .val (.int (Int32.ofNat (r + 1)))] [(.int (12 : Int32)), (.ref b)])) (fun _ k => XS.bipush X14.here hx rfl (hb hby at_361) k) ?_
  refine own_step (W' := T14.setTop (mkF m 365 #[.val (.long p0), .second, .val (.int p2), .val (.int p3), .val (.int p4), .val (.long n), .second, .val (.int at_), .val (.int c8), .val (.ref b), .val (.int (own_end at_ r)), .val (.int (Int32.ofNat (r + 1)))] [(.int at_), (.int (12 : Int32)), (.ref b)])) (fun _ k => XS.iload X14.here hx rfl (hb hby at_363) rfl k) ?_
  refine own_step (W' := T14.setTop (mkF m 367 #[.val (.long p0), .second, .val (.int p2), .val (.int p3), .val (.int p4), .val (.long n), .second, .val (.int at_), .val (.int c8), .val (.ref b), .val (.int (own_end at_ r)), .val (.int (Int32.ofNat (r + 1)))] [(.int (Int32.ofNat (r + 1))), (.int at_), (.int (12 : Int32)), (.ref b)])) (fun _ k => XS.iload X14.here hx rfl (hb hby at_365) rfl k) ?_
  refine own_step (W' := T14.setTop (mkF m 369 #[.val (.long p0), .second, .val (.int p2), .val (.int p3), .val (.int p4), .val (.long n), .second, .val (.int at_), .val (.int c8), .val (.ref b), .val (.int (own_end at_ r)), .val (.int (Int32.ofNat (r + 1)))] [(.long n), (.int (Int32.ofNat (r + 1))), (.int at_), (.int (12 : Int32)), (.ref b)])) (fun _ k => XS.lload X14.here hx rfl (hb hby at_367) rfl k) ?_
  refine own_step (W' := T14.setTop (mkF m 371 #[.val (.long p0), .second, .val (.int p2), .val (.int p3), .val (.int p4), .val (.long n), .second, .val (.int at_), .val (.int c8), .val (.ref b), .val (.int (own_end at_ r)), .val (.int (Int32.ofNat (r + 1)))] [(.int c8), (.long n), (.int (Int32.ofNat (r + 1))), (.int at_), (.int (12 : Int32)), (.ref b)])) (fun _ k => XS.iload X14.here hx rfl (hb hby at_369) rfl k) ?_
  obtain ⟨_, _, ⟨T15, L15, k15, n15⟩, -, X15, ⟨Lc15, hQ15, l15, y15, z15⟩, st15⟩ := Jvm.LawKit.callS X14 hx (y := (⟨"millrace/local/ByteSinkPutUnsignedPinLaw", "at", "([BIIIJB)Z"⟩ : MethodName)) hown (mvT hZ (hw _ (List.mem_of_getElem? (i := 12) rfl))) (mvT hZ (hw _ (List.mem_of_getElem? (i := 13) rfl))) (mvT hZ (hw _ (List.mem_of_getElem? (i := 9) rfl))) (mvT hZ (hw _ (List.mem_of_getElem? (i := 14) rfl))) (by decide) (backOf (W := 0) (rm3 l Z a0 hw [] b k (12 : Int32) at_ (Int32.ofNat (r + 1)) n c8 (own_put (fun _ => c8) at_ n r) h1 n0 Z1 V1 ⟨by decide, by decide⟩ (hall _ ⟨by decide, by decide⟩)) hZ (hw _ (List.mem_of_getElem? (i := 14) rfl)) (hw _ (List.mem_of_getElem? (i := 9) rfl)) (by decide) (by decide)) (g := (mkF m 371 #[.val (.long p0), .second, .val (.int p2), .val (.int p3), .val (.int p4), .val (.long n), .second, .val (.int at_), .val (.int c8), .val (.ref b), .val (.int (own_end at_ r)), .val (.int (Int32.ofNat (r + 1)))] [(.int c8), (.long n), (.int (Int32.ofNat (r + 1))), (.int at_), (.int (12 : Int32)), (.ref b)])) rfl (by rw [hml]; rfl) (argsL := [(.ref b), (.int (12 : Int32)), (.int at_), (.int (Int32.ofNat (r + 1))), (.long n), (.int c8)]) (rest := []) (lenOf pd_2 rfl) rfl (by show 2 * 0 + _ ≤ _; exact Nat.le_of_eq rfl) (hb hby at_371) (fun _ _ => ⟨rfl, e14, (by decide : 1 + 0 ≤ _), (by decide : 16 + 0 ≤ _)⟩)
  dsimp only [Pt.U, Pt.locs, Pt.cells, Pt.slots] at X15 l15 y15 z15 st15 hQ15
  subst l15 y15 z15
  obtain ⟨rfl, N15q, e15⟩ := hQ15
  have N15 := Fr.app N14 N15q
  refine own_step (W' := T15.setTop (mkF m 374 #[.val (.long p0), .second, .val (.int p2), .val (.int p3), .val (.int p4), .val (.long n), .second, .val (.int at_), .val (.int c8), .val (.ref b), .val (.int (own_end at_ r)), .val (.int (Int32.ofNat (r + 1)))] [(.int (1 : Int32))])) (fun _ k => st15 _ k) ?_
  refine own_step (W' := T15.setTop (mkF m 377 #[.val (.long p0), .second, .val (.int p2), .val (.int p3), .val (.int p4), .val (.long n), .second, .val (.int at_), .val (.int c8), .val (.ref b), .val (.int (own_end at_ r)), .val (.int (Int32.ofNat (r + 1)))] [])) (fun _ k => XS.ifNo X15.here hx rfl (hb hby at_374) rfl (by decide) k) ?_
  refine own_step (W' := T15.setTop (mkF m 379 #[.val (.long p0), .second, .val (.int p2), .val (.int p3), .val (.int p4), .val (.long n), .second, .val (.int at_), .val (.int c8), .val (.ref b), .val (.int (own_end at_ r)), .val (.int (Int32.ofNat (r + 1)))] [(.ref b)])) (fun _ k => XS.aload X15.here hx rfl (hb hby at_377) rfl rfl k) ?_
  refine own_step (W' := T15.setTop (mkF m 381 #[.val (.long p0), .second, .val (.int p2), .val (.int p3), .val (.int p4), .val (.long n), .second, .val (.int at_), .val (.int c8), .val (.ref b), .val (.int (own_end at_ r)), .val (.int (Int32.ofNat (r + 1)))] [(.int (13 : Int32)), (.ref b)])) (fun _ k => XS.bipush X15.here hx rfl (hb hby at_379) k) ?_
  refine own_step (W' := T15.setTop (mkF m 383 #[.val (.long p0), .second, .val (.int p2), .val (.int p3), .val (.int p4), .val (.long n), .second, .val (.int at_), .val (.int c8), .val (.ref b), .val (.int (own_end at_ r)), .val (.int (Int32.ofNat (r + 1)))] [(.int at_), (.int (13 : Int32)), (.ref b)])) (fun _ k => XS.iload X15.here hx rfl (hb hby at_381) rfl k) ?_
  refine own_step (W' := T15.setTop (mkF m 385 #[.val (.long p0), .second, .val (.int p2), .val (.int p3), .val (.int p4), .val (.long n), .second, .val (.int at_), .val (.int c8), .val (.ref b), .val (.int (own_end at_ r)), .val (.int (Int32.ofNat (r + 1)))] [(.int (Int32.ofNat (r + 1))), (.int at_), (.int (13 : Int32)), (.ref b)])) (fun _ k => XS.iload X15.here hx rfl (hb hby at_383) rfl k) ?_
  refine own_step (W' := T15.setTop (mkF m 387 #[.val (.long p0), .second, .val (.int p2), .val (.int p3), .val (.int p4), .val (.long n), .second, .val (.int at_), .val (.int c8), .val (.ref b), .val (.int (own_end at_ r)), .val (.int (Int32.ofNat (r + 1)))] [(.long n), (.int (Int32.ofNat (r + 1))), (.int at_), (.int (13 : Int32)), (.ref b)])) (fun _ k => XS.lload X15.here hx rfl (hb hby at_385) rfl k) ?_
  refine own_step (W' := T15.setTop (mkF m 389 #[.val (.long p0), .second, .val (.int p2), .val (.int p3), .val (.int p4), .val (.long n), .second, .val (.int at_), .val (.int c8), .val (.ref b), .val (.int (own_end at_ r)), .val (.int (Int32.ofNat (r + 1)))] [(.int c8), (.long n), (.int (Int32.ofNat (r + 1))), (.int at_), (.int (13 : Int32)), (.ref b)])) (fun _ k => XS.iload X15.here hx rfl (hb hby at_387) rfl k) ?_
  obtain ⟨_, _, ⟨T16, L16, k16, n16⟩, -, X16, ⟨Lc16, hQ16, l16, y16, z16⟩, st16⟩ := Jvm.LawKit.callS X15 hx (y := (⟨"millrace/local/ByteSinkPutUnsignedPinLaw", "at", "([BIIIJB)Z"⟩ : MethodName)) hown (mvT hZ (hw _ (List.mem_of_getElem? (i := 12) rfl))) (mvT hZ (hw _ (List.mem_of_getElem? (i := 13) rfl))) (mvT hZ (hw _ (List.mem_of_getElem? (i := 9) rfl))) (mvT hZ (hw _ (List.mem_of_getElem? (i := 14) rfl))) (by decide) (backOf (W := 0) (rm3 l Z a0 hw [] b k (13 : Int32) at_ (Int32.ofNat (r + 1)) n c8 (own_put (fun _ => c8) at_ n r) h1 n0 Z1 V1 ⟨by decide, by decide⟩ (hall _ ⟨by decide, by decide⟩)) hZ (hw _ (List.mem_of_getElem? (i := 14) rfl)) (hw _ (List.mem_of_getElem? (i := 9) rfl)) (by decide) (by decide)) (g := (mkF m 389 #[.val (.long p0), .second, .val (.int p2), .val (.int p3), .val (.int p4), .val (.long n), .second, .val (.int at_), .val (.int c8), .val (.ref b), .val (.int (own_end at_ r)), .val (.int (Int32.ofNat (r + 1)))] [(.int c8), (.long n), (.int (Int32.ofNat (r + 1))), (.int at_), (.int (13 : Int32)), (.ref b)])) rfl (by rw [hml]; rfl) (argsL := [(.ref b), (.int (13 : Int32)), (.int at_), (.int (Int32.ofNat (r + 1))), (.long n), (.int c8)]) (rest := []) (lenOf pd_2 rfl) rfl (by show 2 * 0 + _ ≤ _; exact Nat.le_of_eq rfl) (hb hby at_389) (fun _ _ => ⟨rfl, e15, (by decide : 1 + 0 ≤ _), (by decide : 16 + 0 ≤ _)⟩)
  dsimp only [Pt.U, Pt.locs, Pt.cells, Pt.slots] at X16 l16 y16 z16 st16 hQ16
  subst l16 y16 z16
  obtain ⟨rfl, N16q, e16⟩ := hQ16
  have N16 := Fr.app N15 N16q
  refine own_step (W' := T16.setTop (mkF m 392 #[.val (.long p0), .second, .val (.int p2), .val (.int p3), .val (.int p4), .val (.long n), .second, .val (.int at_), .val (.int c8), .val (.ref b), .val (.int (own_end at_ r)), .val (.int (Int32.ofNat (r + 1)))] [(.int (1 : Int32))])) (fun _ k => st16 _ k) ?_
  refine own_step (W' := T16.setTop (mkF m 395 #[.val (.long p0), .second, .val (.int p2), .val (.int p3), .val (.int p4), .val (.long n), .second, .val (.int at_), .val (.int c8), .val (.ref b), .val (.int (own_end at_ r)), .val (.int (Int32.ofNat (r + 1)))] [])) (fun _ k => XS.ifNo X16.here hx rfl (hb hby at_392) rfl (by decide) k) ?_
  refine own_step (W' := T16.setTop (mkF m 397 #[.val (.long p0), .second, .val (.int p2), .val (.int p3), .val (.int p4), .val (.long n), .second, .val (.int at_), .val (.int c8), .val (.ref b), .val (.int (own_end at_ r)), .val (.int (Int32.ofNat (r + 1)))] [(.ref b)])) (fun _ k => XS.aload X16.here hx rfl (hb hby at_395) rfl rfl k) ?_
  refine own_step (W' := T16.setTop (mkF m 399 #[.val (.long p0), .second, .val (.int p2), .val (.int p3), .val (.int p4), .val (.long n), .second, .val (.int at_), .val (.int c8), .val (.ref b), .val (.int (own_end at_ r)), .val (.int (Int32.ofNat (r + 1)))] [(.int (14 : Int32)), (.ref b)])) (fun _ k => XS.bipush X16.here hx rfl (hb hby at_397) k) ?_
  refine own_step (W' := T16.setTop (mkF m 401 #[.val (.long p0), .second, .val (.int p2), .val (.int p3), .val (.int p4), .val (.long n), .second, .val (.int at_), .val (.int c8), .val (.ref b), .val (.int (own_end at_ r)), .val (.int (Int32.ofNat (r + 1)))] [(.int at_), (.int (14 : Int32)), (.ref b)])) (fun _ k => XS.iload X16.here hx rfl (hb hby at_399) rfl k) ?_
  refine own_step (W' := T16.setTop (mkF m 403 #[.val (.long p0), .second, .val (.int p2), .val (.int p3), .val (.int p4), .val (.long n), .second, .val (.int at_), .val (.int c8), .val (.ref b), .val (.int (own_end at_ r)), .val (.int (Int32.ofNat (r + 1)))] [(.int (Int32.ofNat (r + 1))), (.int at_), (.int (14 : Int32)), (.ref b)])) (fun _ k => XS.iload X16.here hx rfl (hb hby at_401) rfl k) ?_
  refine own_step (W' := T16.setTop (mkF m 405 #[.val (.long p0), .second, .val (.int p2), .val (.int p3), .val (.int p4), .val (.long n), .second, .val (.int at_), .val (.int c8), .val (.ref b), .val (.int (own_end at_ r)), .val (.int (Int32.ofNat (r + 1)))] [(.long n), (.int (Int32.ofNat (r + 1))), (.int at_), (.int (14 : Int32)), (.ref b)])) (fun _ k => XS.lload X16.here hx rfl (hb hby at_403) rfl k) ?_
  refine own_step (W' := T16.setTop (mkF m 407 #[.val (.long p0), .second, .val (.int p2), .val (.int p3), .val (.int p4), .val (.long n), .second, .val (.int at_), .val (.int c8), .val (.ref b), .val (.int (own_end at_ r)), .val (.int (Int32.ofNat (r + 1)))] [(.int c8), (.long n), (.int (Int32.ofNat (r + 1))), (.int at_), (.int (14 : Int32)), (.ref b)])) (fun _ k => XS.iload X16.here hx rfl (hb hby at_405) rfl k) ?_
  obtain ⟨_, _, ⟨T17, L17, k17, n17⟩, -, X17, ⟨Lc17, hQ17, l17, y17, z17⟩, st17⟩ := Jvm.LawKit.callS X16 hx (y := (⟨"millrace/local/ByteSinkPutUnsignedPinLaw", "at", "([BIIIJB)Z"⟩ : MethodName)) hown (mvT hZ (hw _ (List.mem_of_getElem? (i := 12) rfl))) (mvT hZ (hw _ (List.mem_of_getElem? (i := 13) rfl))) (mvT hZ (hw _ (List.mem_of_getElem? (i := 9) rfl))) (mvT hZ (hw _ (List.mem_of_getElem? (i := 14) rfl))) (by decide) (backOf (W := 0) (rm3 l Z a0 hw [] b k (14 : Int32) at_ (Int32.ofNat (r + 1)) n c8 (own_put (fun _ => c8) at_ n r) h1 n0 Z1 V1 ⟨by decide, by decide⟩ (hall _ ⟨by decide, by decide⟩)) hZ (hw _ (List.mem_of_getElem? (i := 14) rfl)) (hw _ (List.mem_of_getElem? (i := 9) rfl)) (by decide) (by decide)) (g := (mkF m 407 #[.val (.long p0), .second, .val (.int p2), .val (.int p3), .val (.int p4), .val (.long n), .second, .val (.int at_), .val (.int c8), .val (.ref b), .val (.int (own_end at_ r)), .val (.int (Int32.ofNat (r + 1)))] [(.int c8), (.long n), (.int (Int32.ofNat (r + 1))), (.int at_), (.int (14 : Int32)), (.ref b)])) rfl (by rw [hml]; rfl) (argsL := [(.ref b), (.int (14 : Int32)), (.int at_), (.int (Int32.ofNat (r + 1))), (.long n), (.int c8)]) (rest := []) (lenOf pd_2 rfl) rfl (by show 2 * 0 + _ ≤ _; exact Nat.le_of_eq rfl) (hb hby at_407) (fun _ _ => ⟨rfl, e16, (by decide : 1 + 0 ≤ _), (by decide : 16 + 0 ≤ _)⟩)
  dsimp only [Pt.U, Pt.locs, Pt.cells, Pt.slots] at X17 l17 y17 z17 st17 hQ17
  subst l17 y17 z17
  obtain ⟨rfl, N17q, e17⟩ := hQ17
  have N17 := Fr.app N16 N17q
  refine own_step (W' := T17.setTop (mkF m 410 #[.val (.long p0), .second, .val (.int p2), .val (.int p3), .val (.int p4), .val (.long n), .second, .val (.int at_), .val (.int c8), .val (.ref b), .val (.int (own_end at_ r)), .val (.int (Int32.ofNat (r + 1)))] [(.int (1 : Int32))])) (fun _ k => st17 _ k) ?_
  refine own_step (W' := T17.setTop (mkF m 413 #[.val (.long p0), .second, .val (.int p2), .val (.int p3), .val (.int p4), .val (.long n), .second, .val (.int at_), .val (.int c8), .val (.ref b), .val (.int (own_end at_ r)), .val (.int (Int32.ofNat (r + 1)))] [])) (fun _ k => XS.ifNo X17.here hx rfl (hb hby at_410) rfl (by decide) k) ?_
  refine own_step (W' := T17.setTop (mkF m 415 #[.val (.long p0), .second, .val (.int p2), .val (.int p3), .val (.int p4), .val (.long n), .second, .val (.int at_), .val (.int c8), .val (.ref b), .val (.int (own_end at_ r)), .val (.int (Int32.ofNat (r + 1)))] [(.ref b)])) (fun _ k => XS.aload X17.here hx rfl (hb hby at_413) rfl rfl k) ?_
  refine own_step (W' := T17.setTop (mkF m 417 #[.val (.long p0), .second, .val (.int p2), .val (.int p3), .val (.int p4), .val (.long n), .second, .val (.int at_), .val (.int c8), .val (.ref b), .val (.int (own_end at_ r)), .val (.int (Int32.ofNat (r + 1)))] [(.int (15 : Int32)), (.ref b)])) (fun _ k => XS.bipush X17.here hx rfl (hb hby at_415) k) ?_
  refine own_step (W' := T17.setTop (mkF m 419 #[.val (.long p0), .second, .val (.int p2), .val (.int p3), .val (.int p4), .val (.long n), .second, .val (.int at_), .val (.int c8), .val (.ref b), .val (.int (own_end at_ r)), .val (.int (Int32.ofNat (r + 1)))] [(.int at_), (.int (15 : Int32)), (.ref b)])) (fun _ k => XS.iload X17.here hx rfl (hb hby at_417) rfl k) ?_
  refine own_step (W' := T17.setTop (mkF m 421 #[.val (.long p0), .second, .val (.int p2), .val (.int p3), .val (.int p4), .val (.long n), .second, .val (.int at_), .val (.int c8), .val (.ref b), .val (.int (own_end at_ r)), .val (.int (Int32.ofNat (r + 1)))] [(.int (Int32.ofNat (r + 1))), (.int at_), (.int (15 : Int32)), (.ref b)])) (fun _ k => XS.iload X17.here hx rfl (hb hby at_419) rfl k) ?_
  refine own_step (W' := T17.setTop (mkF m 423 #[.val (.long p0), .second, .val (.int p2), .val (.int p3), .val (.int p4), .val (.long n), .second, .val (.int at_), .val (.int c8), .val (.ref b), .val (.int (own_end at_ r)), .val (.int (Int32.ofNat (r + 1)))] [(.long n), (.int (Int32.ofNat (r + 1))), (.int at_), (.int (15 : Int32)), (.ref b)])) (fun _ k => XS.lload X17.here hx rfl (hb hby at_421) rfl k) ?_
  refine own_step (W' := T17.setTop (mkF m 425 #[.val (.long p0), .second, .val (.int p2), .val (.int p3), .val (.int p4), .val (.long n), .second, .val (.int at_), .val (.int c8), .val (.ref b), .val (.int (own_end at_ r)), .val (.int (Int32.ofNat (r + 1)))] [(.int c8), (.long n), (.int (Int32.ofNat (r + 1))), (.int at_), (.int (15 : Int32)), (.ref b)])) (fun _ k => XS.iload X17.here hx rfl (hb hby at_423) rfl k) ?_
  obtain ⟨_, _, ⟨T18, L18, k18, n18⟩, -, X18, ⟨Lc18, hQ18, l18, y18, z18⟩, st18⟩ := Jvm.LawKit.callS X17 hx (y := (⟨"millrace/local/ByteSinkPutUnsignedPinLaw", "at", "([BIIIJB)Z"⟩ : MethodName)) hown (mvT hZ (hw _ (List.mem_of_getElem? (i := 12) rfl))) (mvT hZ (hw _ (List.mem_of_getElem? (i := 13) rfl))) (mvT hZ (hw _ (List.mem_of_getElem? (i := 9) rfl))) (mvT hZ (hw _ (List.mem_of_getElem? (i := 14) rfl))) (by decide) (backOf (W := 0) (rm3 l Z a0 hw [] b k (15 : Int32) at_ (Int32.ofNat (r + 1)) n c8 (own_put (fun _ => c8) at_ n r) h1 n0 Z1 V1 ⟨by decide, by decide⟩ (hall _ ⟨by decide, by decide⟩)) hZ (hw _ (List.mem_of_getElem? (i := 14) rfl)) (hw _ (List.mem_of_getElem? (i := 9) rfl)) (by decide) (by decide)) (g := (mkF m 425 #[.val (.long p0), .second, .val (.int p2), .val (.int p3), .val (.int p4), .val (.long n), .second, .val (.int at_), .val (.int c8), .val (.ref b), .val (.int (own_end at_ r)), .val (.int (Int32.ofNat (r + 1)))] [(.int c8), (.long n), (.int (Int32.ofNat (r + 1))), (.int at_), (.int (15 : Int32)), (.ref b)])) rfl (by rw [hml]; rfl) (argsL := [(.ref b), (.int (15 : Int32)), (.int at_), (.int (Int32.ofNat (r + 1))), (.long n), (.int c8)]) (rest := []) (lenOf pd_2 rfl) rfl (by show 2 * 0 + _ ≤ _; exact Nat.le_of_eq rfl) (hb hby at_425) (fun _ _ => ⟨rfl, e17, (by decide : 1 + 0 ≤ _), (by decide : 16 + 0 ≤ _)⟩)
  dsimp only [Pt.U, Pt.locs, Pt.cells, Pt.slots] at X18 l18 y18 z18 st18 hQ18
  subst l18 y18 z18
  obtain ⟨rfl, N18q, e18⟩ := hQ18
  have N18 := Fr.app N17 N18q
  refine own_step (W' := T18.setTop (mkF m 428 #[.val (.long p0), .second, .val (.int p2), .val (.int p3), .val (.int p4), .val (.long n), .second, .val (.int at_), .val (.int c8), .val (.ref b), .val (.int (own_end at_ r)), .val (.int (Int32.ofNat (r + 1)))] [(.int (1 : Int32))])) (fun _ k => st18 _ k) ?_
  refine own_step (W' := T18.setTop (mkF m 431 #[.val (.long p0), .second, .val (.int p2), .val (.int p3), .val (.int p4), .val (.long n), .second, .val (.int at_), .val (.int c8), .val (.ref b), .val (.int (own_end at_ r)), .val (.int (Int32.ofNat (r + 1)))] [])) (fun _ k => XS.ifNo X18.here hx rfl (hb hby at_428) rfl (by decide) k) ?_
  refine own_step (W' := T18.setTop (mkF m 432 #[.val (.long p0), .second, .val (.int p2), .val (.int p3), .val (.int p4), .val (.long n), .second, .val (.int at_), .val (.int c8), .val (.ref b), .val (.int (own_end at_ r)), .val (.int (Int32.ofNat (r + 1)))] [(.int (1 : Int32))])) (fun _ k => XS.iconst X18.here hx rfl (hb hby at_431) k) ?_
  refine own_step (W' := T18.setTop (mkF m 436 #[.val (.long p0), .second, .val (.int p2), .val (.int p3), .val (.int p4), .val (.long n), .second, .val (.int at_), .val (.int c8), .val (.ref b), .val (.int (own_end at_ r)), .val (.int (Int32.ofNat (r + 1)))] [(.int (1 : Int32))])) (fun _ k => XS.goto X18.here hx rfl (pc0 := 432) (pc' := 436) rfl (hb hby at_432) (by decide) (by decide) k) ?_
  exact own_ret X18 hlk hret (v := (.int (1 : Int32))) (fun fs hr => retN X18 hx (t := .boolean) hret (by simp) (hb hby at_436) hr) ⟨rfl, N18⟩ (by decide) (by decide)
set_option maxRecDepth 65536 in
set_option maxHeartbeats 40000000 in
theorem rm0 (l : Launch) (Z : State) (a0 : Array Value) (hw : ∀ d ∈ tables_1, d.before a0 Z = true) (ws : List Jvm.Cond) (p0 : Int64) (p2 p3 p4 : Int32) (w : Nat → Addr) (h0 : Heap) (n0 : Nat) (Z0 : n0 ≤ h0.size) (P : Pins Z h0 w) :
    MetFree l x (head1 (Jvm.Cond.code x code maxLocals ret :: ws) room_1) (fun aA U => aA = #[(.long p0), (.int p2), (.int p3), (.int p4)] ∧ Z.Warmed39 U.vm ∧ U.heap = h0) (fun _ _ _ _ _ => True) (fun _ U o U' => ∃ v L, o = .returned v ∧ own_Q0 n0 v U'.heap L ∧ FrameEnd U o U' L room_1.cells room_1.slots) := by
  refine MetFree.of_bodySF (plainFor_of_name pn_millrace_local_ByteSinkPutUnsignedPinLaw) hisR ?_
  intro p e s m args below meth c s₁ Bd hml0 hP hK
  obtain ⟨rfl, hZ, hh⟩ := hP
  have hx := Bd.exec
  have hby := Bd.bytes
  have hml : c.maxLocals = 12 := hml0
  have hown : s.vm.findClass "millrace/local/ByteSinkPutUnsignedPinLaw" = some m.cls := findClass_of_methodNamed Bd.named
  have hnm := (name_of_methodNamed Bd.named Bd.method).1
  have X0 : Stand p l e room_1 s m #[(.long p0), (.int p2), (.int p3), (.int p4)] below meth c s₁ [] 0 0 := Stand.of_body Bd
  have e0 : s₁.heap = h0 := by rw [← hh, Bd.state]; rfl
  have N0 := Fr.nil n0
  refine own_enter (ef_0_JIII m p0 p2 p3 p4) ?_
  refine own_step (W' := s₁.setTop (mkF m 1 #[.val (.long p0), .second, .val (.int p2), .val (.int p3), .val (.int p4), .unset, .unset, .unset, .unset, .unset, .unset, .unset] [(.long p0)])) (fun _ k => XS.lloadN X0.here hx rfl (hb hby at_0) rfl k) ?_
  refine own_step (W' := s₁.setTop (mkF m 4 #[.val (.long p0), .second, .val (.int p2), .val (.int p3), .val (.int p4), .unset, .unset, .unset, .unset, .unset, .unset, .unset] [(.long (9223372036854775807 : Int64)), (.long p0)])) (fun _ k => X0.ldc2Long hx hown (mvT hZ (hw _ (List.mem_of_getElem? (i := 0) rfl))) (g := (mkF m 1 #[.val (.long p0), .second, .val (.int p2), .val (.int p3), .val (.int p4), .unset, .unset, .unset, .unset, .unset, .unset, .unset] [(.long p0)])) rfl (hb hby at_1) _ k) ?_
  refine own_step (W' := s₁.setTop (mkF m 5 #[.val (.long p0), .second, .val (.int p2), .val (.int p3), .val (.int p4), .unset, .unset, .unset, .unset, .unset, .unset, .unset] [(.long (p0 &&& (9223372036854775807 : Int64)))])) (fun _ k => XS.land X0.here hx rfl (hb hby at_4) rfl k) ?_
  refine own_step (W' := s₁.setTop (mkF m 6 #[.val (.long p0), .second, .val (.int p2), .val (.int p3), .val (.int p4), .unset, .unset, .unset, .unset, .unset, .unset, .unset] [(.int p2), (.long (p0 &&& (9223372036854775807 : Int64)))])) (fun _ k => XS.iloadN X0.here hx rfl (hb hby at_5) rfl k) ?_
  refine own_step (W' := s₁.setTop (mkF m 8 #[.val (.long p0), .second, .val (.int p2), .val (.int p3), .val (.int p4), .unset, .unset, .unset, .unset, .unset, .unset, .unset] [(.int (63 : Int32)), (.int p2), (.long (p0 &&& (9223372036854775807 : Int64)))])) (fun _ k => XS.bipush X0.here hx rfl (hb hby at_6) k) ?_
  refine own_step (W' := s₁.setTop (mkF m 9 #[.val (.long p0), .second, .val (.int p2), .val (.int p3), .val (.int p4), .unset, .unset, .unset, .unset, .unset, .unset, .unset] [(.int (p2 &&& (63 : Int32))), (.long (p0 &&& (9223372036854775807 : Int64)))])) (fun _ k => XS.iand X0.here hx rfl (hb hby at_8) rfl k) ?_
  refine own_step (W' := s₁.setTop (mkF m 10 #[.val (.long p0), .second, .val (.int p2), .val (.int p3), .val (.int p4), .unset, .unset, .unset, .unset, .unset, .unset, .unset] [(.long (((p0 &&& (9223372036854775807 : Int64)).toUInt64 >>> ((p2 &&& (63 : Int32)) &&& 0x3f).toInt64.toUInt64).toInt64))])) (fun _ k => XS.lushr X0.here hx rfl (hb hby at_9) rfl k) ?_
  refine own_step (W' := s₁.setTop (mkF m 12 #[.val (.long p0), .second, .val (.int p2), .val (.int p3), .val (.int p4), .val (.long (((p0 &&& (9223372036854775807 : Int64)).toUInt64 >>> ((p2 &&& (63 : Int32)) &&& 0x3f).toInt64.toUInt64).toInt64)), .second, .unset, .unset, .unset, .unset, .unset] [])) (fun _ k => XS.lstore X0.here hx rfl (hb hby at_10) rfl (l' := #[.val (.long p0), .second, .val (.int p2), .val (.int p3), .val (.int p4), .val (.long (((p0 &&& (9223372036854775807 : Int64)).toUInt64 >>> ((p2 &&& (63 : Int32)) &&& 0x3f).toInt64.toUInt64).toInt64)), .second, .unset, .unset, .unset, .unset, .unset]) rfl k) ?_
  refine own_step (W' := s₁.setTop (mkF m 13 #[.val (.long p0), .second, .val (.int p2), .val (.int p3), .val (.int p4), .val (.long (((p0 &&& (9223372036854775807 : Int64)).toUInt64 >>> ((p2 &&& (63 : Int32)) &&& 0x3f).toInt64.toUInt64).toInt64)), .second, .unset, .unset, .unset, .unset, .unset] [(.int p3)])) (fun _ k => XS.iloadN X0.here hx rfl (hb hby at_12) rfl k) ?_
  refine own_step (W' := s₁.setTop (mkF m 15 #[.val (.long p0), .second, .val (.int p2), .val (.int p3), .val (.int p4), .val (.long (((p0 &&& (9223372036854775807 : Int64)).toUInt64 >>> ((p2 &&& (63 : Int32)) &&& 0x3f).toInt64.toUInt64).toInt64)), .second, .unset, .unset, .unset, .unset, .unset] [(.int (7 : Int32)), (.int p3)])) (fun _ k => XS.bipush X0.here hx rfl (hb hby at_13) k) ?_
  refine own_step (W' := s₁.setTop (mkF m 16 #[.val (.long p0), .second, .val (.int p2), .val (.int p3), .val (.int p4), .val (.long (((p0 &&& (9223372036854775807 : Int64)).toUInt64 >>> ((p2 &&& (63 : Int32)) &&& 0x3f).toInt64.toUInt64).toInt64)), .second, .unset, .unset, .unset, .unset, .unset] [(.int (p3 &&& (7 : Int32)))])) (fun _ k => XS.iand X0.here hx rfl (hb hby at_15) rfl k) ?_
  refine own_step (W' := s₁.setTop (mkF m 18 #[.val (.long p0), .second, .val (.int p2), .val (.int p3), .val (.int p4), .val (.long (((p0 &&& (9223372036854775807 : Int64)).toUInt64 >>> ((p2 &&& (63 : Int32)) &&& 0x3f).toInt64.toUInt64).toInt64)), .second, .val (.int (p3 &&& (7 : Int32))), .unset, .unset, .unset, .unset] [])) (fun _ k => XS.istore X0.here hx rfl (hb hby at_16) rfl (l' := #[.val (.long p0), .second, .val (.int p2), .val (.int p3), .val (.int p4), .val (.long (((p0 &&& (9223372036854775807 : Int64)).toUInt64 >>> ((p2 &&& (63 : Int32)) &&& 0x3f).toInt64.toUInt64).toInt64)), .second, .val (.int (p3 &&& (7 : Int32))), .unset, .unset, .unset, .unset]) rfl k) ?_
  refine own_step (W' := s₁.setTop (mkF m 20 #[.val (.long p0), .second, .val (.int p2), .val (.int p3), .val (.int p4), .val (.long (((p0 &&& (9223372036854775807 : Int64)).toUInt64 >>> ((p2 &&& (63 : Int32)) &&& 0x3f).toInt64.toUInt64).toInt64)), .second, .val (.int (p3 &&& (7 : Int32))), .unset, .unset, .unset, .unset] [(.int p4)])) (fun _ k => XS.iload X0.here hx rfl (hb hby at_18) rfl k) ?_
  refine own_step (W' := s₁.setTop (mkF m 21 #[.val (.long p0), .second, .val (.int p2), .val (.int p3), .val (.int p4), .val (.long (((p0 &&& (9223372036854775807 : Int64)).toUInt64 >>> ((p2 &&& (63 : Int32)) &&& 0x3f).toInt64.toUInt64).toInt64)), .second, .val (.int (p3 &&& (7 : Int32))), .unset, .unset, .unset, .unset] [(.int (p4.toInt8.toInt32))])) (fun _ k => XS.i2b X0.here hx rfl (hb hby at_20) rfl k) ?_
  refine own_step (W' := s₁.setTop (mkF m 23 #[.val (.long p0), .second, .val (.int p2), .val (.int p3), .val (.int p4), .val (.long (((p0 &&& (9223372036854775807 : Int64)).toUInt64 >>> ((p2 &&& (63 : Int32)) &&& 0x3f).toInt64.toUInt64).toInt64)), .second, .val (.int (p3 &&& (7 : Int32))), .val (.int (p4.toInt8.toInt32)), .unset, .unset, .unset] [])) (fun _ k => XS.istore X0.here hx rfl (hb hby at_21) rfl (l' := #[.val (.long p0), .second, .val (.int p2), .val (.int p3), .val (.int p4), .val (.long (((p0 &&& (9223372036854775807 : Int64)).toUInt64 >>> ((p2 &&& (63 : Int32)) &&& 0x3f).toInt64.toUInt64).toInt64)), .second, .val (.int (p3 &&& (7 : Int32))), .val (.int (p4.toInt8.toInt32)), .unset, .unset, .unset]) rfl k) ?_
  refine own_fill p0 p2 p3 p4 (((p0 &&& (9223372036854775807 : Int64)).toUInt64 >>> ((p2 &&& (63 : Int32)) &&& 0x3f).toInt64.toUInt64).toInt64) (p3 &&& (7 : Int32)) (p4.toInt8.toInt32) X0 hx hZ hw hby hml hown e0 N0 Z0 P ?_
  intro T9 h9 L9 k9 b9 X9 e9 E9 N9 V9 g9
  rw [own_nar8] at V9
  have V8 : Arv Z h9 b9 k9 .byte (16 : Int32) (own_L (fun _ => (p4.toInt8.toInt32))) (.int (0 : Int32)) := V9
  exact own_tail p0 p2 p3 p4 _ _ _ b9 k9 (own_at7 p3).1 (own_at7 p3).2 (own_nn p0 p2) X9 hx hZ hw hby hml hown e9 N9 (Nat.le_trans Z0 E9.1) V8 g9 Bd.notSynchronized Bd.returns
set_option maxRecDepth 65536 in
set_option maxHeartbeats 40000000 in
theorem comes_1 {Post : Tables → Env → Array Value → State → Outcome → State → Prop} (hpost : ∀ tb e args s v u, (limb_1_1.after args s (.returned v) u = true ∧ limb_1_2.after args s (.returned v) u = true ∧ True) → FrameEnd s (.returned v) u (Jvm.fieldLocs frame_1_writes args s ++ Jvm.arrayLocs frame_1_arrays args s ++ Jvm.staticLocs frame_1_statics s) 16 128 → Post tb e args s (.returned v) u) :
    ArmFor flags0 classFile x code maxLocals ret World_1 tables_1 room_1 Calls_1 rest_1 Pre_1 Post := by
  intro l hfl _ _ p e ha hc hk s m args below hf hA hF happ hP
  obtain ⟨hcalls, hrest, hpre⟩ := hP
  obtain ⟨-, -, -, hnamed, -, -, -, hat⟩ := (Spec.applies_iff hf).mp happ
  obtain ⟨hg, hn⟩ := and_e (Cond.before_iff.mp (show (Jvm.Cond.and given_1 narrow_1).before args s = true from hpre))
  obtain ⟨gc, hg⟩ := and_e hg
  obtain ⟨w0, w1, w2, w3, rfl⟩ : ∃ w0 w1 w2 w3 : Value, args = #[w0, w1, w2, w3] := by
    have hs : args.size = 4 := by simpa [Cond.value, given_1] using gc
    obtain ⟨L⟩ := args
    match L, hs with
    | [w0, w1, w2, w3], _ => exact ⟨w0, w1, w2, w3, rfl⟩
  have hw := fun d (hd : d ∈ tables_1) => atoms_spec (ws := Jvm.Cond.code x code maxLocals ret :: tables_1) hat d (List.mem_cons_of_mem _ hd)
  obtain ⟨g0, hg⟩ := and_e hg
  obtain ⟨i0, ei0⟩ := isL_v g0
  obtain rfl : w0 = (.long i0) := Option.some.inj ei0
  obtain ⟨g1, hg⟩ := and_e hg
  obtain ⟨i1, ei1⟩ := is_v g1
  obtain rfl : w1 = (.int i1) := Option.some.inj ei1
  obtain ⟨g2, hg⟩ := and_e hg
  obtain ⟨i2, ei2⟩ := is_v g2
  obtain rfl : w2 = (.int i2) := Option.some.inj ei2
  obtain ⟨i3, ei3⟩ := is_v hg
  obtain rfl : w3 = (.int i3) := Option.some.inj ei3
  obtain ⟨w, P⟩ := own_pins hw hn
  obtain ⟨n, o, h1, h2, h3, _, L, rfl, ⟨rfl, N⟩, hq⟩ := rm0 l s _ hw tables_1 i0 i1 i2 i3 w s.heap s.heap.size (Nat.le_refl _) P p e ha hc hk s m _ below hf ((Spec.applies_iff_loose hf).mp happ).1 ⟨rfl, State.Warmed39.refl s, rfl⟩ trivial
  refine ⟨n, _, h1, h2, h3, hpost _ _ _ _ _ _ ⟨Cond.after_iff.mpr rfl, Cond.after_iff.mpr (eq_i res_at (Term.int_eval (1)) rfl), trivial⟩ ⟨hq.1, hq.2.1, (hq.2.2.sift fun y hy => Or.inr (N y hy)).mono (by decide) (by decide)⟩⟩
theorem main_1_1 : Claimed_1_1 := comes_1 fun _ _ _ _ _ _ h hF => ⟨h.1, hF⟩
theorem main_1_2 : Claimed_1_2 := comes_1 fun _ _ _ _ _ _ h hF => ⟨h.2.1, hF⟩
end Jvm.Pilot.@@N@@
namespace Jvm.Pilot.@@N@@
open Jvm Jvm.ClassFile Sem Op Lib Jvm.Free Jvm.Stand Jvm.Pilot.@@N@@.Jvm.D
/-! MADE BY PROGRAM (witnessworld.py) out of the Statement's table words and the real class files: 9 classes; the members and pool entries that the words name. The judged class is class 1, her method 1. -/
namespace start1
open Jvm.ClassFile
def u (s : String) : CpInfo := .utf8 (stringToUtf16 s)
/-- a pool by its gaps: so many unusable entries, then the entry; so many at the end -/
def gap : Nat → List CpInfo → List CpInfo
  | 0, r => r
  | n + 1, r => .unusable :: gap n r
def poolList (es : List (Nat × CpInfo)) (last : Nat) : List CpInfo := es.foldr (fun e r => gap e.1 (e.2 :: r)) (gap last [])
def pool (es : List (Nat × CpInfo)) (last : Nat) : Array CpInfo := ⟨poolList es last⟩
def fileOf (pool : Array CpInfo) (this : Nat) (attrs : Array Attribute := #[]) (ms : Array MethodInfo := #[]) (fl : Nat := 33) (sup : Nat := 0) (ifs : Array Nat := #[]) (fds : Array FieldInfo := #[]) : ClassFile where
  minorVersion := 0
  majorVersion := 65
  constantPool := pool
  accessFlags := fl
  thisClass := this
  superClass := sup
  interfaces := ifs
  fields := fds
  methods := ms
  attributes := attrs
def plain (name : String) (sup : Option ClassId) : Class where
  name := name
  kind := .ordinary
  loader := none
  accessFlags := 33
  super := sup
  interfaces := #[]
  cf := none
  fields := #[]
  methods := #[]
  instanceTypes := #[]
  staticTypes := #[]
  resolved := #[]
  callSites := []
  init := .initialized
  statics := none
  mirror := none

def pool0 : Array CpInfo := pool [(5, u "<init>"), (0, u "()V"), (1, .class_ 10), (1, u "java/lang/Object")] 113

def k0m0 : Method := { name := "<init>", desc := "()V", sig := { parameters := [], returnType := none }, accessFlags := 1, code := none }
/-- java/lang/Object -/
def k0 : Class := { plain "java/lang/Object" none with
  accessFlags := 33
  interfaces := #[]
  cf := some (fileOf pool0 8 #[] #[{ accessFlags := 1, nameIndex := 5, descriptorIndex := 6, attributes := #[] }] 33 0 #[] #[])
  fields := #[]
  methods := #[k0m0]
  instanceTypes := #[]
  staticTypes := #[]
  resolved := Array.replicate 124 none
  statics := none }

def pool1 : Array CpInfo := pool [(2, .class_ 4), (1, u "java/lang/Object"), (0, u "<init>"), (0, u "()V"), (2, .long 9223372036854775807), (1, .methodref 12 13), (0, .class_ 14), (0, .nameAndType 15 16), (0, u "millrace/local/ByteSink"), (0, u "putUnsigned"), (0, u "([BIJ)I"), (0, .methodref 18 19), (0, .class_ 20), (0, .nameAndType 21 22), (0, u "millrace/local/ByteSinkPutUnsignedPinLaw"), (0, u "lengthOf"), (0, u "(J)I"), (0, .methodref 18 24), (0, .nameAndType 25 26), (0, u "at"), (0, u "([BIIIJB)Z"), (0, .long 128), (1, .long 16384), (1, .long 2097152), (1, .long 268435456), (1, .long 34359738368), (1, .long 4398046511104), (1, .long 562949953421312), (1, .long 72057594037927936), (1, .long 127), (3, u "law"), (0, u "(JIII)Z")] 5

def k1m0 : Method := { name := "<init>", desc := "()V", sig := { parameters := [], returnType := none }, accessFlags := 2, code := none }
def k1c1 : Code := { maxStack := 7, maxLocals := 12, code := code, exceptionTable := #[], attributes := #[] }
def k1m1 : Method := { name := "law", desc := "(JIII)Z", sig := { parameters := [.long, .int, .int, .int], returnType := some .boolean }, accessFlags := 9, code := some k1c1 }
def k1c2 : Code := { maxStack := 4, maxLocals := 2, code := method_3_code, exceptionTable := #[], attributes := #[] }
def k1m2 : Method := { name := "lengthOf", desc := "(J)I", sig := { parameters := [.long], returnType := some .int }, accessFlags := 10, code := some k1c2 }
def k1c3 : Code := { maxStack := 4, maxLocals := 9, code := method_4_code, exceptionTable := #[], attributes := #[] }
def k1m3 : Method := { name := "at", desc := "([BIIIJB)Z", sig := { parameters := [(.array .byte), .int, .int, .int, .long, .byte], returnType := some .boolean }, accessFlags := 10, code := some k1c3 }
/-- millrace/local/ByteSinkPutUnsignedPinLaw -/
def k1 : Class := { plain "millrace/local/ByteSinkPutUnsignedPinLaw" (some 0) with
  accessFlags := 49
  interfaces := #[]
  cf := some (fileOf pool1 18 #[] #[{ accessFlags := 2, nameIndex := 5, descriptorIndex := 6, attributes := #[] }, { accessFlags := 9, nameIndex := 47, descriptorIndex := 48, attributes := #[] }, { accessFlags := 10, nameIndex := 21, descriptorIndex := 22, attributes := #[] }, { accessFlags := 10, nameIndex := 25, descriptorIndex := 26, attributes := #[] }] 49 2 #[] #[])
  fields := #[]
  methods := #[k1m0, k1m1, k1m2, k1m3]
  instanceTypes := #[]
  staticTypes := #[]
  resolved := Array.replicate 54 none
  statics := none }

def pool2 : Array CpInfo := pool [(2, .class_ 4), (1, u "java/lang/Object"), (9, .class_ 16), (1, u "millrace/local/ByteSink"), (0, u "bytes"), (0, u "[B"), (2, u "size"), (0, u "I"), (22, u "putUnsigned"), (0, u "([BIJ)I"), (0, .long 18446744073709551488), (1, .long 127), (1, .long 128)] 25

def k2c0 : Code := { maxStack := 6, maxLocals := 4, code := prog_51_method_10_code, exceptionTable := #[], attributes := #[] }
def k2m0 : Method := { name := "putUnsigned", desc := "([BIJ)I", sig := { parameters := [(.array .byte), .int, .long], returnType := some .int }, accessFlags := 8, code := some k2c0 }
/-- millrace/local/ByteSink -/
def k2 : Class := { plain "millrace/local/ByteSink" (some 0) with
  accessFlags := 48
  interfaces := #[]
  cf := some (fileOf pool2 14 #[] #[{ accessFlags := 8, nameIndex := 45, descriptorIndex := 46, attributes := #[] }] 48 2 #[] #[{ accessFlags := 2, nameIndex := 17, descriptorIndex := 18, attributes := #[] }, { accessFlags := 2, nameIndex := 21, descriptorIndex := 22, attributes := #[] }])
  fields := #[{ name := "bytes", type := (.array .byte), accessFlags := 2, slot := 0, constantValue := 0 }, { name := "size", type := .int, accessFlags := 2, slot := 1, constantValue := 0 }]
  methods := #[k2m0]
  instanceTypes := #[(.array .byte), .int]
  staticTypes := #[]
  resolved := Array.replicate 77 none
  statics := none }

def pool3 : Array CpInfo := pool [(1, u "java/lang/Cloneable"), (0, .class_ 1), (0, u "java/lang/Object"), (0, .class_ 3)] 3

/-- java/lang/Cloneable -/
def k3 : Class := { plain "java/lang/Cloneable" (some 0) with
  accessFlags := 1537
  interfaces := #[]
  cf := some (fileOf pool3 2 #[] #[] 1537 4 #[] #[])
  fields := #[]
  methods := #[]
  instanceTypes := #[]
  staticTypes := #[]
  resolved := Array.replicate 8 none
  statics := none }

def pool4 : Array CpInfo := pool [(1, u "java/io/Serializable"), (0, .class_ 1), (0, u "java/lang/Object"), (0, .class_ 3)] 3

/-- java/io/Serializable -/
def k4 : Class := { plain "java/io/Serializable" (some 0) with
  accessFlags := 1537
  interfaces := #[]
  cf := some (fileOf pool4 2 #[] #[] 1537 4 #[] #[])
  fields := #[]
  methods := #[]
  instanceTypes := #[]
  staticTypes := #[]
  resolved := Array.replicate 8 none
  statics := none }

/-- the primitive byte -/
def k5 : Class := { plain "byte" none with kind := .primitive 'B', accessFlags := 0x411 }
/-- [B -/
def k6 : Class := { plain "[B" (some 0) with kind := .array 5 .byte, interfaces := #[3, 4], accessFlags := 1041 }

/-- the primitive int -/
def k7 : Class := { plain "int" none with kind := .primitive 'I', accessFlags := 0x411 }
/-- [I -/
def k8 : Class := { plain "[I" (some 0) with kind := .array 7 .int, interfaces := #[3, 4], accessFlags := 1041 }

def heap : Heap := #[]
def classes : Array Class := #[k0, k1, k2, k3, k4, k5, k6, k7, k8]
def interned : List (Array UInt16 × Addr) := []
def slotsUsed : Nat := 0
def theMethod : MethodId := ⟨1, 1⟩
def args0 : Array Value := #[.long 300, .int 0, .int 3, .int 9]
def aboutOver (below : List Frame) : State where
  vm := { classes := classes, interned := interned.toArray }
  heap := heap
  slotsUsed := slotsUsed
  threads := #[{ frames := .invoking theMethod args0 :: below }]
def below0 : List Frame := [.native { method := ⟨0, 0⟩, args := #[] }]
def about1 : State := aboutOver below0
def p0 : Program := .bare "" "" ""
def e0 : Env := launch0.env 0 0 0
theorem w_frames : about1.frames = Frame.invoking theMethod args0 :: below0 := rfl
set_option maxRecDepth 65536 in
theorem w_args : argsFit about1.vm theMethod args0 = true := by decide +kernel
set_option maxRecDepth 65536 in
theorem w_heap : heapFits about1 = true := by decide +kernel
set_option maxRecDepth 65536 in
theorem w_runnable : about1.curStatus? = some .runnable := by decide +kernel
set_option maxRecDepth 65536 in
theorem w_alone : about1.alone = true := by decide +kernel
set_option maxRecDepth 65536 in
theorem w_named : about1.methodNamed? x = some theMethod := by decide +kernel
set_option maxRecDepth 65536 in
theorem w_hears : about1.hears theMethod below0 = true := by decide +kernel
set_option maxRecDepth 65536 in
theorem w_ripe : about1.ripe theMethod args0 below0 = true := by decide +kernel
theorem w_running : about1.status = .running := rfl
set_option maxRecDepth 65536 in
theorem w_room : about1.hasRoom e0.platform room_1 = true :=
  launch0.hasRoom_least _ room_1 (by decide +kernel) (by decide +kernel) (by decide +kernel) (by decide +kernel) (by decide +kernel) (by decide +kernel)
theorem allAtoms_all (ts : List Jvm.Cond) (a : Array Jvm.Value) (st : Jvm.State) : (allAtoms ts).before a st = ts.all (fun c => c.before a st) := by
  induction ts with
  | nil => rfl
  | cons c t ih =>
    show (Jvm.Cond.and c (allAtoms t)).before a st = _
    rw [Jvm.Cond.before_and, ih, List.all_cons]
def words1 : List Jvm.Cond := Jvm.Cond.code x code maxLocals ret :: tables_1
/-- a 'code' word, met by the world's own term for the bytes: nothing is compared byte by byte -/
theorem code_word {y : MethodName} {bytes : ByteArray} {mx : Nat} {rt : Option FieldType} {a : Array Value} {s : State} {m : MethodId} {meth : Method} {c : Code} (h1 : s.methodNamed? y = some m) (h2 : s.vm.method? m = some meth) (h3 : meth.code = some c) (h4 : c.code = bytes)
    (h5 : (c.maxLocals == mx && c.exceptionTable.isEmpty && decide (c.maxStack ≤ mostOperands) && decide (meth.sig.returnType = rt) && !meth.locks && decide (parseMethodDescriptor y.desc = some meth.sig)) = true) : (Jvm.Cond.code y bytes mx rt).before a s = true := by
  simp only [Bool.and_eq_true, beq_iff_eq, Bool.not_eq_true', decide_eq_true_eq] at h5
  obtain ⟨⟨⟨⟨⟨g1, g2⟩, g3⟩, g4⟩, g5⟩, g6⟩ := h5
  simp [Cond.before, Cond.holds, Cond.value, h1, h2, h3, h4, g1, g2, g3, g4, g5, g6]
def isCode : Jvm.Cond → Bool
  | .code _ _ _ _ => true
  | _ => false
theorem all_split {L : List Jvm.Cond} {P : Jvm.Cond → Bool} (h1 : L.all (fun c => isCode c || P c) = true) (h2 : ∀ c ∈ L.filter isCode, P c = true) : L.all P = true := by
  refine List.all_eq_true.mpr fun c hc => ?_
  have h := List.all_eq_true.mp h1 c hc
  rcases Bool.eq_false_or_eq_true (isCode c) with hi | hi
  · exact h2 c (List.mem_filter.mpr ⟨hc, hi⟩)
  · simpa [hi] using h
set_option maxRecDepth 65536 in
theorem w_c0 : (Jvm.Cond.code x code maxLocals ret).before args0 about1 = true := code_word (m := ⟨1, 1⟩) (meth := k1m1) (c := k1c1) (by decide +kernel) rfl rfl rfl (by decide +kernel)
set_option maxRecDepth 65536 in
theorem w_c1 : (Jvm.Cond.code ({ cls := "millrace/local/ByteSink", name := "putUnsigned", desc := "([BIJ)I" } : Jvm.MethodName) prog_51_method_10_code (4 : Nat) (Option.some Jvm.ClassFile.FieldType.int)).before args0 about1 = true := code_word (m := ⟨2, 0⟩) (meth := k2m0) (c := k2c0) (by decide +kernel) rfl rfl rfl (by decide +kernel)
set_option maxRecDepth 65536 in
theorem w_c2 : (Jvm.Cond.code ({ cls := "millrace/local/ByteSinkPutUnsignedPinLaw", name := "lengthOf", desc := "(J)I" } : Jvm.MethodName) method_3_code (2 : Nat) (Option.some Jvm.ClassFile.FieldType.int)).before args0 about1 = true := code_word (m := ⟨1, 2⟩) (meth := k1m2) (c := k1c2) (by decide +kernel) rfl rfl rfl (by decide +kernel)
set_option maxRecDepth 65536 in
theorem w_c3 : (Jvm.Cond.code ({ cls := "millrace/local/ByteSinkPutUnsignedPinLaw", name := "at", desc := "([BIIIJB)Z" } : Jvm.MethodName) method_4_code (9 : Nat) (Option.some Jvm.ClassFile.FieldType.boolean)).before args0 about1 = true := code_word (m := ⟨1, 3⟩) (meth := k1m3) (c := k1c3) (by decide +kernel) rfl rfl rfl (by decide +kernel)
def codes1 : List Jvm.Cond := [Jvm.Cond.code x code maxLocals ret, Jvm.Cond.code ({ cls := "millrace/local/ByteSink", name := "putUnsigned", desc := "([BIJ)I" } : Jvm.MethodName) prog_51_method_10_code (4 : Nat) (Option.some Jvm.ClassFile.FieldType.int), Jvm.Cond.code ({ cls := "millrace/local/ByteSinkPutUnsignedPinLaw", name := "lengthOf", desc := "(J)I" } : Jvm.MethodName) method_3_code (2 : Nat) (Option.some Jvm.ClassFile.FieldType.int), Jvm.Cond.code ({ cls := "millrace/local/ByteSinkPutUnsignedPinLaw", name := "at", desc := "([BIIIJB)Z" } : Jvm.MethodName) method_4_code (9 : Nat) (Option.some Jvm.ClassFile.FieldType.boolean)]
set_option maxRecDepth 65536 in
theorem codes_eq : words1.filter isCode = codes1 := rfl
theorem w_codes : ∀ c ∈ words1.filter isCode, c.before args0 about1 = true := by
  rw [codes_eq]
  intro c hc
  simp only [codes1, List.mem_cons, List.not_mem_nil, or_false] at hc
  rcases hc with rfl | rfl | rfl | rfl
  · exact w_c0
  · exact w_c1
  · exact w_c2
  · exact w_c3
set_option maxRecDepth 65536 in
theorem w_t1 : (words1.take 24).all (fun c => isCode c || c.before args0 about1) = true := by decide +kernel
set_option maxRecDepth 65536 in
theorem w_t2 : (words1.drop 24).all (fun c => isCode c || c.before args0 about1) = true := by decide +kernel
theorem w_tables : (allAtoms (Jvm.Cond.code x code maxLocals ret :: tables_1)).before args0 about1 = true := by
  rw [allAtoms_all]
  show words1.all (fun c => c.before args0 about1) = true
  refine all_split ?_ w_codes
  rw [← List.take_append_drop 24 words1, List.all_append, w_t1, w_t2]
  rfl
set_option maxRecDepth 65536 in
theorem w_case : (Jvm.Cond.and given_1 narrow_1).before args0 about1 = true := by decide +kernel
theorem w_applies : (headSpec (Jvm.Cond.code x code maxLocals ret :: tables_1) room_1).applies x e0.platform about1 = true :=
  (Spec.applies_iff w_frames).mpr ⟨w_running, w_runnable, w_alone, w_named, w_hears, w_ripe, w_room, w_tables⟩
theorem atStart : AtStart classFile x code maxLocals ret World_1 tables_1 room_1 Calls_1 rest_1 Pre_1 launch0 p0 e0 about1 theMethod args0 below0 :=
  ⟨lists_1, trivial, launch0.admits_env _ _ _, launch0.least_env, fairChoices_fair.cas, fairChoices_fair.clock, w_frames, w_args, w_heap, w_applies, trivial, trivial, w_case⟩
end start1
theorem witness_1 : WitnessClaimed_1 := ⟨start1.p0, start1.e0, start1.about1, start1.theMethod, start1.args0, start1.below0, start1.atStart⟩
end Jvm.Pilot.@@N@@
