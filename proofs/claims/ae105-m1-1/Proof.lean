import JvmDerived
import JvmDerived.Pilot.@@N@@Statement
import JvmDerived.Pilot.@@N@@Code
set_option linter.unusedVariables false
set_option linter.unusedSimpArgs false
@@BLOCK:NumsL.lean.txt@@
namespace Jvm.Pilot.@@N@@
open Jvm Jvm.ClassFile Sem Op Lib Jvm.Free Jvm.Stand Jvm.LawKit Jvm.RoadKit Bundle Jvm.Pilot.@@N@@.Jvm.D

/-! the walk's goal, read backwards: from here the run comes to its end -/
def own_Done (p : Program) (e : Env) (below : List Frame) (W : State) (Q : Outcome → State → Prop) : Prop := ∃ s₂ o, Steps p.tables e below W s₂ ∧ s₂.status = .running ∧ Ended s₂ below o ∧ Q o s₂
theorem own_step {p : Program} {e : Env} {below : List Frame} {W W' : State} {Q : Outcome → State → Prop} (st : ∀ t, Steps p.tables e below W' t → Steps p.tables e below W t) (h : own_Done p e below W' Q) : own_Done p e below W Q := by
  obtain ⟨s2, o, h1, r⟩ := h
  exact ⟨s2, o, st _ h1, r⟩
theorem own_enter {p : Program} {e : Env} {below : List Frame} {T : State} {g g' : JFrame} {Q : Outcome → State → Prop} (q : g = g') (h : own_Done p e below (T.setTop g') Q) : ∃ s₂ o, Steps p.tables e below (T.setTop g) s₂ ∧ s₂.status = .running ∧ Ended s₂ below o ∧ Q o s₂ := by
  subst q; exact h
theorem own_ret {p : Program} {l : Launch} {e : Env} {R : Room} {s : State} {m : MethodId} {args : Array Value} {below : List Frame} {meth : Method} {c : Code} {T W : State} {locs : List Loc} {cells slots k n : Nat} {r : Option Value → Heap → List Loc → Prop} {v : Value} {t : FieldType}
    (X : Stand p l e R s m args below meth c T locs cells slots) (hlocks : meth.locks = false) (hret : meth.sig.returnType = some t)
    (hs : ∀ fs : List Frame, (∀ (f : JFrame) (acts : List Action), f.method = m → f.locked = none → f.entered = [] → (doReturn e (T.setTop f) acts (some v)).1 = T.setFrames fs) → Steps p.tables e below W (T.setFrames fs))
    (hq : r (some v) T.heap locs) (hk : cells ≤ k) (hn : slots ≤ n) : own_Done p e below W (fun o U' => ∃ v L, o = .returned v ∧ r v U'.heap L ∧ FrameEnd s o U' L k n) := by
  obtain ⟨fs, hr, hrun, hended, hW, hsame⟩ := X.leave (v := some v) (fun h => by rw [hret] at h; cases h) hlocks
  exact ⟨_, _, hs fs hr, hrun, hended, _, _, rfl, hq, ⟨_, rfl⟩, hW, hsame.mono hk hn⟩
theorem own_ret0 {p : Program} {l : Launch} {e : Env} {R : Room} {s : State} {m : MethodId} {args : Array Value} {below : List Frame} {meth : Method} {c : Code} {T W : State} {locs : List Loc} {cells slots k n : Nat} {r : Option Value → Heap → List Loc → Prop}
    (X : Stand p l e R s m args below meth c T locs cells slots) (hlocks : meth.locks = false) (hret : meth.sig.returnType = none)
    (hs : ∀ fs : List Frame, (∀ (f : JFrame) (acts : List Action), f.method = m → f.locked = none → f.entered = [] → (doReturn e (T.setTop f) acts none).1 = T.setFrames fs) → Steps p.tables e below W (T.setFrames fs))
    (hq : r none T.heap locs) (hk : cells ≤ k) (hn : slots ≤ n) : own_Done p e below W (fun o U' => ∃ v L, o = .returned v ∧ r v U'.heap L ∧ FrameEnd s o U' L k n) := by
  obtain ⟨fs, hr, hrun, hended, hW, hsame⟩ := X.leave (v := none) (fun _ => rfl) hlocks
  exact ⟨_, _, hs fs hr, hrun, hended, _, _, rfl, hq, ⟨_, rfl⟩, hW, hsame.mono hk hn⟩
/-- a body that writes nothing and returns r -/
def own_QK (r : Option Value) (h0 : Heap) (n0 : Nat) (v : Option Value) (h : Heap) (L : List Loc) : Prop := v = r ∧ Fr n0 L ∧ h = h0
/-- the law itself -/
def own_Q0 (n0 : Nat) (v : Option Value) (h : Heap) (L : List Loc) : Prop := v = some (.int (1 : Int32)) ∧ Fr n0 L

theorem own_eqJ {args : Array Value} {first s : State} {o : Option Outcome} {idx : List Nat} {t : Term} {k : Int64} (h : (Cond.eq t (.long k)).value args first o s idx = some true) : t.eval args first o idx s = some (.long k) := by
  obtain ⟨u, w, e1, e2, -, k2⟩ := cmp_v (Or.inl h)
  have e3 : (Term.long k).eval args first o idx s = some (.long k) := rfl
  cases e3.symm.trans e2
  obtain ⟨z, rfl⟩ := k2
  rw [e1]
  have := gotT (eq_L e1 e3) h
  rw [this]
theorem own_fldI {Z : State} {args : Array Value} {t : Term} {a : Addr} {C n d : String} {k : Int32} (ev : t.eval args Z none [] Z = some (.ref a)) (h : (Cond.eq (.field t C n d) (.int k)).value args Z none Z [] = some true) : Fld Z Z.heap a C n d (.int k) := by
  refine Fld.start ?_
  rw [← fld_at (C := C) (n := n) (dd := d) ev]
  obtain ⟨u, w, e1, e2, -, k2⟩ := cmp_v (Or.inl h)
  cases (Term.int_eval k).symm.trans e2
  obtain ⟨z, rfl⟩ := k2
  rw [e1]
  simp [Cond.value, e1, Term.int_eval] at h
  rw [h]
theorem own_fldN {Z : State} {args : Array Value} {t : Term} {a : Addr} {C n d : String} (ev : t.eval args Z none [] Z = some (.ref a)) (h : (Cond.eq (.field t C n d) .null).value args Z none Z [] = some true) : Fld Z Z.heap a C n d .null := by
  refine Fld.start ?_
  rw [← fld_at (C := C) (n := n) (dd := d) ev]
  exact null_v h
theorem own_fldR {Z : State} {args : Array Value} {t u : Term} {a b : Addr} {C n d : String} (ev : t.eval args Z none [] Z = some (.ref a)) (eu : u.eval args Z none [] Z = some (.ref b)) (h : (Cond.eq (.field t C n d) u).value args Z none Z [] = some true) : Fld Z Z.heap a C n d (.ref b) := by
  refine Fld.start ?_
  rw [← fld_at (C := C) (n := n) (dd := d) ev]
  obtain ⟨x, w, e1, e2, k1, k2⟩ := cmp_v (Or.inl h)
  cases eu.symm.trans e2
  obtain ⟨-, hx⟩ := k2
  rw [e1]
  have := gotT (eq_R e1 eu hx rfl) h
  rw [this]

theorem own_mask (p : Int32) : 0 ≤ (p &&& (2147483647 : Int32)).toInt := by
  have e1 : (p &&& (2147483647 : Int32)).toInt = p.toInt % 2 ^ 31 := Jvm.Kit.i32_mask p 2147483647 (k := 31) (by decide) (by decide)
  omega
theorem own_rem (p q : Int32) (h : 0 < q.toInt) : 0 ≤ ((p &&& (2147483647 : Int32)) % q).toInt ∧ ((p &&& (2147483647 : Int32)) % q).toInt < q.toInt := by
  have h0 := own_mask p
  rw [Int32.toInt_mod]
  exact ⟨Int.tmod_nonneg _ h0, Int.tmod_lt_of_pos _ h⟩
theorem own_m5 (p : Int32) : ((p &&& (2147483647 : Int32)) % (5 : Int32)) = (0 : Int32) ∨ ((p &&& (2147483647 : Int32)) % (5 : Int32)) = (1 : Int32) ∨ ((p &&& (2147483647 : Int32)) % (5 : Int32)) = (2 : Int32) ∨ ((p &&& (2147483647 : Int32)) % (5 : Int32)) = (3 : Int32) ∨ ((p &&& (2147483647 : Int32)) % (5 : Int32)) = (4 : Int32) := by
  have h := own_rem p (5 : Int32) (by decide)
  have hq : (5 : Int32).toInt = 5 := by decide
  rw [hq] at h
  generalize ((p &&& (2147483647 : Int32)) % (5 : Int32)) = z at h
  have hz : z.toInt = 0 ∨ z.toInt = 1 ∨ z.toInt = 2 ∨ z.toInt = 3 ∨ z.toInt = 4 := by omega
  rcases hz with hz | hz | hz | hz | hz
  · exact Or.inl (Int32.toInt_inj.mp (hz.trans (by decide)))
  · exact Or.inr (Or.inl (Int32.toInt_inj.mp (hz.trans (by decide))))
  · exact Or.inr (Or.inr (Or.inl (Int32.toInt_inj.mp (hz.trans (by decide)))))
  · exact Or.inr (Or.inr (Or.inr (Or.inl (Int32.toInt_inj.mp (hz.trans (by decide))))))
  · exact Or.inr (Or.inr (Or.inr (Or.inr ((Int32.toInt_inj.mp (hz.trans (by decide)))))))
theorem own_a4 (p : Int32) : (p &&& (3 : Int32)) = (0 : Int32) ∨ (p &&& (3 : Int32)) = (1 : Int32) ∨ (p &&& (3 : Int32)) = (2 : Int32) ∨ (p &&& (3 : Int32)) = (3 : Int32) := by
  have h : (p &&& (3 : Int32)).toInt = p.toInt % 2 ^ 2 := Jvm.Kit.i32_mask p 3 (k := 2) (by decide) (by decide)
  generalize (p &&& (3 : Int32)) = z at h
  have hz : z.toInt = 0 ∨ z.toInt = 1 ∨ z.toInt = 2 ∨ z.toInt = 3 := by omega
  rcases hz with hz | hz | hz | hz
  · exact Or.inl (Int32.toInt_inj.mp (hz.trans (by decide)))
  · exact Or.inr (Or.inl (Int32.toInt_inj.mp (hz.trans (by decide))))
  · exact Or.inr (Or.inr (Or.inl (Int32.toInt_inj.mp (hz.trans (by decide)))))
  · exact Or.inr (Or.inr (Or.inr ((Int32.toInt_inj.mp (hz.trans (by decide))))))

theorem own_lcmp (x y : Int64) : lcmpW x y = (-1 : Int32) ∨ lcmpW x y = (0 : Int32) ∨ lcmpW x y = (1 : Int32) := by
  unfold lcmpW; split <;> (try split) <;> simp
theorem d1_0 : decode prog_62_method_9_code 0 = .ok (.lload_n 1, 1) := by decide +kernel
theorem d1_1 : decode prog_62_method_9_code 1 = .ok (.lload_n 3, 1) := by decide +kernel
theorem d1_2 : decode prog_62_method_9_code 2 = .ok (.lcmp, 1) := by decide +kernel
theorem d1_3 : decode prog_62_method_9_code 3 = .ok (.ifCond .ne 16, 3) := by decide +kernel
theorem d1_19 : decode prog_62_method_9_code 19 = .ok (.lload_n 1, 1) := by decide +kernel
theorem d1_20 : decode prog_62_method_9_code 20 = .ok (.lload_n 3, 1) := by decide +kernel
theorem d1_21 : decode prog_62_method_9_code 21 = .ok (.lcmp, 1) := by decide +kernel
theorem d1_22 : decode prog_62_method_9_code 22 = .ok (.ifCond .ge 18, 3) := by decide +kernel
theorem d1_25 : decode prog_62_method_9_code 25 = .ok (.aload_n 0, 1) := by decide +kernel
theorem d1_26 : decode prog_62_method_9_code 26 = .ok (.getfield 46, 3) := by decide +kernel
theorem d1_29 : decode prog_62_method_9_code 29 = .ok (.ifCond .ne 7, 3) := by decide +kernel
theorem d1_32 : decode prog_62_method_9_code 32 = .ok (.iconst 1, 1) := by decide +kernel
theorem d1_33 : decode prog_62_method_9_code 33 = .ok (.goto 19, 3) := by decide +kernel
theorem d1_52 : decode prog_62_method_9_code 52 = .ok (.ireturn, 1) := by decide +kernel
theorem ef_1_RJJ (m : MethodId) (x0 : Addr) (x1 : Int64) (x2 : Int64) : entryFrame m #[(.ref x0), (.long x1), (.long x2)] 5 = mkF m 0 #[.val (.ref x0), .val (.long x1), .second, .val (.long x2), .second] [] := by first | (simp [entryFrame, mkF, argsToLocals, Value.category]; done) | rfl
theorem pn_com_example_punctual_proof_punctualproof_network_Comparison : plainName "com/example/punctual_proof/punctualproof/network/Comparison" = true := by first | (simp [plainName, overriddenIn]; done) | decide +kernel
theorem pd_0 : parseMethodDescriptor "(JJ)Z" = some ⟨[.long, .long], some .boolean⟩ := by decide +kernel
theorem d1_6 : decode prog_62_method_9_code 6 = .ok (.aload_n 0, 1) := by decide +kernel
theorem d1_7 : decode prog_62_method_9_code 7 = .ok (.getfield 49, 3) := by decide +kernel
theorem d1_10 : decode prog_62_method_9_code 10 = .ok (.ifCond .ne 7, 3) := by decide +kernel
theorem d1_17 : decode prog_62_method_9_code 17 = .ok (.iconst 0, 1) := by decide +kernel
theorem d1_18 : decode prog_62_method_9_code 18 = .ok (.ireturn, 1) := by decide +kernel
theorem d1_40 : decode prog_62_method_9_code 40 = .ok (.aload_n 0, 1) := by decide +kernel
theorem d1_41 : decode prog_62_method_9_code 41 = .ok (.getfield 42, 3) := by decide +kernel
theorem d1_44 : decode prog_62_method_9_code 44 = .ok (.ifCond .ne 7, 3) := by decide +kernel
theorem d1_51 : decode prog_62_method_9_code 51 = .ok (.iconst 0, 1) := by decide +kernel
theorem d1_13 : decode prog_62_method_9_code 13 = .ok (.iconst 1, 1) := by decide +kernel
theorem d1_14 : decode prog_62_method_9_code 14 = .ok (.goto 4, 3) := by decide +kernel
theorem d1_36 : decode prog_62_method_9_code 36 = .ok (.iconst 0, 1) := by decide +kernel
theorem d1_37 : decode prog_62_method_9_code 37 = .ok (.goto 15, 3) := by decide +kernel
theorem d1_47 : decode prog_62_method_9_code 47 = .ok (.iconst 1, 1) := by decide +kernel
theorem d1_48 : decode prog_62_method_9_code 48 = .ok (.goto 4, 3) := by decide +kernel
theorem ef_0_IJJI (m : MethodId) (x0 : Int32) (x1 : Int64) (x2 : Int64) (x3 : Int32) : entryFrame m #[(.int x0), (.long x1), (.long x2), (.int x3)] maxLocals = mkF m 0 #[.val (.int x0), .val (.long x1), .second, .val (.long x2), .second, .val (.int x3), .unset, .unset, .unset, .unset, .unset, .unset] [] := by first | (simp [entryFrame, mkF, argsToLocals, Value.category, maxLocals]; done) | rfl
theorem pn_com_example_punctual_proof_punctualproof_network_ComparisonHoldsPinLaw : plainName "com/example/punctual_proof/punctualproof/network/ComparisonHoldsPinLaw" = true := by first | (simp [plainName, overriddenIn]; done) | decide +kernel
/-- what the case pins of the constants -/
def Pins (Z : State) (h : Heap) (w : Nat → Addr) : Prop := Exa Z h (w 0) "com/example/punctual_proof/punctualproof/network/Comparison" ∧ Sta Z h "com/example/punctual_proof/punctualproof/network/Comparison" "LESS" "Lcom/example/punctual_proof/punctualproof/network/Comparison;" (.ref (w 0)) ∧ Fld Z h (w 0) "com/example/punctual_proof/punctualproof/network/Comparison" "boundsAbove" "Z" (.int (1 : Int32)) ∧ Exa Z h (w 1) "com/example/punctual_proof/punctualproof/network/Comparison" ∧ Sta Z h "com/example/punctual_proof/punctualproof/network/Comparison" "LESS_EQUAL" "Lcom/example/punctual_proof/punctualproof/network/Comparison;" (.ref (w 1)) ∧ Fld Z h (w 1) "com/example/punctual_proof/punctualproof/network/Comparison" "strict" "Z" (.int (0 : Int32)) ∧ Fld Z h (w 0) "com/example/punctual_proof/punctualproof/network/Comparison" "strict" "Z" (.int (1 : Int32)) ∧ Fld Z h (w 0) "com/example/punctual_proof/punctualproof/network/Comparison" "boundsBelow" "Z" (.int (0 : Int32)) ∧ Exa Z h (w 2) "com/example/punctual_proof/punctualproof/network/Comparison" ∧ Sta Z h "com/example/punctual_proof/punctualproof/network/Comparison" "EQUAL" "Lcom/example/punctual_proof/punctualproof/network/Comparison;" (.ref (w 2)) ∧ Fld Z h (w 2) "com/example/punctual_proof/punctualproof/network/Comparison" "boundsBelow" "Z" (.int (1 : Int32)) ∧ Fld Z h (w 1) "com/example/punctual_proof/punctualproof/network/Comparison" "boundsAbove" "Z" (.int (1 : Int32)) ∧ Fld Z h (w 2) "com/example/punctual_proof/punctualproof/network/Comparison" "boundsAbove" "Z" (.int (1 : Int32)) ∧ Exa Z h (w 3) "com/example/punctual_proof/punctualproof/network/Comparison" ∧ Sta Z h "com/example/punctual_proof/punctualproof/network/Comparison" "GREATER_EQUAL" "Lcom/example/punctual_proof/punctualproof/network/Comparison;" (.ref (w 3)) ∧ Fld Z h (w 3) "com/example/punctual_proof/punctualproof/network/Comparison" "strict" "Z" (.int (0 : Int32)) ∧ Fld Z h (w 1) "com/example/punctual_proof/punctualproof/network/Comparison" "boundsBelow" "Z" (.int (0 : Int32)) ∧ Fld Z h (w 2) "com/example/punctual_proof/punctualproof/network/Comparison" "strict" "Z" (.int (0 : Int32)) ∧ Exa Z h (w 4) "com/example/punctual_proof/punctualproof/network/Comparison" ∧ Sta Z h "com/example/punctual_proof/punctualproof/network/Comparison" "GREATER" "Lcom/example/punctual_proof/punctualproof/network/Comparison;" (.ref (w 4)) ∧ Fld Z h (w 4) "com/example/punctual_proof/punctualproof/network/Comparison" "boundsAbove" "Z" (.int (0 : Int32)) ∧ Fld Z h (w 4) "com/example/punctual_proof/punctualproof/network/Comparison" "boundsBelow" "Z" (.int (1 : Int32)) ∧ Fld Z h (w 3) "com/example/punctual_proof/punctualproof/network/Comparison" "boundsBelow" "Z" (.int (1 : Int32)) ∧ Fld Z h (w 3) "com/example/punctual_proof/punctualproof/network/Comparison" "boundsAbove" "Z" (.int (0 : Int32)) ∧ Fld Z h (w 4) "com/example/punctual_proof/punctualproof/network/Comparison" "strict" "Z" (.int (1 : Int32))
theorem pin_E0 {Z : State} {h : Heap} {w : Nat → Addr} (P : Pins Z h w) : Exa Z h (w 0) "com/example/punctual_proof/punctualproof/network/Comparison" := P.1
theorem pin_S0 {Z : State} {h : Heap} {w : Nat → Addr} (P : Pins Z h w) : Sta Z h "com/example/punctual_proof/punctualproof/network/Comparison" "LESS" "Lcom/example/punctual_proof/punctualproof/network/Comparison;" (.ref (w 0)) := P.2.1
theorem pin_F0_boundsAbove {Z : State} {h : Heap} {w : Nat → Addr} (P : Pins Z h w) : Fld Z h (w 0) "com/example/punctual_proof/punctualproof/network/Comparison" "boundsAbove" "Z" (.int (1 : Int32)) := P.2.2.1
theorem pin_E1 {Z : State} {h : Heap} {w : Nat → Addr} (P : Pins Z h w) : Exa Z h (w 1) "com/example/punctual_proof/punctualproof/network/Comparison" := P.2.2.2.1
theorem pin_S1 {Z : State} {h : Heap} {w : Nat → Addr} (P : Pins Z h w) : Sta Z h "com/example/punctual_proof/punctualproof/network/Comparison" "LESS_EQUAL" "Lcom/example/punctual_proof/punctualproof/network/Comparison;" (.ref (w 1)) := P.2.2.2.2.1
theorem pin_F1_strict {Z : State} {h : Heap} {w : Nat → Addr} (P : Pins Z h w) : Fld Z h (w 1) "com/example/punctual_proof/punctualproof/network/Comparison" "strict" "Z" (.int (0 : Int32)) := P.2.2.2.2.2.1
theorem pin_F0_strict {Z : State} {h : Heap} {w : Nat → Addr} (P : Pins Z h w) : Fld Z h (w 0) "com/example/punctual_proof/punctualproof/network/Comparison" "strict" "Z" (.int (1 : Int32)) := P.2.2.2.2.2.2.1
theorem pin_F0_boundsBelow {Z : State} {h : Heap} {w : Nat → Addr} (P : Pins Z h w) : Fld Z h (w 0) "com/example/punctual_proof/punctualproof/network/Comparison" "boundsBelow" "Z" (.int (0 : Int32)) := P.2.2.2.2.2.2.2.1
theorem pin_E2 {Z : State} {h : Heap} {w : Nat → Addr} (P : Pins Z h w) : Exa Z h (w 2) "com/example/punctual_proof/punctualproof/network/Comparison" := P.2.2.2.2.2.2.2.2.1
theorem pin_S2 {Z : State} {h : Heap} {w : Nat → Addr} (P : Pins Z h w) : Sta Z h "com/example/punctual_proof/punctualproof/network/Comparison" "EQUAL" "Lcom/example/punctual_proof/punctualproof/network/Comparison;" (.ref (w 2)) := P.2.2.2.2.2.2.2.2.2.1
theorem pin_F2_boundsBelow {Z : State} {h : Heap} {w : Nat → Addr} (P : Pins Z h w) : Fld Z h (w 2) "com/example/punctual_proof/punctualproof/network/Comparison" "boundsBelow" "Z" (.int (1 : Int32)) := P.2.2.2.2.2.2.2.2.2.2.1
theorem pin_F1_boundsAbove {Z : State} {h : Heap} {w : Nat → Addr} (P : Pins Z h w) : Fld Z h (w 1) "com/example/punctual_proof/punctualproof/network/Comparison" "boundsAbove" "Z" (.int (1 : Int32)) := P.2.2.2.2.2.2.2.2.2.2.2.1
theorem pin_F2_boundsAbove {Z : State} {h : Heap} {w : Nat → Addr} (P : Pins Z h w) : Fld Z h (w 2) "com/example/punctual_proof/punctualproof/network/Comparison" "boundsAbove" "Z" (.int (1 : Int32)) := P.2.2.2.2.2.2.2.2.2.2.2.2.1
theorem pin_E3 {Z : State} {h : Heap} {w : Nat → Addr} (P : Pins Z h w) : Exa Z h (w 3) "com/example/punctual_proof/punctualproof/network/Comparison" := P.2.2.2.2.2.2.2.2.2.2.2.2.2.1
theorem pin_S3 {Z : State} {h : Heap} {w : Nat → Addr} (P : Pins Z h w) : Sta Z h "com/example/punctual_proof/punctualproof/network/Comparison" "GREATER_EQUAL" "Lcom/example/punctual_proof/punctualproof/network/Comparison;" (.ref (w 3)) := P.2.2.2.2.2.2.2.2.2.2.2.2.2.2.1
theorem pin_F3_strict {Z : State} {h : Heap} {w : Nat → Addr} (P : Pins Z h w) : Fld Z h (w 3) "com/example/punctual_proof/punctualproof/network/Comparison" "strict" "Z" (.int (0 : Int32)) := P.2.2.2.2.2.2.2.2.2.2.2.2.2.2.2.1
theorem pin_F1_boundsBelow {Z : State} {h : Heap} {w : Nat → Addr} (P : Pins Z h w) : Fld Z h (w 1) "com/example/punctual_proof/punctualproof/network/Comparison" "boundsBelow" "Z" (.int (0 : Int32)) := P.2.2.2.2.2.2.2.2.2.2.2.2.2.2.2.2.1
theorem pin_F2_strict {Z : State} {h : Heap} {w : Nat → Addr} (P : Pins Z h w) : Fld Z h (w 2) "com/example/punctual_proof/punctualproof/network/Comparison" "strict" "Z" (.int (0 : Int32)) := P.2.2.2.2.2.2.2.2.2.2.2.2.2.2.2.2.2.1
theorem pin_E4 {Z : State} {h : Heap} {w : Nat → Addr} (P : Pins Z h w) : Exa Z h (w 4) "com/example/punctual_proof/punctualproof/network/Comparison" := P.2.2.2.2.2.2.2.2.2.2.2.2.2.2.2.2.2.2.1
theorem pin_S4 {Z : State} {h : Heap} {w : Nat → Addr} (P : Pins Z h w) : Sta Z h "com/example/punctual_proof/punctualproof/network/Comparison" "GREATER" "Lcom/example/punctual_proof/punctualproof/network/Comparison;" (.ref (w 4)) := P.2.2.2.2.2.2.2.2.2.2.2.2.2.2.2.2.2.2.2.1
theorem pin_F4_boundsAbove {Z : State} {h : Heap} {w : Nat → Addr} (P : Pins Z h w) : Fld Z h (w 4) "com/example/punctual_proof/punctualproof/network/Comparison" "boundsAbove" "Z" (.int (0 : Int32)) := P.2.2.2.2.2.2.2.2.2.2.2.2.2.2.2.2.2.2.2.2.1
theorem pin_F4_boundsBelow {Z : State} {h : Heap} {w : Nat → Addr} (P : Pins Z h w) : Fld Z h (w 4) "com/example/punctual_proof/punctualproof/network/Comparison" "boundsBelow" "Z" (.int (1 : Int32)) := P.2.2.2.2.2.2.2.2.2.2.2.2.2.2.2.2.2.2.2.2.2.1
theorem pin_F3_boundsBelow {Z : State} {h : Heap} {w : Nat → Addr} (P : Pins Z h w) : Fld Z h (w 3) "com/example/punctual_proof/punctualproof/network/Comparison" "boundsBelow" "Z" (.int (1 : Int32)) := P.2.2.2.2.2.2.2.2.2.2.2.2.2.2.2.2.2.2.2.2.2.2.1
theorem pin_F3_boundsAbove {Z : State} {h : Heap} {w : Nat → Addr} (P : Pins Z h w) : Fld Z h (w 3) "com/example/punctual_proof/punctualproof/network/Comparison" "boundsAbove" "Z" (.int (0 : Int32)) := P.2.2.2.2.2.2.2.2.2.2.2.2.2.2.2.2.2.2.2.2.2.2.2.1
theorem pin_F4_strict {Z : State} {h : Heap} {w : Nat → Addr} (P : Pins Z h w) : Fld Z h (w 4) "com/example/punctual_proof/punctualproof/network/Comparison" "strict" "Z" (.int (1 : Int32)) := P.2.2.2.2.2.2.2.2.2.2.2.2.2.2.2.2.2.2.2.2.2.2.2.2
theorem Pins.ext {Z : State} {h h' : Heap} {w : Nat → Addr} (E : Ext h h') (P : Pins Z h w) : Pins Z h' w := ⟨Exa.ext E (pin_E0 P), Sta.ext E (pin_S0 P), Fld.ext E (pin_F0_boundsAbove P), Exa.ext E (pin_E1 P), Sta.ext E (pin_S1 P), Fld.ext E (pin_F1_strict P), Fld.ext E (pin_F0_strict P), Fld.ext E (pin_F0_boundsBelow P), Exa.ext E (pin_E2 P), Sta.ext E (pin_S2 P), Fld.ext E (pin_F2_boundsBelow P), Fld.ext E (pin_F1_boundsAbove P), Fld.ext E (pin_F2_boundsAbove P), Exa.ext E (pin_E3 P), Sta.ext E (pin_S3 P), Fld.ext E (pin_F3_strict P), Fld.ext E (pin_F1_boundsBelow P), Fld.ext E (pin_F2_strict P), Exa.ext E (pin_E4 P), Sta.ext E (pin_S4 P), Fld.ext E (pin_F4_boundsAbove P), Fld.ext E (pin_F4_boundsBelow P), Fld.ext E (pin_F3_boundsBelow P), Fld.ext E (pin_F3_boundsAbove P), Fld.ext E (pin_F4_strict P)⟩
set_option maxRecDepth 65536 in
theorem own_pins {s : State} {args : Array Value} (hw : ∀ d ∈ tables_1, d.before args s = true) (hn : narrow_1.value args s none s [] = some true) : ∃ w, Pins s s.heap w := by
  obtain ⟨c0, hn⟩ := and_e hn
  obtain ⟨c1, hn⟩ := and_e hn
  obtain ⟨c2, hn⟩ := and_e hn
  obtain ⟨c3, hn⟩ := and_e hn
  obtain ⟨c4, hn⟩ := and_e hn
  obtain ⟨c5, hn⟩ := and_e hn
  obtain ⟨c6, hn⟩ := and_e hn
  obtain ⟨c7, hn⟩ := and_e hn
  obtain ⟨c8, hn⟩ := and_e hn
  obtain ⟨c9, hn⟩ := and_e hn
  obtain ⟨c10, hn⟩ := and_e hn
  obtain ⟨c11, hn⟩ := and_e hn
  obtain ⟨c12, hn⟩ := and_e hn
  obtain ⟨c13, hn⟩ := and_e hn
  obtain ⟨c14, hn⟩ := and_e hn
  obtain ⟨c15, hn⟩ := and_e hn
  obtain ⟨c16, hn⟩ := and_e hn
  obtain ⟨c17, hn⟩ := and_e hn
  obtain ⟨c18, hn⟩ := and_e hn
  have c19 := hn
  obtain ⟨a0, ev0⟩ := exa_v c0
  obtain ⟨a1, ev1⟩ := exa_v c2
  obtain ⟨a2, ev2⟩ := exa_v c6
  obtain ⟨a3, ev3⟩ := exa_v c10
  obtain ⟨a4, ev4⟩ := exa_v c14
  have E0 := Exa.start ev0 c0
  have S0 := Sta.start ev0 (Or.inr ⟨(hw _ (List.mem_of_getElem? (i := 2) rfl)), (hw _ (List.mem_of_getElem? (i := 3) rfl))⟩)
  have F0_boundsAbove := own_fldI ev0 c1
  have E1 := Exa.start ev1 c2
  have S1 := Sta.start ev1 (Or.inr ⟨(hw _ (List.mem_of_getElem? (i := 2) rfl)), (hw _ (List.mem_of_getElem? (i := 12) rfl))⟩)
  have F1_strict := own_fldI ev1 c3
  have F0_strict := own_fldI ev0 c4
  have F0_boundsBelow := own_fldI ev0 c5
  have E2 := Exa.start ev2 c6
  have S2 := Sta.start ev2 (Or.inr ⟨(hw _ (List.mem_of_getElem? (i := 2) rfl)), (hw _ (List.mem_of_getElem? (i := 18) rfl))⟩)
  have F2_boundsBelow := own_fldI ev2 c7
  have F1_boundsAbove := own_fldI ev1 c8
  have F2_boundsAbove := own_fldI ev2 c9
  have E3 := Exa.start ev3 c10
  have S3 := Sta.start ev3 (Or.inr ⟨(hw _ (List.mem_of_getElem? (i := 2) rfl)), (hw _ (List.mem_of_getElem? (i := 20) rfl))⟩)
  have F3_strict := own_fldI ev3 c11
  have F1_boundsBelow := own_fldI ev1 c12
  have F2_strict := own_fldI ev2 c13
  have E4 := Exa.start ev4 c14
  have S4 := Sta.start ev4 (Or.inr ⟨(hw _ (List.mem_of_getElem? (i := 2) rfl)), (hw _ (List.mem_of_getElem? (i := 22) rfl))⟩)
  have F4_boundsAbove := own_fldI ev4 c15
  have F4_boundsBelow := own_fldI ev4 c16
  have F3_boundsBelow := own_fldI ev3 c17
  have F3_boundsAbove := own_fldI ev3 c18
  have F4_strict := own_fldI ev4 c19
  exact ⟨fun i => [a0, a1, a2, a3, a4].getD i 0, E0, S0, F0_boundsAbove, E1, S1, F1_strict, F0_strict, F0_boundsBelow, E2, S2, F2_boundsBelow, F1_boundsAbove, F2_boundsAbove, E3, S3, F3_strict, F1_boundsBelow, F2_strict, E4, S4, F4_boundsAbove, F4_boundsBelow, F3_boundsBelow, F3_boundsAbove, F4_strict⟩
set_option maxRecDepth 65536 in
set_option maxHeartbeats 40000000 in
theorem rm1_w0_m (l : Launch) (Z : State) (a0 : Array Value) (hw : ∀ d ∈ tables_1, d.before a0 Z = true) (ws : List Jvm.Cond) (v b : Int64) (hl : lcmpW v b = (-1 : Int32)) (w : Nat → Addr) (h0 : Heap) (n0 : Nat) (Z0 : n0 ≤ h0.size) (P : Pins Z h0 w) :
    MetFree l (⟨"com/example/punctual_proof/punctualproof/network/Comparison", "holds", "(JJ)Z"⟩ : MethodName) (head1 (Jvm.Cond.code (⟨"com/example/punctual_proof/punctualproof/network/Comparison", "holds", "(JJ)Z"⟩ : MethodName) prog_62_method_9_code 5 (some .boolean) :: ws) ({ frames := 0, cells := 0, slots := 0, locals := 0 } : Room)) (fun a U => a = #[(.ref (w 0)), (.long v), (.long b)] ∧ Z.Warmed39 U.vm ∧ U.heap = h0) (fun _ _ _ _ _ => True) (fun _ U o U' => ∃ v L, o = .returned v ∧ own_QK (some (.int (1 : Int32))) h0 n0 v U'.heap L ∧ FrameEnd U o U' L ({ frames := 0, cells := 0, slots := 0, locals := 0 } : Room).cells ({ frames := 0, cells := 0, slots := 0, locals := 0 } : Room).slots) := by
  refine MetFree.of_bodySF (plainFor_of_name pn_com_example_punctual_proof_punctualproof_network_Comparison) hisR ?_
  intro p e s m args below meth c s₁ Bd hml0 hP hK
  obtain ⟨rfl, hZ, hh⟩ := hP
  have hx := Bd.exec
  have hby := Bd.bytes
  have hml : c.maxLocals = 5 := hml0
  have hown : s.vm.findClass "com/example/punctual_proof/punctualproof/network/Comparison" = some m.cls := findClass_of_methodNamed Bd.named
  have hnm := (name_of_methodNamed Bd.named Bd.method).1
  have X0 : Stand p l e ({ frames := 0, cells := 0, slots := 0, locals := 0 } : Room) s m #[(.ref (w 0)), (.long v), (.long b)] below meth c s₁ [] 0 0 := Stand.of_body Bd
  have e0 : s₁.heap = h0 := by rw [← hh, Bd.state]; rfl
  have N0 := Fr.nil n0
  refine own_enter (ef_1_RJJ m (w 0) v b) ?_
  refine own_step (W' := s₁.setTop (mkF m 1 #[.val (.ref (w 0)), .val (.long v), .second, .val (.long b), .second] [(.long v)])) (fun _ k => XS.lloadN X0.here hx rfl (hb hby d1_0) rfl k) ?_
  refine own_step (W' := s₁.setTop (mkF m 2 #[.val (.ref (w 0)), .val (.long v), .second, .val (.long b), .second] [(.long b), (.long v)])) (fun _ k => XS.lloadN X0.here hx rfl (hb hby d1_1) rfl k) ?_
  refine own_step (W' := s₁.setTop (mkF m 3 #[.val (.ref (w 0)), .val (.long v), .second, .val (.long b), .second] [(.int (lcmpW v b))])) (fun _ k => XS.lcmp X0.here hx rfl (hb hby d1_2) rfl k) ?_
  rw [hl]
  refine own_step (W' := s₁.setTop (mkF m 19 #[.val (.ref (w 0)), .val (.long v), .second, .val (.long b), .second] [])) (fun _ k => XS.ifYes X0.here hx rfl (pc0 := 3) (pc' := 19) rfl (hb hby d1_3) rfl (by decide) (by decide) (by decide) k) ?_
  refine own_step (W' := s₁.setTop (mkF m 20 #[.val (.ref (w 0)), .val (.long v), .second, .val (.long b), .second] [(.long v)])) (fun _ k => XS.lloadN X0.here hx rfl (hb hby d1_19) rfl k) ?_
  refine own_step (W' := s₁.setTop (mkF m 21 #[.val (.ref (w 0)), .val (.long v), .second, .val (.long b), .second] [(.long b), (.long v)])) (fun _ k => XS.lloadN X0.here hx rfl (hb hby d1_20) rfl k) ?_
  refine own_step (W' := s₁.setTop (mkF m 22 #[.val (.ref (w 0)), .val (.long v), .second, .val (.long b), .second] [(.int (lcmpW v b))])) (fun _ k => XS.lcmp X0.here hx rfl (hb hby d1_21) rfl k) ?_
  rw [hl]
  refine own_step (W' := s₁.setTop (mkF m 25 #[.val (.ref (w 0)), .val (.long v), .second, .val (.long b), .second] [])) (fun _ k => XS.ifNo X0.here hx rfl (hb hby d1_22) rfl (by decide) k) ?_
  refine own_step (W' := s₁.setTop (mkF m 26 #[.val (.ref (w 0)), .val (.long v), .second, .val (.long b), .second] [(.ref (w 0))])) (fun _ k => XS.aloadN X0.here hx rfl (hb hby d1_25) rfl rfl k) ?_
  obtain ⟨T1, X1, e1, st1⟩ := getF X0 hx hZ hown (host := "") (Or.inl (hw _ (List.mem_of_getElem? (i := 15) rfl))) Via.refl e0 (pin_F0_boundsBelow P) (g := (mkF m 26 #[.val (.ref (w 0)), .val (.long v), .second, .val (.long b), .second] [(.ref (w 0))])) rfl rfl (hb hby d1_26)
  refine own_step (W' := T1.setTop (mkF m 29 #[.val (.ref (w 0)), .val (.long v), .second, .val (.long b), .second] [(.int (0 : Int32))])) (fun _ k => st1 _ k) ?_
  refine own_step (W' := T1.setTop (mkF m 32 #[.val (.ref (w 0)), .val (.long v), .second, .val (.long b), .second] [])) (fun _ k => XS.ifNo X1.here hx rfl (hb hby d1_29) rfl (by decide) k) ?_
  refine own_step (W' := T1.setTop (mkF m 33 #[.val (.ref (w 0)), .val (.long v), .second, .val (.long b), .second] [(.int (1 : Int32))])) (fun _ k => XS.iconst X1.here hx rfl (hb hby d1_32) k) ?_
  refine own_step (W' := T1.setTop (mkF m 52 #[.val (.ref (w 0)), .val (.long v), .second, .val (.long b), .second] [(.int (1 : Int32))])) (fun _ k => XS.goto X1.here hx rfl (pc0 := 33) (pc' := 52) rfl (hb hby d1_33) (by decide) (by decide) k) ?_
  exact own_ret X1 Bd.notSynchronized Bd.returns (v := (.int (1 : Int32))) (fun fs hr => retN X1 hx (t := .boolean) Bd.returns (by simp) (hb hby d1_52) hr) ⟨rfl, N0, e1⟩ (by decide) (by decide)
set_option maxRecDepth 65536 in
set_option maxHeartbeats 40000000 in
theorem own_tail_0_m {p : Program} {l : Launch} {e : Env} {s : State} {m : MethodId} {args : Array Value} {below : List Frame} {meth : Method} {c : Code} {s₁ : State} {Z : State} {a0 : Array Value} {h0 : Heap} {n0 : Nat} {w : Nat → Addr} (p1 p4 i7 : Int32) (v b0 b : Int64) (hl : lcmpW v b = (-1 : Int32))
    (X0 : Stand p l e room_1 s m args below meth c s₁ [] 0 0) (hx : p.tables.exec = Jvm.exec) (hZ : Z.Warmed39 s.vm) (hw : ∀ d ∈ tables_1, d.before a0 Z = true) (hby : c.code = code) (hml : c.maxLocals = 12) (hown : s.vm.findClass "com/example/punctual_proof/punctualproof/network/ComparisonHoldsPinLaw" = some m.cls) (e0 : s₁.heap = h0) (N0 : Fr n0 []) (Z0 : n0 ≤ h0.size) (P : Pins Z h0 w) (hlk : meth.locks = false) (hret : meth.sig.returnType = ret) :
    own_Done p e below (s₁.setTop (mkF m 54 #[.val (.int p1), .val (.long v), .second, .val (.long b0), .second, .val (.int p4), .val (.int (0 : Int32)), .val (.int i7), .val (.long b), .second, .unset, .unset] [])) (fun o U' => ∃ v L, o = .returned v ∧ own_Q0 n0 v U'.heap L ∧ FrameEnd s o U' L room_1.cells room_1.slots) := by
  refine own_step (W' := s₁.setTop (mkF m 56 #[.val (.int p1), .val (.long v), .second, .val (.long b0), .second, .val (.int p4), .val (.int (0 : Int32)), .val (.int i7), .val (.long b), .second, .unset, .unset] [(.int (0 : Int32))])) (fun _ k => XS.iload X0.here hx rfl (hb hby at_54) rfl k) ?_
  refine own_step (W' := s₁.setTop (mkF m 59 #[.val (.int p1), .val (.long v), .second, .val (.long b0), .second, .val (.int p4), .val (.int (0 : Int32)), .val (.int i7), .val (.long b), .second, .unset, .unset] [])) (fun _ k => XS.ifNo X0.here hx rfl (hb hby at_56) rfl (by decide) k) ?_
  obtain ⟨T1, X1, e1, st1⟩ := getS2 X0 hx hZ hown (host := "") (Or.inl (hw _ (List.mem_of_getElem? (i := 1) rfl))) Via.refl e0 (pin_S0 P) (g := (mkF m 59 #[.val (.int p1), .val (.long v), .second, .val (.long b0), .second, .val (.int p4), .val (.int (0 : Int32)), .val (.int i7), .val (.long b), .second, .unset, .unset] [])) rfl (hb hby at_59)
  refine own_step (W' := T1.setTop (mkF m 62 #[.val (.int p1), .val (.long v), .second, .val (.long b0), .second, .val (.int p4), .val (.int (0 : Int32)), .val (.int i7), .val (.long b), .second, .unset, .unset] [(.ref (w 0))])) (fun _ k => st1 _ k) ?_
  refine own_step (W' := T1.setTop (mkF m 64 #[.val (.int p1), .val (.long v), .second, .val (.long b0), .second, .val (.int p4), .val (.int (0 : Int32)), .val (.int i7), .val (.long b), .second, .val (.ref (w 0)), .unset] [])) (fun _ k => XS.astore X1.here hx rfl (hb hby at_62) rfl rfl (l' := #[.val (.int p1), .val (.long v), .second, .val (.long b0), .second, .val (.int p4), .val (.int (0 : Int32)), .val (.int i7), .val (.long b), .second, .val (.ref (w 0)), .unset]) rfl k) ?_
  refine own_step (W' := T1.setTop (mkF m 65 #[.val (.int p1), .val (.long v), .second, .val (.long b0), .second, .val (.int p4), .val (.int (0 : Int32)), .val (.int i7), .val (.long b), .second, .val (.ref (w 0)), .unset] [(.long v)])) (fun _ k => XS.lloadN X1.here hx rfl (hb hby at_64) rfl k) ?_
  refine own_step (W' := T1.setTop (mkF m 67 #[.val (.int p1), .val (.long v), .second, .val (.long b0), .second, .val (.int p4), .val (.int (0 : Int32)), .val (.int i7), .val (.long b), .second, .val (.ref (w 0)), .unset] [(.long b), (.long v)])) (fun _ k => XS.lload X1.here hx rfl (hb hby at_65) rfl k) ?_
  refine own_step (W' := T1.setTop (mkF m 68 #[.val (.int p1), .val (.long v), .second, .val (.long b0), .second, .val (.int p4), .val (.int (0 : Int32)), .val (.int i7), .val (.long b), .second, .val (.ref (w 0)), .unset] [(.int (lcmpW v b))])) (fun _ k => XS.lcmp X1.here hx rfl (hb hby at_67) rfl k) ?_
  rw [hl]
  refine own_step (W' := T1.setTop (mkF m 71 #[.val (.int p1), .val (.long v), .second, .val (.long b0), .second, .val (.int p4), .val (.int (0 : Int32)), .val (.int i7), .val (.long b), .second, .val (.ref (w 0)), .unset] [])) (fun _ k => XS.ifNo X1.here hx rfl (hb hby at_68) rfl (by decide) k) ?_
  refine own_step (W' := T1.setTop (mkF m 72 #[.val (.int p1), .val (.long v), .second, .val (.long b0), .second, .val (.int p4), .val (.int (0 : Int32)), .val (.int i7), .val (.long b), .second, .val (.ref (w 0)), .unset] [(.int (1 : Int32))])) (fun _ k => XS.iconst X1.here hx rfl (hb hby at_71) k) ?_
  refine own_step (W' := T1.setTop (mkF m 76 #[.val (.int p1), .val (.long v), .second, .val (.long b0), .second, .val (.int p4), .val (.int (0 : Int32)), .val (.int i7), .val (.long b), .second, .val (.ref (w 0)), .unset] [(.int (1 : Int32))])) (fun _ k => XS.goto X1.here hx rfl (pc0 := 72) (pc' := 76) rfl (hb hby at_72) (by decide) (by decide) k) ?_
  refine own_step (W' := T1.setTop (mkF m 78 #[.val (.int p1), .val (.long v), .second, .val (.long b0), .second, .val (.int p4), .val (.int (0 : Int32)), .val (.int i7), .val (.long b), .second, .val (.ref (w 0)), .val (.int (1 : Int32))] [])) (fun _ k => XS.istore X1.here hx rfl (hb hby at_76) rfl (l' := #[.val (.int p1), .val (.long v), .second, .val (.long b0), .second, .val (.int p4), .val (.int (0 : Int32)), .val (.int i7), .val (.long b), .second, .val (.ref (w 0)), .val (.int (1 : Int32))]) rfl k) ?_
  refine own_step (W' := T1.setTop (mkF m 184 #[.val (.int p1), .val (.long v), .second, .val (.long b0), .second, .val (.int p4), .val (.int (0 : Int32)), .val (.int i7), .val (.long b), .second, .val (.ref (w 0)), .val (.int (1 : Int32))] [])) (fun _ k => XS.goto X1.here hx rfl (pc0 := 78) (pc' := 184) rfl (hb hby at_78) (by decide) (by decide) k) ?_
  refine own_step (W' := T1.setTop (mkF m 186 #[.val (.int p1), .val (.long v), .second, .val (.long b0), .second, .val (.int p4), .val (.int (0 : Int32)), .val (.int i7), .val (.long b), .second, .val (.ref (w 0)), .val (.int (1 : Int32))] [(.ref (w 0))])) (fun _ k => XS.aload X1.here hx rfl (hb hby at_184) rfl rfl k) ?_
  refine own_step (W' := T1.setTop (mkF m 187 #[.val (.int p1), .val (.long v), .second, .val (.long b0), .second, .val (.int p4), .val (.int (0 : Int32)), .val (.int i7), .val (.long b), .second, .val (.ref (w 0)), .val (.int (1 : Int32))] [(.long v), (.ref (w 0))])) (fun _ k => XS.lloadN X1.here hx rfl (hb hby at_186) rfl k) ?_
  refine own_step (W' := T1.setTop (mkF m 189 #[.val (.int p1), .val (.long v), .second, .val (.long b0), .second, .val (.int p4), .val (.int (0 : Int32)), .val (.int i7), .val (.long b), .second, .val (.ref (w 0)), .val (.int (1 : Int32))] [(.long b), (.long v), (.ref (w 0))])) (fun _ k => XS.lload X1.here hx rfl (hb hby at_187) rfl k) ?_
  obtain ⟨cq2, kq2, q2a, q2b, q2c⟩ := isOf hZ e1 (pin_E0 P)
  obtain ⟨_, _, ⟨T2, L2, k2, n2⟩, -, X2, ⟨Lc2, hQ2, l2, y2, z2⟩, st2⟩ := X1.virtualBack hx (y := (⟨"com/example/punctual_proof/punctualproof/network/Comparison", "holds", "(JJ)Z"⟩ : MethodName)) (z := (⟨"com/example/punctual_proof/punctualproof/network/Comparison", "holds", "(JJ)Z"⟩ : MethodName)) hown (mvT hZ (hw _ (List.mem_of_getElem? (i := 4) rfl))) (mvT hZ (hw _ (List.mem_of_getElem? (i := 5) rfl))) (notFace_of_selects (args := #[]) (mvT hZ (hw _ (List.mem_of_getElem? (i := 7) rfl)))) (mvT hZ (hw _ (List.mem_of_getElem? (i := 7) rfl))) (mvT hZ (hw _ (List.mem_of_getElem? (i := 6) rfl))) (by decide) (backOf (W := 0) (rm1_w0_m l Z a0 hw [] v b hl w h0 n0 Z0 P) hZ (hw _ (List.mem_of_getElem? (i := 8) rfl)) (hw _ (List.mem_of_getElem? (i := 2) rfl)) (by decide) (by decide)) q2a q2c (g := (mkF m 189 #[.val (.int p1), .val (.long v), .second, .val (.long b0), .second, .val (.int p4), .val (.int (0 : Int32)), .val (.int i7), .val (.long b), .second, .val (.ref (w 0)), .val (.int (1 : Int32))] [(.long b), (.long v), (.ref (w 0))])) rfl (by rw [hml]; rfl) (Steps.refl _) (argsL := [(.long v), (.long b)]) (rest := []) (lenOf pd_0 rfl) rfl (by show 2 * 0 + _ ≤ _; exact Nat.le_of_eq rfl) (hb hby at_189) (fun _ _ => ⟨rfl, e1, (by decide : 0 + 0 ≤ _), (by decide : 0 + 0 ≤ _)⟩)
  dsimp only [Pt.U, Pt.locs, Pt.cells, Pt.slots] at X2 l2 y2 z2 st2 hQ2
  subst l2 y2 z2
  obtain ⟨rfl, N2q, e2⟩ := hQ2
  have N2 := Fr.app N0 N2q
  refine own_step (W' := T2.setTop (mkF m 192 #[.val (.int p1), .val (.long v), .second, .val (.long b0), .second, .val (.int p4), .val (.int (0 : Int32)), .val (.int i7), .val (.long b), .second, .val (.ref (w 0)), .val (.int (1 : Int32))] [(.int (1 : Int32))])) (fun _ k => st2.trans k) ?_
  refine own_step (W' := T2.setTop (mkF m 194 #[.val (.int p1), .val (.long v), .second, .val (.long b0), .second, .val (.int p4), .val (.int (0 : Int32)), .val (.int i7), .val (.long b), .second, .val (.ref (w 0)), .val (.int (1 : Int32))] [(.int (1 : Int32)), (.int (1 : Int32))])) (fun _ k => XS.iload X2.here hx rfl (hb hby at_192) rfl k) ?_
  refine own_step (W' := T2.setTop (mkF m 197 #[.val (.int p1), .val (.long v), .second, .val (.long b0), .second, .val (.int p4), .val (.int (0 : Int32)), .val (.int i7), .val (.long b), .second, .val (.ref (w 0)), .val (.int (1 : Int32))] [])) (fun _ k => XS.icmpNo X2.here hx rfl (hb hby at_194) rfl (by decide) k) ?_
  refine own_step (W' := T2.setTop (mkF m 198 #[.val (.int p1), .val (.long v), .second, .val (.long b0), .second, .val (.int p4), .val (.int (0 : Int32)), .val (.int i7), .val (.long b), .second, .val (.ref (w 0)), .val (.int (1 : Int32))] [(.int (1 : Int32))])) (fun _ k => XS.iconst X2.here hx rfl (hb hby at_197) k) ?_
  refine own_step (W' := T2.setTop (mkF m 202 #[.val (.int p1), .val (.long v), .second, .val (.long b0), .second, .val (.int p4), .val (.int (0 : Int32)), .val (.int i7), .val (.long b), .second, .val (.ref (w 0)), .val (.int (1 : Int32))] [(.int (1 : Int32))])) (fun _ k => XS.goto X2.here hx rfl (pc0 := 198) (pc' := 202) rfl (hb hby at_198) (by decide) (by decide) k) ?_
  exact own_ret X2 hlk hret (v := (.int (1 : Int32))) (fun fs hr => retN X2 hx (t := .boolean) hret (by simp) (hb hby at_202) hr) ⟨rfl, N2⟩ (by decide) (by decide)
set_option maxRecDepth 65536 in
set_option maxHeartbeats 40000000 in
theorem rm1_w0_0 (l : Launch) (Z : State) (a0 : Array Value) (hw : ∀ d ∈ tables_1, d.before a0 Z = true) (ws : List Jvm.Cond) (v b : Int64) (hl : lcmpW v b = (0 : Int32)) (w : Nat → Addr) (h0 : Heap) (n0 : Nat) (Z0 : n0 ≤ h0.size) (P : Pins Z h0 w) :
    MetFree l (⟨"com/example/punctual_proof/punctualproof/network/Comparison", "holds", "(JJ)Z"⟩ : MethodName) (head1 (Jvm.Cond.code (⟨"com/example/punctual_proof/punctualproof/network/Comparison", "holds", "(JJ)Z"⟩ : MethodName) prog_62_method_9_code 5 (some .boolean) :: ws) ({ frames := 0, cells := 0, slots := 0, locals := 0 } : Room)) (fun a U => a = #[(.ref (w 0)), (.long v), (.long b)] ∧ Z.Warmed39 U.vm ∧ U.heap = h0) (fun _ _ _ _ _ => True) (fun _ U o U' => ∃ v L, o = .returned v ∧ own_QK (some (.int (0 : Int32))) h0 n0 v U'.heap L ∧ FrameEnd U o U' L ({ frames := 0, cells := 0, slots := 0, locals := 0 } : Room).cells ({ frames := 0, cells := 0, slots := 0, locals := 0 } : Room).slots) := by
  refine MetFree.of_bodySF (plainFor_of_name pn_com_example_punctual_proof_punctualproof_network_Comparison) hisR ?_
  intro p e s m args below meth c s₁ Bd hml0 hP hK
  obtain ⟨rfl, hZ, hh⟩ := hP
  have hx := Bd.exec
  have hby := Bd.bytes
  have hml : c.maxLocals = 5 := hml0
  have hown : s.vm.findClass "com/example/punctual_proof/punctualproof/network/Comparison" = some m.cls := findClass_of_methodNamed Bd.named
  have hnm := (name_of_methodNamed Bd.named Bd.method).1
  have X0 : Stand p l e ({ frames := 0, cells := 0, slots := 0, locals := 0 } : Room) s m #[(.ref (w 0)), (.long v), (.long b)] below meth c s₁ [] 0 0 := Stand.of_body Bd
  have e0 : s₁.heap = h0 := by rw [← hh, Bd.state]; rfl
  have N0 := Fr.nil n0
  refine own_enter (ef_1_RJJ m (w 0) v b) ?_
  refine own_step (W' := s₁.setTop (mkF m 1 #[.val (.ref (w 0)), .val (.long v), .second, .val (.long b), .second] [(.long v)])) (fun _ k => XS.lloadN X0.here hx rfl (hb hby d1_0) rfl k) ?_
  refine own_step (W' := s₁.setTop (mkF m 2 #[.val (.ref (w 0)), .val (.long v), .second, .val (.long b), .second] [(.long b), (.long v)])) (fun _ k => XS.lloadN X0.here hx rfl (hb hby d1_1) rfl k) ?_
  refine own_step (W' := s₁.setTop (mkF m 3 #[.val (.ref (w 0)), .val (.long v), .second, .val (.long b), .second] [(.int (lcmpW v b))])) (fun _ k => XS.lcmp X0.here hx rfl (hb hby d1_2) rfl k) ?_
  rw [hl]
  refine own_step (W' := s₁.setTop (mkF m 6 #[.val (.ref (w 0)), .val (.long v), .second, .val (.long b), .second] [])) (fun _ k => XS.ifNo X0.here hx rfl (hb hby d1_3) rfl (by decide) k) ?_
  refine own_step (W' := s₁.setTop (mkF m 7 #[.val (.ref (w 0)), .val (.long v), .second, .val (.long b), .second] [(.ref (w 0))])) (fun _ k => XS.aloadN X0.here hx rfl (hb hby d1_6) rfl rfl k) ?_
  obtain ⟨T1, X1, e1, st1⟩ := getF X0 hx hZ hown (host := "") (Or.inl (hw _ (List.mem_of_getElem? (i := 13) rfl))) Via.refl e0 (pin_F0_strict P) (g := (mkF m 7 #[.val (.ref (w 0)), .val (.long v), .second, .val (.long b), .second] [(.ref (w 0))])) rfl rfl (hb hby d1_7)
  refine own_step (W' := T1.setTop (mkF m 10 #[.val (.ref (w 0)), .val (.long v), .second, .val (.long b), .second] [(.int (1 : Int32))])) (fun _ k => st1 _ k) ?_
  refine own_step (W' := T1.setTop (mkF m 17 #[.val (.ref (w 0)), .val (.long v), .second, .val (.long b), .second] [])) (fun _ k => XS.ifYes X1.here hx rfl (pc0 := 10) (pc' := 17) rfl (hb hby d1_10) rfl (by decide) (by decide) (by decide) k) ?_
  refine own_step (W' := T1.setTop (mkF m 18 #[.val (.ref (w 0)), .val (.long v), .second, .val (.long b), .second] [(.int (0 : Int32))])) (fun _ k => XS.iconst X1.here hx rfl (hb hby d1_17) k) ?_
  exact own_ret X1 Bd.notSynchronized Bd.returns (v := (.int (0 : Int32))) (fun fs hr => retN X1 hx (t := .boolean) Bd.returns (by simp) (hb hby d1_18) hr) ⟨rfl, N0, e1⟩ (by decide) (by decide)
set_option maxRecDepth 65536 in
set_option maxHeartbeats 40000000 in
theorem own_tail_0_0 {p : Program} {l : Launch} {e : Env} {s : State} {m : MethodId} {args : Array Value} {below : List Frame} {meth : Method} {c : Code} {s₁ : State} {Z : State} {a0 : Array Value} {h0 : Heap} {n0 : Nat} {w : Nat → Addr} (p1 p4 i7 : Int32) (v b0 b : Int64) (hl : lcmpW v b = (0 : Int32))
    (X0 : Stand p l e room_1 s m args below meth c s₁ [] 0 0) (hx : p.tables.exec = Jvm.exec) (hZ : Z.Warmed39 s.vm) (hw : ∀ d ∈ tables_1, d.before a0 Z = true) (hby : c.code = code) (hml : c.maxLocals = 12) (hown : s.vm.findClass "com/example/punctual_proof/punctualproof/network/ComparisonHoldsPinLaw" = some m.cls) (e0 : s₁.heap = h0) (N0 : Fr n0 []) (Z0 : n0 ≤ h0.size) (P : Pins Z h0 w) (hlk : meth.locks = false) (hret : meth.sig.returnType = ret) :
    own_Done p e below (s₁.setTop (mkF m 54 #[.val (.int p1), .val (.long v), .second, .val (.long b0), .second, .val (.int p4), .val (.int (0 : Int32)), .val (.int i7), .val (.long b), .second, .unset, .unset] [])) (fun o U' => ∃ v L, o = .returned v ∧ own_Q0 n0 v U'.heap L ∧ FrameEnd s o U' L room_1.cells room_1.slots) := by
  refine own_step (W' := s₁.setTop (mkF m 56 #[.val (.int p1), .val (.long v), .second, .val (.long b0), .second, .val (.int p4), .val (.int (0 : Int32)), .val (.int i7), .val (.long b), .second, .unset, .unset] [(.int (0 : Int32))])) (fun _ k => XS.iload X0.here hx rfl (hb hby at_54) rfl k) ?_
  refine own_step (W' := s₁.setTop (mkF m 59 #[.val (.int p1), .val (.long v), .second, .val (.long b0), .second, .val (.int p4), .val (.int (0 : Int32)), .val (.int i7), .val (.long b), .second, .unset, .unset] [])) (fun _ k => XS.ifNo X0.here hx rfl (hb hby at_56) rfl (by decide) k) ?_
  obtain ⟨T1, X1, e1, st1⟩ := getS2 X0 hx hZ hown (host := "") (Or.inl (hw _ (List.mem_of_getElem? (i := 1) rfl))) Via.refl e0 (pin_S0 P) (g := (mkF m 59 #[.val (.int p1), .val (.long v), .second, .val (.long b0), .second, .val (.int p4), .val (.int (0 : Int32)), .val (.int i7), .val (.long b), .second, .unset, .unset] [])) rfl (hb hby at_59)
  refine own_step (W' := T1.setTop (mkF m 62 #[.val (.int p1), .val (.long v), .second, .val (.long b0), .second, .val (.int p4), .val (.int (0 : Int32)), .val (.int i7), .val (.long b), .second, .unset, .unset] [(.ref (w 0))])) (fun _ k => st1 _ k) ?_
  refine own_step (W' := T1.setTop (mkF m 64 #[.val (.int p1), .val (.long v), .second, .val (.long b0), .second, .val (.int p4), .val (.int (0 : Int32)), .val (.int i7), .val (.long b), .second, .val (.ref (w 0)), .unset] [])) (fun _ k => XS.astore X1.here hx rfl (hb hby at_62) rfl rfl (l' := #[.val (.int p1), .val (.long v), .second, .val (.long b0), .second, .val (.int p4), .val (.int (0 : Int32)), .val (.int i7), .val (.long b), .second, .val (.ref (w 0)), .unset]) rfl k) ?_
  refine own_step (W' := T1.setTop (mkF m 65 #[.val (.int p1), .val (.long v), .second, .val (.long b0), .second, .val (.int p4), .val (.int (0 : Int32)), .val (.int i7), .val (.long b), .second, .val (.ref (w 0)), .unset] [(.long v)])) (fun _ k => XS.lloadN X1.here hx rfl (hb hby at_64) rfl k) ?_
  refine own_step (W' := T1.setTop (mkF m 67 #[.val (.int p1), .val (.long v), .second, .val (.long b0), .second, .val (.int p4), .val (.int (0 : Int32)), .val (.int i7), .val (.long b), .second, .val (.ref (w 0)), .unset] [(.long b), (.long v)])) (fun _ k => XS.lload X1.here hx rfl (hb hby at_65) rfl k) ?_
  refine own_step (W' := T1.setTop (mkF m 68 #[.val (.int p1), .val (.long v), .second, .val (.long b0), .second, .val (.int p4), .val (.int (0 : Int32)), .val (.int i7), .val (.long b), .second, .val (.ref (w 0)), .unset] [(.int (lcmpW v b))])) (fun _ k => XS.lcmp X1.here hx rfl (hb hby at_67) rfl k) ?_
  rw [hl]
  refine own_step (W' := T1.setTop (mkF m 75 #[.val (.int p1), .val (.long v), .second, .val (.long b0), .second, .val (.int p4), .val (.int (0 : Int32)), .val (.int i7), .val (.long b), .second, .val (.ref (w 0)), .unset] [])) (fun _ k => XS.ifYes X1.here hx rfl (pc0 := 68) (pc' := 75) rfl (hb hby at_68) rfl (by decide) (by decide) (by decide) k) ?_
  refine own_step (W' := T1.setTop (mkF m 76 #[.val (.int p1), .val (.long v), .second, .val (.long b0), .second, .val (.int p4), .val (.int (0 : Int32)), .val (.int i7), .val (.long b), .second, .val (.ref (w 0)), .unset] [(.int (0 : Int32))])) (fun _ k => XS.iconst X1.here hx rfl (hb hby at_75) k) ?_
  refine own_step (W' := T1.setTop (mkF m 78 #[.val (.int p1), .val (.long v), .second, .val (.long b0), .second, .val (.int p4), .val (.int (0 : Int32)), .val (.int i7), .val (.long b), .second, .val (.ref (w 0)), .val (.int (0 : Int32))] [])) (fun _ k => XS.istore X1.here hx rfl (hb hby at_76) rfl (l' := #[.val (.int p1), .val (.long v), .second, .val (.long b0), .second, .val (.int p4), .val (.int (0 : Int32)), .val (.int i7), .val (.long b), .second, .val (.ref (w 0)), .val (.int (0 : Int32))]) rfl k) ?_
  refine own_step (W' := T1.setTop (mkF m 184 #[.val (.int p1), .val (.long v), .second, .val (.long b0), .second, .val (.int p4), .val (.int (0 : Int32)), .val (.int i7), .val (.long b), .second, .val (.ref (w 0)), .val (.int (0 : Int32))] [])) (fun _ k => XS.goto X1.here hx rfl (pc0 := 78) (pc' := 184) rfl (hb hby at_78) (by decide) (by decide) k) ?_
  refine own_step (W' := T1.setTop (mkF m 186 #[.val (.int p1), .val (.long v), .second, .val (.long b0), .second, .val (.int p4), .val (.int (0 : Int32)), .val (.int i7), .val (.long b), .second, .val (.ref (w 0)), .val (.int (0 : Int32))] [(.ref (w 0))])) (fun _ k => XS.aload X1.here hx rfl (hb hby at_184) rfl rfl k) ?_
  refine own_step (W' := T1.setTop (mkF m 187 #[.val (.int p1), .val (.long v), .second, .val (.long b0), .second, .val (.int p4), .val (.int (0 : Int32)), .val (.int i7), .val (.long b), .second, .val (.ref (w 0)), .val (.int (0 : Int32))] [(.long v), (.ref (w 0))])) (fun _ k => XS.lloadN X1.here hx rfl (hb hby at_186) rfl k) ?_
  refine own_step (W' := T1.setTop (mkF m 189 #[.val (.int p1), .val (.long v), .second, .val (.long b0), .second, .val (.int p4), .val (.int (0 : Int32)), .val (.int i7), .val (.long b), .second, .val (.ref (w 0)), .val (.int (0 : Int32))] [(.long b), (.long v), (.ref (w 0))])) (fun _ k => XS.lload X1.here hx rfl (hb hby at_187) rfl k) ?_
  obtain ⟨cq2, kq2, q2a, q2b, q2c⟩ := isOf hZ e1 (pin_E0 P)
  obtain ⟨_, _, ⟨T2, L2, k2, n2⟩, -, X2, ⟨Lc2, hQ2, l2, y2, z2⟩, st2⟩ := X1.virtualBack hx (y := (⟨"com/example/punctual_proof/punctualproof/network/Comparison", "holds", "(JJ)Z"⟩ : MethodName)) (z := (⟨"com/example/punctual_proof/punctualproof/network/Comparison", "holds", "(JJ)Z"⟩ : MethodName)) hown (mvT hZ (hw _ (List.mem_of_getElem? (i := 4) rfl))) (mvT hZ (hw _ (List.mem_of_getElem? (i := 5) rfl))) (notFace_of_selects (args := #[]) (mvT hZ (hw _ (List.mem_of_getElem? (i := 7) rfl)))) (mvT hZ (hw _ (List.mem_of_getElem? (i := 7) rfl))) (mvT hZ (hw _ (List.mem_of_getElem? (i := 6) rfl))) (by decide) (backOf (W := 0) (rm1_w0_0 l Z a0 hw [] v b hl w h0 n0 Z0 P) hZ (hw _ (List.mem_of_getElem? (i := 8) rfl)) (hw _ (List.mem_of_getElem? (i := 2) rfl)) (by decide) (by decide)) q2a q2c (g := (mkF m 189 #[.val (.int p1), .val (.long v), .second, .val (.long b0), .second, .val (.int p4), .val (.int (0 : Int32)), .val (.int i7), .val (.long b), .second, .val (.ref (w 0)), .val (.int (0 : Int32))] [(.long b), (.long v), (.ref (w 0))])) rfl (by rw [hml]; rfl) (Steps.refl _) (argsL := [(.long v), (.long b)]) (rest := []) (lenOf pd_0 rfl) rfl (by show 2 * 0 + _ ≤ _; exact Nat.le_of_eq rfl) (hb hby at_189) (fun _ _ => ⟨rfl, e1, (by decide : 0 + 0 ≤ _), (by decide : 0 + 0 ≤ _)⟩)
  dsimp only [Pt.U, Pt.locs, Pt.cells, Pt.slots] at X2 l2 y2 z2 st2 hQ2
  subst l2 y2 z2
  obtain ⟨rfl, N2q, e2⟩ := hQ2
  have N2 := Fr.app N0 N2q
  refine own_step (W' := T2.setTop (mkF m 192 #[.val (.int p1), .val (.long v), .second, .val (.long b0), .second, .val (.int p4), .val (.int (0 : Int32)), .val (.int i7), .val (.long b), .second, .val (.ref (w 0)), .val (.int (0 : Int32))] [(.int (0 : Int32))])) (fun _ k => st2.trans k) ?_
  refine own_step (W' := T2.setTop (mkF m 194 #[.val (.int p1), .val (.long v), .second, .val (.long b0), .second, .val (.int p4), .val (.int (0 : Int32)), .val (.int i7), .val (.long b), .second, .val (.ref (w 0)), .val (.int (0 : Int32))] [(.int (0 : Int32)), (.int (0 : Int32))])) (fun _ k => XS.iload X2.here hx rfl (hb hby at_192) rfl k) ?_
  refine own_step (W' := T2.setTop (mkF m 197 #[.val (.int p1), .val (.long v), .second, .val (.long b0), .second, .val (.int p4), .val (.int (0 : Int32)), .val (.int i7), .val (.long b), .second, .val (.ref (w 0)), .val (.int (0 : Int32))] [])) (fun _ k => XS.icmpNo X2.here hx rfl (hb hby at_194) rfl (by decide) k) ?_
  refine own_step (W' := T2.setTop (mkF m 198 #[.val (.int p1), .val (.long v), .second, .val (.long b0), .second, .val (.int p4), .val (.int (0 : Int32)), .val (.int i7), .val (.long b), .second, .val (.ref (w 0)), .val (.int (0 : Int32))] [(.int (1 : Int32))])) (fun _ k => XS.iconst X2.here hx rfl (hb hby at_197) k) ?_
  refine own_step (W' := T2.setTop (mkF m 202 #[.val (.int p1), .val (.long v), .second, .val (.long b0), .second, .val (.int p4), .val (.int (0 : Int32)), .val (.int i7), .val (.long b), .second, .val (.ref (w 0)), .val (.int (0 : Int32))] [(.int (1 : Int32))])) (fun _ k => XS.goto X2.here hx rfl (pc0 := 198) (pc' := 202) rfl (hb hby at_198) (by decide) (by decide) k) ?_
  exact own_ret X2 hlk hret (v := (.int (1 : Int32))) (fun fs hr => retN X2 hx (t := .boolean) hret (by simp) (hb hby at_202) hr) ⟨rfl, N2⟩ (by decide) (by decide)
set_option maxRecDepth 65536 in
set_option maxHeartbeats 40000000 in
theorem rm1_w0_1 (l : Launch) (Z : State) (a0 : Array Value) (hw : ∀ d ∈ tables_1, d.before a0 Z = true) (ws : List Jvm.Cond) (v b : Int64) (hl : lcmpW v b = (1 : Int32)) (w : Nat → Addr) (h0 : Heap) (n0 : Nat) (Z0 : n0 ≤ h0.size) (P : Pins Z h0 w) :
    MetFree l (⟨"com/example/punctual_proof/punctualproof/network/Comparison", "holds", "(JJ)Z"⟩ : MethodName) (head1 (Jvm.Cond.code (⟨"com/example/punctual_proof/punctualproof/network/Comparison", "holds", "(JJ)Z"⟩ : MethodName) prog_62_method_9_code 5 (some .boolean) :: ws) ({ frames := 0, cells := 0, slots := 0, locals := 0 } : Room)) (fun a U => a = #[(.ref (w 0)), (.long v), (.long b)] ∧ Z.Warmed39 U.vm ∧ U.heap = h0) (fun _ _ _ _ _ => True) (fun _ U o U' => ∃ v L, o = .returned v ∧ own_QK (some (.int (0 : Int32))) h0 n0 v U'.heap L ∧ FrameEnd U o U' L ({ frames := 0, cells := 0, slots := 0, locals := 0 } : Room).cells ({ frames := 0, cells := 0, slots := 0, locals := 0 } : Room).slots) := by
  refine MetFree.of_bodySF (plainFor_of_name pn_com_example_punctual_proof_punctualproof_network_Comparison) hisR ?_
  intro p e s m args below meth c s₁ Bd hml0 hP hK
  obtain ⟨rfl, hZ, hh⟩ := hP
  have hx := Bd.exec
  have hby := Bd.bytes
  have hml : c.maxLocals = 5 := hml0
  have hown : s.vm.findClass "com/example/punctual_proof/punctualproof/network/Comparison" = some m.cls := findClass_of_methodNamed Bd.named
  have hnm := (name_of_methodNamed Bd.named Bd.method).1
  have X0 : Stand p l e ({ frames := 0, cells := 0, slots := 0, locals := 0 } : Room) s m #[(.ref (w 0)), (.long v), (.long b)] below meth c s₁ [] 0 0 := Stand.of_body Bd
  have e0 : s₁.heap = h0 := by rw [← hh, Bd.state]; rfl
  have N0 := Fr.nil n0
  refine own_enter (ef_1_RJJ m (w 0) v b) ?_
  refine own_step (W' := s₁.setTop (mkF m 1 #[.val (.ref (w 0)), .val (.long v), .second, .val (.long b), .second] [(.long v)])) (fun _ k => XS.lloadN X0.here hx rfl (hb hby d1_0) rfl k) ?_
  refine own_step (W' := s₁.setTop (mkF m 2 #[.val (.ref (w 0)), .val (.long v), .second, .val (.long b), .second] [(.long b), (.long v)])) (fun _ k => XS.lloadN X0.here hx rfl (hb hby d1_1) rfl k) ?_
  refine own_step (W' := s₁.setTop (mkF m 3 #[.val (.ref (w 0)), .val (.long v), .second, .val (.long b), .second] [(.int (lcmpW v b))])) (fun _ k => XS.lcmp X0.here hx rfl (hb hby d1_2) rfl k) ?_
  rw [hl]
  refine own_step (W' := s₁.setTop (mkF m 19 #[.val (.ref (w 0)), .val (.long v), .second, .val (.long b), .second] [])) (fun _ k => XS.ifYes X0.here hx rfl (pc0 := 3) (pc' := 19) rfl (hb hby d1_3) rfl (by decide) (by decide) (by decide) k) ?_
  refine own_step (W' := s₁.setTop (mkF m 20 #[.val (.ref (w 0)), .val (.long v), .second, .val (.long b), .second] [(.long v)])) (fun _ k => XS.lloadN X0.here hx rfl (hb hby d1_19) rfl k) ?_
  refine own_step (W' := s₁.setTop (mkF m 21 #[.val (.ref (w 0)), .val (.long v), .second, .val (.long b), .second] [(.long b), (.long v)])) (fun _ k => XS.lloadN X0.here hx rfl (hb hby d1_20) rfl k) ?_
  refine own_step (W' := s₁.setTop (mkF m 22 #[.val (.ref (w 0)), .val (.long v), .second, .val (.long b), .second] [(.int (lcmpW v b))])) (fun _ k => XS.lcmp X0.here hx rfl (hb hby d1_21) rfl k) ?_
  rw [hl]
  refine own_step (W' := s₁.setTop (mkF m 40 #[.val (.ref (w 0)), .val (.long v), .second, .val (.long b), .second] [])) (fun _ k => XS.ifYes X0.here hx rfl (pc0 := 22) (pc' := 40) rfl (hb hby d1_22) rfl (by decide) (by decide) (by decide) k) ?_
  refine own_step (W' := s₁.setTop (mkF m 41 #[.val (.ref (w 0)), .val (.long v), .second, .val (.long b), .second] [(.ref (w 0))])) (fun _ k => XS.aloadN X0.here hx rfl (hb hby d1_40) rfl rfl k) ?_
  obtain ⟨T1, X1, e1, st1⟩ := getF X0 hx hZ hown (host := "") (Or.inl (hw _ (List.mem_of_getElem? (i := 9) rfl))) Via.refl e0 (pin_F0_boundsAbove P) (g := (mkF m 41 #[.val (.ref (w 0)), .val (.long v), .second, .val (.long b), .second] [(.ref (w 0))])) rfl rfl (hb hby d1_41)
  refine own_step (W' := T1.setTop (mkF m 44 #[.val (.ref (w 0)), .val (.long v), .second, .val (.long b), .second] [(.int (1 : Int32))])) (fun _ k => st1 _ k) ?_
  refine own_step (W' := T1.setTop (mkF m 51 #[.val (.ref (w 0)), .val (.long v), .second, .val (.long b), .second] [])) (fun _ k => XS.ifYes X1.here hx rfl (pc0 := 44) (pc' := 51) rfl (hb hby d1_44) rfl (by decide) (by decide) (by decide) k) ?_
  refine own_step (W' := T1.setTop (mkF m 52 #[.val (.ref (w 0)), .val (.long v), .second, .val (.long b), .second] [(.int (0 : Int32))])) (fun _ k => XS.iconst X1.here hx rfl (hb hby d1_51) k) ?_
  exact own_ret X1 Bd.notSynchronized Bd.returns (v := (.int (0 : Int32))) (fun fs hr => retN X1 hx (t := .boolean) Bd.returns (by simp) (hb hby d1_52) hr) ⟨rfl, N0, e1⟩ (by decide) (by decide)
set_option maxRecDepth 65536 in
set_option maxHeartbeats 40000000 in
theorem own_tail_0_1 {p : Program} {l : Launch} {e : Env} {s : State} {m : MethodId} {args : Array Value} {below : List Frame} {meth : Method} {c : Code} {s₁ : State} {Z : State} {a0 : Array Value} {h0 : Heap} {n0 : Nat} {w : Nat → Addr} (p1 p4 i7 : Int32) (v b0 b : Int64) (hl : lcmpW v b = (1 : Int32))
    (X0 : Stand p l e room_1 s m args below meth c s₁ [] 0 0) (hx : p.tables.exec = Jvm.exec) (hZ : Z.Warmed39 s.vm) (hw : ∀ d ∈ tables_1, d.before a0 Z = true) (hby : c.code = code) (hml : c.maxLocals = 12) (hown : s.vm.findClass "com/example/punctual_proof/punctualproof/network/ComparisonHoldsPinLaw" = some m.cls) (e0 : s₁.heap = h0) (N0 : Fr n0 []) (Z0 : n0 ≤ h0.size) (P : Pins Z h0 w) (hlk : meth.locks = false) (hret : meth.sig.returnType = ret) :
    own_Done p e below (s₁.setTop (mkF m 54 #[.val (.int p1), .val (.long v), .second, .val (.long b0), .second, .val (.int p4), .val (.int (0 : Int32)), .val (.int i7), .val (.long b), .second, .unset, .unset] [])) (fun o U' => ∃ v L, o = .returned v ∧ own_Q0 n0 v U'.heap L ∧ FrameEnd s o U' L room_1.cells room_1.slots) := by
  refine own_step (W' := s₁.setTop (mkF m 56 #[.val (.int p1), .val (.long v), .second, .val (.long b0), .second, .val (.int p4), .val (.int (0 : Int32)), .val (.int i7), .val (.long b), .second, .unset, .unset] [(.int (0 : Int32))])) (fun _ k => XS.iload X0.here hx rfl (hb hby at_54) rfl k) ?_
  refine own_step (W' := s₁.setTop (mkF m 59 #[.val (.int p1), .val (.long v), .second, .val (.long b0), .second, .val (.int p4), .val (.int (0 : Int32)), .val (.int i7), .val (.long b), .second, .unset, .unset] [])) (fun _ k => XS.ifNo X0.here hx rfl (hb hby at_56) rfl (by decide) k) ?_
  obtain ⟨T1, X1, e1, st1⟩ := getS2 X0 hx hZ hown (host := "") (Or.inl (hw _ (List.mem_of_getElem? (i := 1) rfl))) Via.refl e0 (pin_S0 P) (g := (mkF m 59 #[.val (.int p1), .val (.long v), .second, .val (.long b0), .second, .val (.int p4), .val (.int (0 : Int32)), .val (.int i7), .val (.long b), .second, .unset, .unset] [])) rfl (hb hby at_59)
  refine own_step (W' := T1.setTop (mkF m 62 #[.val (.int p1), .val (.long v), .second, .val (.long b0), .second, .val (.int p4), .val (.int (0 : Int32)), .val (.int i7), .val (.long b), .second, .unset, .unset] [(.ref (w 0))])) (fun _ k => st1 _ k) ?_
  refine own_step (W' := T1.setTop (mkF m 64 #[.val (.int p1), .val (.long v), .second, .val (.long b0), .second, .val (.int p4), .val (.int (0 : Int32)), .val (.int i7), .val (.long b), .second, .val (.ref (w 0)), .unset] [])) (fun _ k => XS.astore X1.here hx rfl (hb hby at_62) rfl rfl (l' := #[.val (.int p1), .val (.long v), .second, .val (.long b0), .second, .val (.int p4), .val (.int (0 : Int32)), .val (.int i7), .val (.long b), .second, .val (.ref (w 0)), .unset]) rfl k) ?_
  refine own_step (W' := T1.setTop (mkF m 65 #[.val (.int p1), .val (.long v), .second, .val (.long b0), .second, .val (.int p4), .val (.int (0 : Int32)), .val (.int i7), .val (.long b), .second, .val (.ref (w 0)), .unset] [(.long v)])) (fun _ k => XS.lloadN X1.here hx rfl (hb hby at_64) rfl k) ?_
  refine own_step (W' := T1.setTop (mkF m 67 #[.val (.int p1), .val (.long v), .second, .val (.long b0), .second, .val (.int p4), .val (.int (0 : Int32)), .val (.int i7), .val (.long b), .second, .val (.ref (w 0)), .unset] [(.long b), (.long v)])) (fun _ k => XS.lload X1.here hx rfl (hb hby at_65) rfl k) ?_
  refine own_step (W' := T1.setTop (mkF m 68 #[.val (.int p1), .val (.long v), .second, .val (.long b0), .second, .val (.int p4), .val (.int (0 : Int32)), .val (.int i7), .val (.long b), .second, .val (.ref (w 0)), .unset] [(.int (lcmpW v b))])) (fun _ k => XS.lcmp X1.here hx rfl (hb hby at_67) rfl k) ?_
  rw [hl]
  refine own_step (W' := T1.setTop (mkF m 75 #[.val (.int p1), .val (.long v), .second, .val (.long b0), .second, .val (.int p4), .val (.int (0 : Int32)), .val (.int i7), .val (.long b), .second, .val (.ref (w 0)), .unset] [])) (fun _ k => XS.ifYes X1.here hx rfl (pc0 := 68) (pc' := 75) rfl (hb hby at_68) rfl (by decide) (by decide) (by decide) k) ?_
  refine own_step (W' := T1.setTop (mkF m 76 #[.val (.int p1), .val (.long v), .second, .val (.long b0), .second, .val (.int p4), .val (.int (0 : Int32)), .val (.int i7), .val (.long b), .second, .val (.ref (w 0)), .unset] [(.int (0 : Int32))])) (fun _ k => XS.iconst X1.here hx rfl (hb hby at_75) k) ?_
  refine own_step (W' := T1.setTop (mkF m 78 #[.val (.int p1), .val (.long v), .second, .val (.long b0), .second, .val (.int p4), .val (.int (0 : Int32)), .val (.int i7), .val (.long b), .second, .val (.ref (w 0)), .val (.int (0 : Int32))] [])) (fun _ k => XS.istore X1.here hx rfl (hb hby at_76) rfl (l' := #[.val (.int p1), .val (.long v), .second, .val (.long b0), .second, .val (.int p4), .val (.int (0 : Int32)), .val (.int i7), .val (.long b), .second, .val (.ref (w 0)), .val (.int (0 : Int32))]) rfl k) ?_
  refine own_step (W' := T1.setTop (mkF m 184 #[.val (.int p1), .val (.long v), .second, .val (.long b0), .second, .val (.int p4), .val (.int (0 : Int32)), .val (.int i7), .val (.long b), .second, .val (.ref (w 0)), .val (.int (0 : Int32))] [])) (fun _ k => XS.goto X1.here hx rfl (pc0 := 78) (pc' := 184) rfl (hb hby at_78) (by decide) (by decide) k) ?_
  refine own_step (W' := T1.setTop (mkF m 186 #[.val (.int p1), .val (.long v), .second, .val (.long b0), .second, .val (.int p4), .val (.int (0 : Int32)), .val (.int i7), .val (.long b), .second, .val (.ref (w 0)), .val (.int (0 : Int32))] [(.ref (w 0))])) (fun _ k => XS.aload X1.here hx rfl (hb hby at_184) rfl rfl k) ?_
  refine own_step (W' := T1.setTop (mkF m 187 #[.val (.int p1), .val (.long v), .second, .val (.long b0), .second, .val (.int p4), .val (.int (0 : Int32)), .val (.int i7), .val (.long b), .second, .val (.ref (w 0)), .val (.int (0 : Int32))] [(.long v), (.ref (w 0))])) (fun _ k => XS.lloadN X1.here hx rfl (hb hby at_186) rfl k) ?_
  refine own_step (W' := T1.setTop (mkF m 189 #[.val (.int p1), .val (.long v), .second, .val (.long b0), .second, .val (.int p4), .val (.int (0 : Int32)), .val (.int i7), .val (.long b), .second, .val (.ref (w 0)), .val (.int (0 : Int32))] [(.long b), (.long v), (.ref (w 0))])) (fun _ k => XS.lload X1.here hx rfl (hb hby at_187) rfl k) ?_
  obtain ⟨cq2, kq2, q2a, q2b, q2c⟩ := isOf hZ e1 (pin_E0 P)
  obtain ⟨_, _, ⟨T2, L2, k2, n2⟩, -, X2, ⟨Lc2, hQ2, l2, y2, z2⟩, st2⟩ := X1.virtualBack hx (y := (⟨"com/example/punctual_proof/punctualproof/network/Comparison", "holds", "(JJ)Z"⟩ : MethodName)) (z := (⟨"com/example/punctual_proof/punctualproof/network/Comparison", "holds", "(JJ)Z"⟩ : MethodName)) hown (mvT hZ (hw _ (List.mem_of_getElem? (i := 4) rfl))) (mvT hZ (hw _ (List.mem_of_getElem? (i := 5) rfl))) (notFace_of_selects (args := #[]) (mvT hZ (hw _ (List.mem_of_getElem? (i := 7) rfl)))) (mvT hZ (hw _ (List.mem_of_getElem? (i := 7) rfl))) (mvT hZ (hw _ (List.mem_of_getElem? (i := 6) rfl))) (by decide) (backOf (W := 0) (rm1_w0_1 l Z a0 hw [] v b hl w h0 n0 Z0 P) hZ (hw _ (List.mem_of_getElem? (i := 8) rfl)) (hw _ (List.mem_of_getElem? (i := 2) rfl)) (by decide) (by decide)) q2a q2c (g := (mkF m 189 #[.val (.int p1), .val (.long v), .second, .val (.long b0), .second, .val (.int p4), .val (.int (0 : Int32)), .val (.int i7), .val (.long b), .second, .val (.ref (w 0)), .val (.int (0 : Int32))] [(.long b), (.long v), (.ref (w 0))])) rfl (by rw [hml]; rfl) (Steps.refl _) (argsL := [(.long v), (.long b)]) (rest := []) (lenOf pd_0 rfl) rfl (by show 2 * 0 + _ ≤ _; exact Nat.le_of_eq rfl) (hb hby at_189) (fun _ _ => ⟨rfl, e1, (by decide : 0 + 0 ≤ _), (by decide : 0 + 0 ≤ _)⟩)
  dsimp only [Pt.U, Pt.locs, Pt.cells, Pt.slots] at X2 l2 y2 z2 st2 hQ2
  subst l2 y2 z2
  obtain ⟨rfl, N2q, e2⟩ := hQ2
  have N2 := Fr.app N0 N2q
  refine own_step (W' := T2.setTop (mkF m 192 #[.val (.int p1), .val (.long v), .second, .val (.long b0), .second, .val (.int p4), .val (.int (0 : Int32)), .val (.int i7), .val (.long b), .second, .val (.ref (w 0)), .val (.int (0 : Int32))] [(.int (0 : Int32))])) (fun _ k => st2.trans k) ?_
  refine own_step (W' := T2.setTop (mkF m 194 #[.val (.int p1), .val (.long v), .second, .val (.long b0), .second, .val (.int p4), .val (.int (0 : Int32)), .val (.int i7), .val (.long b), .second, .val (.ref (w 0)), .val (.int (0 : Int32))] [(.int (0 : Int32)), (.int (0 : Int32))])) (fun _ k => XS.iload X2.here hx rfl (hb hby at_192) rfl k) ?_
  refine own_step (W' := T2.setTop (mkF m 197 #[.val (.int p1), .val (.long v), .second, .val (.long b0), .second, .val (.int p4), .val (.int (0 : Int32)), .val (.int i7), .val (.long b), .second, .val (.ref (w 0)), .val (.int (0 : Int32))] [])) (fun _ k => XS.icmpNo X2.here hx rfl (hb hby at_194) rfl (by decide) k) ?_
  refine own_step (W' := T2.setTop (mkF m 198 #[.val (.int p1), .val (.long v), .second, .val (.long b0), .second, .val (.int p4), .val (.int (0 : Int32)), .val (.int i7), .val (.long b), .second, .val (.ref (w 0)), .val (.int (0 : Int32))] [(.int (1 : Int32))])) (fun _ k => XS.iconst X2.here hx rfl (hb hby at_197) k) ?_
  refine own_step (W' := T2.setTop (mkF m 202 #[.val (.int p1), .val (.long v), .second, .val (.long b0), .second, .val (.int p4), .val (.int (0 : Int32)), .val (.int i7), .val (.long b), .second, .val (.ref (w 0)), .val (.int (0 : Int32))] [(.int (1 : Int32))])) (fun _ k => XS.goto X2.here hx rfl (pc0 := 198) (pc' := 202) rfl (hb hby at_198) (by decide) (by decide) k) ?_
  exact own_ret X2 hlk hret (v := (.int (1 : Int32))) (fun fs hr => retN X2 hx (t := .boolean) hret (by simp) (hb hby at_202) hr) ⟨rfl, N2⟩ (by decide) (by decide)
set_option maxRecDepth 65536 in
set_option maxHeartbeats 40000000 in
theorem rm1_w1_m (l : Launch) (Z : State) (a0 : Array Value) (hw : ∀ d ∈ tables_1, d.before a0 Z = true) (ws : List Jvm.Cond) (v b : Int64) (hl : lcmpW v b = (-1 : Int32)) (w : Nat → Addr) (h0 : Heap) (n0 : Nat) (Z0 : n0 ≤ h0.size) (P : Pins Z h0 w) :
    MetFree l (⟨"com/example/punctual_proof/punctualproof/network/Comparison", "holds", "(JJ)Z"⟩ : MethodName) (head1 (Jvm.Cond.code (⟨"com/example/punctual_proof/punctualproof/network/Comparison", "holds", "(JJ)Z"⟩ : MethodName) prog_62_method_9_code 5 (some .boolean) :: ws) ({ frames := 0, cells := 0, slots := 0, locals := 0 } : Room)) (fun a U => a = #[(.ref (w 1)), (.long v), (.long b)] ∧ Z.Warmed39 U.vm ∧ U.heap = h0) (fun _ _ _ _ _ => True) (fun _ U o U' => ∃ v L, o = .returned v ∧ own_QK (some (.int (1 : Int32))) h0 n0 v U'.heap L ∧ FrameEnd U o U' L ({ frames := 0, cells := 0, slots := 0, locals := 0 } : Room).cells ({ frames := 0, cells := 0, slots := 0, locals := 0 } : Room).slots) := by
  refine MetFree.of_bodySF (plainFor_of_name pn_com_example_punctual_proof_punctualproof_network_Comparison) hisR ?_
  intro p e s m args below meth c s₁ Bd hml0 hP hK
  obtain ⟨rfl, hZ, hh⟩ := hP
  have hx := Bd.exec
  have hby := Bd.bytes
  have hml : c.maxLocals = 5 := hml0
  have hown : s.vm.findClass "com/example/punctual_proof/punctualproof/network/Comparison" = some m.cls := findClass_of_methodNamed Bd.named
  have hnm := (name_of_methodNamed Bd.named Bd.method).1
  have X0 : Stand p l e ({ frames := 0, cells := 0, slots := 0, locals := 0 } : Room) s m #[(.ref (w 1)), (.long v), (.long b)] below meth c s₁ [] 0 0 := Stand.of_body Bd
  have e0 : s₁.heap = h0 := by rw [← hh, Bd.state]; rfl
  have N0 := Fr.nil n0
  refine own_enter (ef_1_RJJ m (w 1) v b) ?_
  refine own_step (W' := s₁.setTop (mkF m 1 #[.val (.ref (w 1)), .val (.long v), .second, .val (.long b), .second] [(.long v)])) (fun _ k => XS.lloadN X0.here hx rfl (hb hby d1_0) rfl k) ?_
  refine own_step (W' := s₁.setTop (mkF m 2 #[.val (.ref (w 1)), .val (.long v), .second, .val (.long b), .second] [(.long b), (.long v)])) (fun _ k => XS.lloadN X0.here hx rfl (hb hby d1_1) rfl k) ?_
  refine own_step (W' := s₁.setTop (mkF m 3 #[.val (.ref (w 1)), .val (.long v), .second, .val (.long b), .second] [(.int (lcmpW v b))])) (fun _ k => XS.lcmp X0.here hx rfl (hb hby d1_2) rfl k) ?_
  rw [hl]
  refine own_step (W' := s₁.setTop (mkF m 19 #[.val (.ref (w 1)), .val (.long v), .second, .val (.long b), .second] [])) (fun _ k => XS.ifYes X0.here hx rfl (pc0 := 3) (pc' := 19) rfl (hb hby d1_3) rfl (by decide) (by decide) (by decide) k) ?_
  refine own_step (W' := s₁.setTop (mkF m 20 #[.val (.ref (w 1)), .val (.long v), .second, .val (.long b), .second] [(.long v)])) (fun _ k => XS.lloadN X0.here hx rfl (hb hby d1_19) rfl k) ?_
  refine own_step (W' := s₁.setTop (mkF m 21 #[.val (.ref (w 1)), .val (.long v), .second, .val (.long b), .second] [(.long b), (.long v)])) (fun _ k => XS.lloadN X0.here hx rfl (hb hby d1_20) rfl k) ?_
  refine own_step (W' := s₁.setTop (mkF m 22 #[.val (.ref (w 1)), .val (.long v), .second, .val (.long b), .second] [(.int (lcmpW v b))])) (fun _ k => XS.lcmp X0.here hx rfl (hb hby d1_21) rfl k) ?_
  rw [hl]
  refine own_step (W' := s₁.setTop (mkF m 25 #[.val (.ref (w 1)), .val (.long v), .second, .val (.long b), .second] [])) (fun _ k => XS.ifNo X0.here hx rfl (hb hby d1_22) rfl (by decide) k) ?_
  refine own_step (W' := s₁.setTop (mkF m 26 #[.val (.ref (w 1)), .val (.long v), .second, .val (.long b), .second] [(.ref (w 1))])) (fun _ k => XS.aloadN X0.here hx rfl (hb hby d1_25) rfl rfl k) ?_
  obtain ⟨T1, X1, e1, st1⟩ := getF X0 hx hZ hown (host := "") (Or.inl (hw _ (List.mem_of_getElem? (i := 15) rfl))) Via.refl e0 (pin_F1_boundsBelow P) (g := (mkF m 26 #[.val (.ref (w 1)), .val (.long v), .second, .val (.long b), .second] [(.ref (w 1))])) rfl rfl (hb hby d1_26)
  refine own_step (W' := T1.setTop (mkF m 29 #[.val (.ref (w 1)), .val (.long v), .second, .val (.long b), .second] [(.int (0 : Int32))])) (fun _ k => st1 _ k) ?_
  refine own_step (W' := T1.setTop (mkF m 32 #[.val (.ref (w 1)), .val (.long v), .second, .val (.long b), .second] [])) (fun _ k => XS.ifNo X1.here hx rfl (hb hby d1_29) rfl (by decide) k) ?_
  refine own_step (W' := T1.setTop (mkF m 33 #[.val (.ref (w 1)), .val (.long v), .second, .val (.long b), .second] [(.int (1 : Int32))])) (fun _ k => XS.iconst X1.here hx rfl (hb hby d1_32) k) ?_
  refine own_step (W' := T1.setTop (mkF m 52 #[.val (.ref (w 1)), .val (.long v), .second, .val (.long b), .second] [(.int (1 : Int32))])) (fun _ k => XS.goto X1.here hx rfl (pc0 := 33) (pc' := 52) rfl (hb hby d1_33) (by decide) (by decide) k) ?_
  exact own_ret X1 Bd.notSynchronized Bd.returns (v := (.int (1 : Int32))) (fun fs hr => retN X1 hx (t := .boolean) Bd.returns (by simp) (hb hby d1_52) hr) ⟨rfl, N0, e1⟩ (by decide) (by decide)
set_option maxRecDepth 65536 in
set_option maxHeartbeats 40000000 in
theorem own_tail_1_m {p : Program} {l : Launch} {e : Env} {s : State} {m : MethodId} {args : Array Value} {below : List Frame} {meth : Method} {c : Code} {s₁ : State} {Z : State} {a0 : Array Value} {h0 : Heap} {n0 : Nat} {w : Nat → Addr} (p1 p4 i7 : Int32) (v b0 b : Int64) (hl : lcmpW v b = (-1 : Int32))
    (X0 : Stand p l e room_1 s m args below meth c s₁ [] 0 0) (hx : p.tables.exec = Jvm.exec) (hZ : Z.Warmed39 s.vm) (hw : ∀ d ∈ tables_1, d.before a0 Z = true) (hby : c.code = code) (hml : c.maxLocals = 12) (hown : s.vm.findClass "com/example/punctual_proof/punctualproof/network/ComparisonHoldsPinLaw" = some m.cls) (e0 : s₁.heap = h0) (N0 : Fr n0 []) (Z0 : n0 ≤ h0.size) (P : Pins Z h0 w) (hlk : meth.locks = false) (hret : meth.sig.returnType = ret) :
    own_Done p e below (s₁.setTop (mkF m 54 #[.val (.int p1), .val (.long v), .second, .val (.long b0), .second, .val (.int p4), .val (.int (1 : Int32)), .val (.int i7), .val (.long b), .second, .unset, .unset] [])) (fun o U' => ∃ v L, o = .returned v ∧ own_Q0 n0 v U'.heap L ∧ FrameEnd s o U' L room_1.cells room_1.slots) := by
  refine own_step (W' := s₁.setTop (mkF m 56 #[.val (.int p1), .val (.long v), .second, .val (.long b0), .second, .val (.int p4), .val (.int (1 : Int32)), .val (.int i7), .val (.long b), .second, .unset, .unset] [(.int (1 : Int32))])) (fun _ k => XS.iload X0.here hx rfl (hb hby at_54) rfl k) ?_
  refine own_step (W' := s₁.setTop (mkF m 81 #[.val (.int p1), .val (.long v), .second, .val (.long b0), .second, .val (.int p4), .val (.int (1 : Int32)), .val (.int i7), .val (.long b), .second, .unset, .unset] [])) (fun _ k => XS.ifYes X0.here hx rfl (pc0 := 56) (pc' := 81) rfl (hb hby at_56) rfl (by decide) (by decide) (by decide) k) ?_
  refine own_step (W' := s₁.setTop (mkF m 83 #[.val (.int p1), .val (.long v), .second, .val (.long b0), .second, .val (.int p4), .val (.int (1 : Int32)), .val (.int i7), .val (.long b), .second, .unset, .unset] [(.int (1 : Int32))])) (fun _ k => XS.iload X0.here hx rfl (hb hby at_81) rfl k) ?_
  refine own_step (W' := s₁.setTop (mkF m 84 #[.val (.int p1), .val (.long v), .second, .val (.long b0), .second, .val (.int p4), .val (.int (1 : Int32)), .val (.int i7), .val (.long b), .second, .unset, .unset] [(.int (1 : Int32)), (.int (1 : Int32))])) (fun _ k => XS.iconst X0.here hx rfl (hb hby at_83) k) ?_
  refine own_step (W' := s₁.setTop (mkF m 87 #[.val (.int p1), .val (.long v), .second, .val (.long b0), .second, .val (.int p4), .val (.int (1 : Int32)), .val (.int i7), .val (.long b), .second, .unset, .unset] [])) (fun _ k => XS.icmpNo X0.here hx rfl (hb hby at_84) rfl (by decide) k) ?_
  obtain ⟨T1, X1, e1, st1⟩ := getS2 X0 hx hZ hown (host := "") (Or.inl (hw _ (List.mem_of_getElem? (i := 11) rfl))) Via.refl e0 (pin_S1 P) (g := (mkF m 87 #[.val (.int p1), .val (.long v), .second, .val (.long b0), .second, .val (.int p4), .val (.int (1 : Int32)), .val (.int i7), .val (.long b), .second, .unset, .unset] [])) rfl (hb hby at_87)
  refine own_step (W' := T1.setTop (mkF m 90 #[.val (.int p1), .val (.long v), .second, .val (.long b0), .second, .val (.int p4), .val (.int (1 : Int32)), .val (.int i7), .val (.long b), .second, .unset, .unset] [(.ref (w 1))])) (fun _ k => st1 _ k) ?_
  refine own_step (W' := T1.setTop (mkF m 92 #[.val (.int p1), .val (.long v), .second, .val (.long b0), .second, .val (.int p4), .val (.int (1 : Int32)), .val (.int i7), .val (.long b), .second, .val (.ref (w 1)), .unset] [])) (fun _ k => XS.astore X1.here hx rfl (hb hby at_90) rfl rfl (l' := #[.val (.int p1), .val (.long v), .second, .val (.long b0), .second, .val (.int p4), .val (.int (1 : Int32)), .val (.int i7), .val (.long b), .second, .val (.ref (w 1)), .unset]) rfl k) ?_
  refine own_step (W' := T1.setTop (mkF m 93 #[.val (.int p1), .val (.long v), .second, .val (.long b0), .second, .val (.int p4), .val (.int (1 : Int32)), .val (.int i7), .val (.long b), .second, .val (.ref (w 1)), .unset] [(.long v)])) (fun _ k => XS.lloadN X1.here hx rfl (hb hby at_92) rfl k) ?_
  refine own_step (W' := T1.setTop (mkF m 95 #[.val (.int p1), .val (.long v), .second, .val (.long b0), .second, .val (.int p4), .val (.int (1 : Int32)), .val (.int i7), .val (.long b), .second, .val (.ref (w 1)), .unset] [(.long b), (.long v)])) (fun _ k => XS.lload X1.here hx rfl (hb hby at_93) rfl k) ?_
  refine own_step (W' := T1.setTop (mkF m 96 #[.val (.int p1), .val (.long v), .second, .val (.long b0), .second, .val (.int p4), .val (.int (1 : Int32)), .val (.int i7), .val (.long b), .second, .val (.ref (w 1)), .unset] [(.int (lcmpW v b))])) (fun _ k => XS.lcmp X1.here hx rfl (hb hby at_95) rfl k) ?_
  rw [hl]
  refine own_step (W' := T1.setTop (mkF m 99 #[.val (.int p1), .val (.long v), .second, .val (.long b0), .second, .val (.int p4), .val (.int (1 : Int32)), .val (.int i7), .val (.long b), .second, .val (.ref (w 1)), .unset] [])) (fun _ k => XS.ifNo X1.here hx rfl (hb hby at_96) rfl (by decide) k) ?_
  refine own_step (W' := T1.setTop (mkF m 100 #[.val (.int p1), .val (.long v), .second, .val (.long b0), .second, .val (.int p4), .val (.int (1 : Int32)), .val (.int i7), .val (.long b), .second, .val (.ref (w 1)), .unset] [(.int (1 : Int32))])) (fun _ k => XS.iconst X1.here hx rfl (hb hby at_99) k) ?_
  refine own_step (W' := T1.setTop (mkF m 104 #[.val (.int p1), .val (.long v), .second, .val (.long b0), .second, .val (.int p4), .val (.int (1 : Int32)), .val (.int i7), .val (.long b), .second, .val (.ref (w 1)), .unset] [(.int (1 : Int32))])) (fun _ k => XS.goto X1.here hx rfl (pc0 := 100) (pc' := 104) rfl (hb hby at_100) (by decide) (by decide) k) ?_
  refine own_step (W' := T1.setTop (mkF m 106 #[.val (.int p1), .val (.long v), .second, .val (.long b0), .second, .val (.int p4), .val (.int (1 : Int32)), .val (.int i7), .val (.long b), .second, .val (.ref (w 1)), .val (.int (1 : Int32))] [])) (fun _ k => XS.istore X1.here hx rfl (hb hby at_104) rfl (l' := #[.val (.int p1), .val (.long v), .second, .val (.long b0), .second, .val (.int p4), .val (.int (1 : Int32)), .val (.int i7), .val (.long b), .second, .val (.ref (w 1)), .val (.int (1 : Int32))]) rfl k) ?_
  refine own_step (W' := T1.setTop (mkF m 184 #[.val (.int p1), .val (.long v), .second, .val (.long b0), .second, .val (.int p4), .val (.int (1 : Int32)), .val (.int i7), .val (.long b), .second, .val (.ref (w 1)), .val (.int (1 : Int32))] [])) (fun _ k => XS.goto X1.here hx rfl (pc0 := 106) (pc' := 184) rfl (hb hby at_106) (by decide) (by decide) k) ?_
  refine own_step (W' := T1.setTop (mkF m 186 #[.val (.int p1), .val (.long v), .second, .val (.long b0), .second, .val (.int p4), .val (.int (1 : Int32)), .val (.int i7), .val (.long b), .second, .val (.ref (w 1)), .val (.int (1 : Int32))] [(.ref (w 1))])) (fun _ k => XS.aload X1.here hx rfl (hb hby at_184) rfl rfl k) ?_
  refine own_step (W' := T1.setTop (mkF m 187 #[.val (.int p1), .val (.long v), .second, .val (.long b0), .second, .val (.int p4), .val (.int (1 : Int32)), .val (.int i7), .val (.long b), .second, .val (.ref (w 1)), .val (.int (1 : Int32))] [(.long v), (.ref (w 1))])) (fun _ k => XS.lloadN X1.here hx rfl (hb hby at_186) rfl k) ?_
  refine own_step (W' := T1.setTop (mkF m 189 #[.val (.int p1), .val (.long v), .second, .val (.long b0), .second, .val (.int p4), .val (.int (1 : Int32)), .val (.int i7), .val (.long b), .second, .val (.ref (w 1)), .val (.int (1 : Int32))] [(.long b), (.long v), (.ref (w 1))])) (fun _ k => XS.lload X1.here hx rfl (hb hby at_187) rfl k) ?_
  obtain ⟨cq2, kq2, q2a, q2b, q2c⟩ := isOf hZ e1 (pin_E1 P)
  obtain ⟨_, _, ⟨T2, L2, k2, n2⟩, -, X2, ⟨Lc2, hQ2, l2, y2, z2⟩, st2⟩ := X1.virtualBack hx (y := (⟨"com/example/punctual_proof/punctualproof/network/Comparison", "holds", "(JJ)Z"⟩ : MethodName)) (z := (⟨"com/example/punctual_proof/punctualproof/network/Comparison", "holds", "(JJ)Z"⟩ : MethodName)) hown (mvT hZ (hw _ (List.mem_of_getElem? (i := 4) rfl))) (mvT hZ (hw _ (List.mem_of_getElem? (i := 5) rfl))) (notFace_of_selects (args := #[]) (mvT hZ (hw _ (List.mem_of_getElem? (i := 7) rfl)))) (mvT hZ (hw _ (List.mem_of_getElem? (i := 7) rfl))) (mvT hZ (hw _ (List.mem_of_getElem? (i := 6) rfl))) (by decide) (backOf (W := 0) (rm1_w1_m l Z a0 hw [] v b hl w h0 n0 Z0 P) hZ (hw _ (List.mem_of_getElem? (i := 8) rfl)) (hw _ (List.mem_of_getElem? (i := 2) rfl)) (by decide) (by decide)) q2a q2c (g := (mkF m 189 #[.val (.int p1), .val (.long v), .second, .val (.long b0), .second, .val (.int p4), .val (.int (1 : Int32)), .val (.int i7), .val (.long b), .second, .val (.ref (w 1)), .val (.int (1 : Int32))] [(.long b), (.long v), (.ref (w 1))])) rfl (by rw [hml]; rfl) (Steps.refl _) (argsL := [(.long v), (.long b)]) (rest := []) (lenOf pd_0 rfl) rfl (by show 2 * 0 + _ ≤ _; exact Nat.le_of_eq rfl) (hb hby at_189) (fun _ _ => ⟨rfl, e1, (by decide : 0 + 0 ≤ _), (by decide : 0 + 0 ≤ _)⟩)
  dsimp only [Pt.U, Pt.locs, Pt.cells, Pt.slots] at X2 l2 y2 z2 st2 hQ2
  subst l2 y2 z2
  obtain ⟨rfl, N2q, e2⟩ := hQ2
  have N2 := Fr.app N0 N2q
  refine own_step (W' := T2.setTop (mkF m 192 #[.val (.int p1), .val (.long v), .second, .val (.long b0), .second, .val (.int p4), .val (.int (1 : Int32)), .val (.int i7), .val (.long b), .second, .val (.ref (w 1)), .val (.int (1 : Int32))] [(.int (1 : Int32))])) (fun _ k => st2.trans k) ?_
  refine own_step (W' := T2.setTop (mkF m 194 #[.val (.int p1), .val (.long v), .second, .val (.long b0), .second, .val (.int p4), .val (.int (1 : Int32)), .val (.int i7), .val (.long b), .second, .val (.ref (w 1)), .val (.int (1 : Int32))] [(.int (1 : Int32)), (.int (1 : Int32))])) (fun _ k => XS.iload X2.here hx rfl (hb hby at_192) rfl k) ?_
  refine own_step (W' := T2.setTop (mkF m 197 #[.val (.int p1), .val (.long v), .second, .val (.long b0), .second, .val (.int p4), .val (.int (1 : Int32)), .val (.int i7), .val (.long b), .second, .val (.ref (w 1)), .val (.int (1 : Int32))] [])) (fun _ k => XS.icmpNo X2.here hx rfl (hb hby at_194) rfl (by decide) k) ?_
  refine own_step (W' := T2.setTop (mkF m 198 #[.val (.int p1), .val (.long v), .second, .val (.long b0), .second, .val (.int p4), .val (.int (1 : Int32)), .val (.int i7), .val (.long b), .second, .val (.ref (w 1)), .val (.int (1 : Int32))] [(.int (1 : Int32))])) (fun _ k => XS.iconst X2.here hx rfl (hb hby at_197) k) ?_
  refine own_step (W' := T2.setTop (mkF m 202 #[.val (.int p1), .val (.long v), .second, .val (.long b0), .second, .val (.int p4), .val (.int (1 : Int32)), .val (.int i7), .val (.long b), .second, .val (.ref (w 1)), .val (.int (1 : Int32))] [(.int (1 : Int32))])) (fun _ k => XS.goto X2.here hx rfl (pc0 := 198) (pc' := 202) rfl (hb hby at_198) (by decide) (by decide) k) ?_
  exact own_ret X2 hlk hret (v := (.int (1 : Int32))) (fun fs hr => retN X2 hx (t := .boolean) hret (by simp) (hb hby at_202) hr) ⟨rfl, N2⟩ (by decide) (by decide)
set_option maxRecDepth 65536 in
set_option maxHeartbeats 40000000 in
theorem rm1_w1_0 (l : Launch) (Z : State) (a0 : Array Value) (hw : ∀ d ∈ tables_1, d.before a0 Z = true) (ws : List Jvm.Cond) (v b : Int64) (hl : lcmpW v b = (0 : Int32)) (w : Nat → Addr) (h0 : Heap) (n0 : Nat) (Z0 : n0 ≤ h0.size) (P : Pins Z h0 w) :
    MetFree l (⟨"com/example/punctual_proof/punctualproof/network/Comparison", "holds", "(JJ)Z"⟩ : MethodName) (head1 (Jvm.Cond.code (⟨"com/example/punctual_proof/punctualproof/network/Comparison", "holds", "(JJ)Z"⟩ : MethodName) prog_62_method_9_code 5 (some .boolean) :: ws) ({ frames := 0, cells := 0, slots := 0, locals := 0 } : Room)) (fun a U => a = #[(.ref (w 1)), (.long v), (.long b)] ∧ Z.Warmed39 U.vm ∧ U.heap = h0) (fun _ _ _ _ _ => True) (fun _ U o U' => ∃ v L, o = .returned v ∧ own_QK (some (.int (1 : Int32))) h0 n0 v U'.heap L ∧ FrameEnd U o U' L ({ frames := 0, cells := 0, slots := 0, locals := 0 } : Room).cells ({ frames := 0, cells := 0, slots := 0, locals := 0 } : Room).slots) := by
  refine MetFree.of_bodySF (plainFor_of_name pn_com_example_punctual_proof_punctualproof_network_Comparison) hisR ?_
  intro p e s m args below meth c s₁ Bd hml0 hP hK
  obtain ⟨rfl, hZ, hh⟩ := hP
  have hx := Bd.exec
  have hby := Bd.bytes
  have hml : c.maxLocals = 5 := hml0
  have hown : s.vm.findClass "com/example/punctual_proof/punctualproof/network/Comparison" = some m.cls := findClass_of_methodNamed Bd.named
  have hnm := (name_of_methodNamed Bd.named Bd.method).1
  have X0 : Stand p l e ({ frames := 0, cells := 0, slots := 0, locals := 0 } : Room) s m #[(.ref (w 1)), (.long v), (.long b)] below meth c s₁ [] 0 0 := Stand.of_body Bd
  have e0 : s₁.heap = h0 := by rw [← hh, Bd.state]; rfl
  have N0 := Fr.nil n0
  refine own_enter (ef_1_RJJ m (w 1) v b) ?_
  refine own_step (W' := s₁.setTop (mkF m 1 #[.val (.ref (w 1)), .val (.long v), .second, .val (.long b), .second] [(.long v)])) (fun _ k => XS.lloadN X0.here hx rfl (hb hby d1_0) rfl k) ?_
  refine own_step (W' := s₁.setTop (mkF m 2 #[.val (.ref (w 1)), .val (.long v), .second, .val (.long b), .second] [(.long b), (.long v)])) (fun _ k => XS.lloadN X0.here hx rfl (hb hby d1_1) rfl k) ?_
  refine own_step (W' := s₁.setTop (mkF m 3 #[.val (.ref (w 1)), .val (.long v), .second, .val (.long b), .second] [(.int (lcmpW v b))])) (fun _ k => XS.lcmp X0.here hx rfl (hb hby d1_2) rfl k) ?_
  rw [hl]
  refine own_step (W' := s₁.setTop (mkF m 6 #[.val (.ref (w 1)), .val (.long v), .second, .val (.long b), .second] [])) (fun _ k => XS.ifNo X0.here hx rfl (hb hby d1_3) rfl (by decide) k) ?_
  refine own_step (W' := s₁.setTop (mkF m 7 #[.val (.ref (w 1)), .val (.long v), .second, .val (.long b), .second] [(.ref (w 1))])) (fun _ k => XS.aloadN X0.here hx rfl (hb hby d1_6) rfl rfl k) ?_
  obtain ⟨T1, X1, e1, st1⟩ := getF X0 hx hZ hown (host := "") (Or.inl (hw _ (List.mem_of_getElem? (i := 13) rfl))) Via.refl e0 (pin_F1_strict P) (g := (mkF m 7 #[.val (.ref (w 1)), .val (.long v), .second, .val (.long b), .second] [(.ref (w 1))])) rfl rfl (hb hby d1_7)
  refine own_step (W' := T1.setTop (mkF m 10 #[.val (.ref (w 1)), .val (.long v), .second, .val (.long b), .second] [(.int (0 : Int32))])) (fun _ k => st1 _ k) ?_
  refine own_step (W' := T1.setTop (mkF m 13 #[.val (.ref (w 1)), .val (.long v), .second, .val (.long b), .second] [])) (fun _ k => XS.ifNo X1.here hx rfl (hb hby d1_10) rfl (by decide) k) ?_
  refine own_step (W' := T1.setTop (mkF m 14 #[.val (.ref (w 1)), .val (.long v), .second, .val (.long b), .second] [(.int (1 : Int32))])) (fun _ k => XS.iconst X1.here hx rfl (hb hby d1_13) k) ?_
  refine own_step (W' := T1.setTop (mkF m 18 #[.val (.ref (w 1)), .val (.long v), .second, .val (.long b), .second] [(.int (1 : Int32))])) (fun _ k => XS.goto X1.here hx rfl (pc0 := 14) (pc' := 18) rfl (hb hby d1_14) (by decide) (by decide) k) ?_
  exact own_ret X1 Bd.notSynchronized Bd.returns (v := (.int (1 : Int32))) (fun fs hr => retN X1 hx (t := .boolean) Bd.returns (by simp) (hb hby d1_18) hr) ⟨rfl, N0, e1⟩ (by decide) (by decide)
set_option maxRecDepth 65536 in
set_option maxHeartbeats 40000000 in
theorem own_tail_1_0 {p : Program} {l : Launch} {e : Env} {s : State} {m : MethodId} {args : Array Value} {below : List Frame} {meth : Method} {c : Code} {s₁ : State} {Z : State} {a0 : Array Value} {h0 : Heap} {n0 : Nat} {w : Nat → Addr} (p1 p4 i7 : Int32) (v b0 b : Int64) (hl : lcmpW v b = (0 : Int32))
    (X0 : Stand p l e room_1 s m args below meth c s₁ [] 0 0) (hx : p.tables.exec = Jvm.exec) (hZ : Z.Warmed39 s.vm) (hw : ∀ d ∈ tables_1, d.before a0 Z = true) (hby : c.code = code) (hml : c.maxLocals = 12) (hown : s.vm.findClass "com/example/punctual_proof/punctualproof/network/ComparisonHoldsPinLaw" = some m.cls) (e0 : s₁.heap = h0) (N0 : Fr n0 []) (Z0 : n0 ≤ h0.size) (P : Pins Z h0 w) (hlk : meth.locks = false) (hret : meth.sig.returnType = ret) :
    own_Done p e below (s₁.setTop (mkF m 54 #[.val (.int p1), .val (.long v), .second, .val (.long b0), .second, .val (.int p4), .val (.int (1 : Int32)), .val (.int i7), .val (.long b), .second, .unset, .unset] [])) (fun o U' => ∃ v L, o = .returned v ∧ own_Q0 n0 v U'.heap L ∧ FrameEnd s o U' L room_1.cells room_1.slots) := by
  refine own_step (W' := s₁.setTop (mkF m 56 #[.val (.int p1), .val (.long v), .second, .val (.long b0), .second, .val (.int p4), .val (.int (1 : Int32)), .val (.int i7), .val (.long b), .second, .unset, .unset] [(.int (1 : Int32))])) (fun _ k => XS.iload X0.here hx rfl (hb hby at_54) rfl k) ?_
  refine own_step (W' := s₁.setTop (mkF m 81 #[.val (.int p1), .val (.long v), .second, .val (.long b0), .second, .val (.int p4), .val (.int (1 : Int32)), .val (.int i7), .val (.long b), .second, .unset, .unset] [])) (fun _ k => XS.ifYes X0.here hx rfl (pc0 := 56) (pc' := 81) rfl (hb hby at_56) rfl (by decide) (by decide) (by decide) k) ?_
  refine own_step (W' := s₁.setTop (mkF m 83 #[.val (.int p1), .val (.long v), .second, .val (.long b0), .second, .val (.int p4), .val (.int (1 : Int32)), .val (.int i7), .val (.long b), .second, .unset, .unset] [(.int (1 : Int32))])) (fun _ k => XS.iload X0.here hx rfl (hb hby at_81) rfl k) ?_
  refine own_step (W' := s₁.setTop (mkF m 84 #[.val (.int p1), .val (.long v), .second, .val (.long b0), .second, .val (.int p4), .val (.int (1 : Int32)), .val (.int i7), .val (.long b), .second, .unset, .unset] [(.int (1 : Int32)), (.int (1 : Int32))])) (fun _ k => XS.iconst X0.here hx rfl (hb hby at_83) k) ?_
  refine own_step (W' := s₁.setTop (mkF m 87 #[.val (.int p1), .val (.long v), .second, .val (.long b0), .second, .val (.int p4), .val (.int (1 : Int32)), .val (.int i7), .val (.long b), .second, .unset, .unset] [])) (fun _ k => XS.icmpNo X0.here hx rfl (hb hby at_84) rfl (by decide) k) ?_
  obtain ⟨T1, X1, e1, st1⟩ := getS2 X0 hx hZ hown (host := "") (Or.inl (hw _ (List.mem_of_getElem? (i := 11) rfl))) Via.refl e0 (pin_S1 P) (g := (mkF m 87 #[.val (.int p1), .val (.long v), .second, .val (.long b0), .second, .val (.int p4), .val (.int (1 : Int32)), .val (.int i7), .val (.long b), .second, .unset, .unset] [])) rfl (hb hby at_87)
  refine own_step (W' := T1.setTop (mkF m 90 #[.val (.int p1), .val (.long v), .second, .val (.long b0), .second, .val (.int p4), .val (.int (1 : Int32)), .val (.int i7), .val (.long b), .second, .unset, .unset] [(.ref (w 1))])) (fun _ k => st1 _ k) ?_
  refine own_step (W' := T1.setTop (mkF m 92 #[.val (.int p1), .val (.long v), .second, .val (.long b0), .second, .val (.int p4), .val (.int (1 : Int32)), .val (.int i7), .val (.long b), .second, .val (.ref (w 1)), .unset] [])) (fun _ k => XS.astore X1.here hx rfl (hb hby at_90) rfl rfl (l' := #[.val (.int p1), .val (.long v), .second, .val (.long b0), .second, .val (.int p4), .val (.int (1 : Int32)), .val (.int i7), .val (.long b), .second, .val (.ref (w 1)), .unset]) rfl k) ?_
  refine own_step (W' := T1.setTop (mkF m 93 #[.val (.int p1), .val (.long v), .second, .val (.long b0), .second, .val (.int p4), .val (.int (1 : Int32)), .val (.int i7), .val (.long b), .second, .val (.ref (w 1)), .unset] [(.long v)])) (fun _ k => XS.lloadN X1.here hx rfl (hb hby at_92) rfl k) ?_
  refine own_step (W' := T1.setTop (mkF m 95 #[.val (.int p1), .val (.long v), .second, .val (.long b0), .second, .val (.int p4), .val (.int (1 : Int32)), .val (.int i7), .val (.long b), .second, .val (.ref (w 1)), .unset] [(.long b), (.long v)])) (fun _ k => XS.lload X1.here hx rfl (hb hby at_93) rfl k) ?_
  refine own_step (W' := T1.setTop (mkF m 96 #[.val (.int p1), .val (.long v), .second, .val (.long b0), .second, .val (.int p4), .val (.int (1 : Int32)), .val (.int i7), .val (.long b), .second, .val (.ref (w 1)), .unset] [(.int (lcmpW v b))])) (fun _ k => XS.lcmp X1.here hx rfl (hb hby at_95) rfl k) ?_
  rw [hl]
  refine own_step (W' := T1.setTop (mkF m 99 #[.val (.int p1), .val (.long v), .second, .val (.long b0), .second, .val (.int p4), .val (.int (1 : Int32)), .val (.int i7), .val (.long b), .second, .val (.ref (w 1)), .unset] [])) (fun _ k => XS.ifNo X1.here hx rfl (hb hby at_96) rfl (by decide) k) ?_
  refine own_step (W' := T1.setTop (mkF m 100 #[.val (.int p1), .val (.long v), .second, .val (.long b0), .second, .val (.int p4), .val (.int (1 : Int32)), .val (.int i7), .val (.long b), .second, .val (.ref (w 1)), .unset] [(.int (1 : Int32))])) (fun _ k => XS.iconst X1.here hx rfl (hb hby at_99) k) ?_
  refine own_step (W' := T1.setTop (mkF m 104 #[.val (.int p1), .val (.long v), .second, .val (.long b0), .second, .val (.int p4), .val (.int (1 : Int32)), .val (.int i7), .val (.long b), .second, .val (.ref (w 1)), .unset] [(.int (1 : Int32))])) (fun _ k => XS.goto X1.here hx rfl (pc0 := 100) (pc' := 104) rfl (hb hby at_100) (by decide) (by decide) k) ?_
  refine own_step (W' := T1.setTop (mkF m 106 #[.val (.int p1), .val (.long v), .second, .val (.long b0), .second, .val (.int p4), .val (.int (1 : Int32)), .val (.int i7), .val (.long b), .second, .val (.ref (w 1)), .val (.int (1 : Int32))] [])) (fun _ k => XS.istore X1.here hx rfl (hb hby at_104) rfl (l' := #[.val (.int p1), .val (.long v), .second, .val (.long b0), .second, .val (.int p4), .val (.int (1 : Int32)), .val (.int i7), .val (.long b), .second, .val (.ref (w 1)), .val (.int (1 : Int32))]) rfl k) ?_
  refine own_step (W' := T1.setTop (mkF m 184 #[.val (.int p1), .val (.long v), .second, .val (.long b0), .second, .val (.int p4), .val (.int (1 : Int32)), .val (.int i7), .val (.long b), .second, .val (.ref (w 1)), .val (.int (1 : Int32))] [])) (fun _ k => XS.goto X1.here hx rfl (pc0 := 106) (pc' := 184) rfl (hb hby at_106) (by decide) (by decide) k) ?_
  refine own_step (W' := T1.setTop (mkF m 186 #[.val (.int p1), .val (.long v), .second, .val (.long b0), .second, .val (.int p4), .val (.int (1 : Int32)), .val (.int i7), .val (.long b), .second, .val (.ref (w 1)), .val (.int (1 : Int32))] [(.ref (w 1))])) (fun _ k => XS.aload X1.here hx rfl (hb hby at_184) rfl rfl k) ?_
  refine own_step (W' := T1.setTop (mkF m 187 #[.val (.int p1), .val (.long v), .second, .val (.long b0), .second, .val (.int p4), .val (.int (1 : Int32)), .val (.int i7), .val (.long b), .second, .val (.ref (w 1)), .val (.int (1 : Int32))] [(.long v), (.ref (w 1))])) (fun _ k => XS.lloadN X1.here hx rfl (hb hby at_186) rfl k) ?_
  refine own_step (W' := T1.setTop (mkF m 189 #[.val (.int p1), .val (.long v), .second, .val (.long b0), .second, .val (.int p4), .val (.int (1 : Int32)), .val (.int i7), .val (.long b), .second, .val (.ref (w 1)), .val (.int (1 : Int32))] [(.long b), (.long v), (.ref (w 1))])) (fun _ k => XS.lload X1.here hx rfl (hb hby at_187) rfl k) ?_
  obtain ⟨cq2, kq2, q2a, q2b, q2c⟩ := isOf hZ e1 (pin_E1 P)
  obtain ⟨_, _, ⟨T2, L2, k2, n2⟩, -, X2, ⟨Lc2, hQ2, l2, y2, z2⟩, st2⟩ := X1.virtualBack hx (y := (⟨"com/example/punctual_proof/punctualproof/network/Comparison", "holds", "(JJ)Z"⟩ : MethodName)) (z := (⟨"com/example/punctual_proof/punctualproof/network/Comparison", "holds", "(JJ)Z"⟩ : MethodName)) hown (mvT hZ (hw _ (List.mem_of_getElem? (i := 4) rfl))) (mvT hZ (hw _ (List.mem_of_getElem? (i := 5) rfl))) (notFace_of_selects (args := #[]) (mvT hZ (hw _ (List.mem_of_getElem? (i := 7) rfl)))) (mvT hZ (hw _ (List.mem_of_getElem? (i := 7) rfl))) (mvT hZ (hw _ (List.mem_of_getElem? (i := 6) rfl))) (by decide) (backOf (W := 0) (rm1_w1_0 l Z a0 hw [] v b hl w h0 n0 Z0 P) hZ (hw _ (List.mem_of_getElem? (i := 8) rfl)) (hw _ (List.mem_of_getElem? (i := 2) rfl)) (by decide) (by decide)) q2a q2c (g := (mkF m 189 #[.val (.int p1), .val (.long v), .second, .val (.long b0), .second, .val (.int p4), .val (.int (1 : Int32)), .val (.int i7), .val (.long b), .second, .val (.ref (w 1)), .val (.int (1 : Int32))] [(.long b), (.long v), (.ref (w 1))])) rfl (by rw [hml]; rfl) (Steps.refl _) (argsL := [(.long v), (.long b)]) (rest := []) (lenOf pd_0 rfl) rfl (by show 2 * 0 + _ ≤ _; exact Nat.le_of_eq rfl) (hb hby at_189) (fun _ _ => ⟨rfl, e1, (by decide : 0 + 0 ≤ _), (by decide : 0 + 0 ≤ _)⟩)
  dsimp only [Pt.U, Pt.locs, Pt.cells, Pt.slots] at X2 l2 y2 z2 st2 hQ2
  subst l2 y2 z2
  obtain ⟨rfl, N2q, e2⟩ := hQ2
  have N2 := Fr.app N0 N2q
  refine own_step (W' := T2.setTop (mkF m 192 #[.val (.int p1), .val (.long v), .second, .val (.long b0), .second, .val (.int p4), .val (.int (1 : Int32)), .val (.int i7), .val (.long b), .second, .val (.ref (w 1)), .val (.int (1 : Int32))] [(.int (1 : Int32))])) (fun _ k => st2.trans k) ?_
  refine own_step (W' := T2.setTop (mkF m 194 #[.val (.int p1), .val (.long v), .second, .val (.long b0), .second, .val (.int p4), .val (.int (1 : Int32)), .val (.int i7), .val (.long b), .second, .val (.ref (w 1)), .val (.int (1 : Int32))] [(.int (1 : Int32)), (.int (1 : Int32))])) (fun _ k => XS.iload X2.here hx rfl (hb hby at_192) rfl k) ?_
  refine own_step (W' := T2.setTop (mkF m 197 #[.val (.int p1), .val (.long v), .second, .val (.long b0), .second, .val (.int p4), .val (.int (1 : Int32)), .val (.int i7), .val (.long b), .second, .val (.ref (w 1)), .val (.int (1 : Int32))] [])) (fun _ k => XS.icmpNo X2.here hx rfl (hb hby at_194) rfl (by decide) k) ?_
  refine own_step (W' := T2.setTop (mkF m 198 #[.val (.int p1), .val (.long v), .second, .val (.long b0), .second, .val (.int p4), .val (.int (1 : Int32)), .val (.int i7), .val (.long b), .second, .val (.ref (w 1)), .val (.int (1 : Int32))] [(.int (1 : Int32))])) (fun _ k => XS.iconst X2.here hx rfl (hb hby at_197) k) ?_
  refine own_step (W' := T2.setTop (mkF m 202 #[.val (.int p1), .val (.long v), .second, .val (.long b0), .second, .val (.int p4), .val (.int (1 : Int32)), .val (.int i7), .val (.long b), .second, .val (.ref (w 1)), .val (.int (1 : Int32))] [(.int (1 : Int32))])) (fun _ k => XS.goto X2.here hx rfl (pc0 := 198) (pc' := 202) rfl (hb hby at_198) (by decide) (by decide) k) ?_
  exact own_ret X2 hlk hret (v := (.int (1 : Int32))) (fun fs hr => retN X2 hx (t := .boolean) hret (by simp) (hb hby at_202) hr) ⟨rfl, N2⟩ (by decide) (by decide)
set_option maxRecDepth 65536 in
set_option maxHeartbeats 40000000 in
theorem rm1_w1_1 (l : Launch) (Z : State) (a0 : Array Value) (hw : ∀ d ∈ tables_1, d.before a0 Z = true) (ws : List Jvm.Cond) (v b : Int64) (hl : lcmpW v b = (1 : Int32)) (w : Nat → Addr) (h0 : Heap) (n0 : Nat) (Z0 : n0 ≤ h0.size) (P : Pins Z h0 w) :
    MetFree l (⟨"com/example/punctual_proof/punctualproof/network/Comparison", "holds", "(JJ)Z"⟩ : MethodName) (head1 (Jvm.Cond.code (⟨"com/example/punctual_proof/punctualproof/network/Comparison", "holds", "(JJ)Z"⟩ : MethodName) prog_62_method_9_code 5 (some .boolean) :: ws) ({ frames := 0, cells := 0, slots := 0, locals := 0 } : Room)) (fun a U => a = #[(.ref (w 1)), (.long v), (.long b)] ∧ Z.Warmed39 U.vm ∧ U.heap = h0) (fun _ _ _ _ _ => True) (fun _ U o U' => ∃ v L, o = .returned v ∧ own_QK (some (.int (0 : Int32))) h0 n0 v U'.heap L ∧ FrameEnd U o U' L ({ frames := 0, cells := 0, slots := 0, locals := 0 } : Room).cells ({ frames := 0, cells := 0, slots := 0, locals := 0 } : Room).slots) := by
  refine MetFree.of_bodySF (plainFor_of_name pn_com_example_punctual_proof_punctualproof_network_Comparison) hisR ?_
  intro p e s m args below meth c s₁ Bd hml0 hP hK
  obtain ⟨rfl, hZ, hh⟩ := hP
  have hx := Bd.exec
  have hby := Bd.bytes
  have hml : c.maxLocals = 5 := hml0
  have hown : s.vm.findClass "com/example/punctual_proof/punctualproof/network/Comparison" = some m.cls := findClass_of_methodNamed Bd.named
  have hnm := (name_of_methodNamed Bd.named Bd.method).1
  have X0 : Stand p l e ({ frames := 0, cells := 0, slots := 0, locals := 0 } : Room) s m #[(.ref (w 1)), (.long v), (.long b)] below meth c s₁ [] 0 0 := Stand.of_body Bd
  have e0 : s₁.heap = h0 := by rw [← hh, Bd.state]; rfl
  have N0 := Fr.nil n0
  refine own_enter (ef_1_RJJ m (w 1) v b) ?_
  refine own_step (W' := s₁.setTop (mkF m 1 #[.val (.ref (w 1)), .val (.long v), .second, .val (.long b), .second] [(.long v)])) (fun _ k => XS.lloadN X0.here hx rfl (hb hby d1_0) rfl k) ?_
  refine own_step (W' := s₁.setTop (mkF m 2 #[.val (.ref (w 1)), .val (.long v), .second, .val (.long b), .second] [(.long b), (.long v)])) (fun _ k => XS.lloadN X0.here hx rfl (hb hby d1_1) rfl k) ?_
  refine own_step (W' := s₁.setTop (mkF m 3 #[.val (.ref (w 1)), .val (.long v), .second, .val (.long b), .second] [(.int (lcmpW v b))])) (fun _ k => XS.lcmp X0.here hx rfl (hb hby d1_2) rfl k) ?_
  rw [hl]
  refine own_step (W' := s₁.setTop (mkF m 19 #[.val (.ref (w 1)), .val (.long v), .second, .val (.long b), .second] [])) (fun _ k => XS.ifYes X0.here hx rfl (pc0 := 3) (pc' := 19) rfl (hb hby d1_3) rfl (by decide) (by decide) (by decide) k) ?_
  refine own_step (W' := s₁.setTop (mkF m 20 #[.val (.ref (w 1)), .val (.long v), .second, .val (.long b), .second] [(.long v)])) (fun _ k => XS.lloadN X0.here hx rfl (hb hby d1_19) rfl k) ?_
  refine own_step (W' := s₁.setTop (mkF m 21 #[.val (.ref (w 1)), .val (.long v), .second, .val (.long b), .second] [(.long b), (.long v)])) (fun _ k => XS.lloadN X0.here hx rfl (hb hby d1_20) rfl k) ?_
  refine own_step (W' := s₁.setTop (mkF m 22 #[.val (.ref (w 1)), .val (.long v), .second, .val (.long b), .second] [(.int (lcmpW v b))])) (fun _ k => XS.lcmp X0.here hx rfl (hb hby d1_21) rfl k) ?_
  rw [hl]
  refine own_step (W' := s₁.setTop (mkF m 40 #[.val (.ref (w 1)), .val (.long v), .second, .val (.long b), .second] [])) (fun _ k => XS.ifYes X0.here hx rfl (pc0 := 22) (pc' := 40) rfl (hb hby d1_22) rfl (by decide) (by decide) (by decide) k) ?_
  refine own_step (W' := s₁.setTop (mkF m 41 #[.val (.ref (w 1)), .val (.long v), .second, .val (.long b), .second] [(.ref (w 1))])) (fun _ k => XS.aloadN X0.here hx rfl (hb hby d1_40) rfl rfl k) ?_
  obtain ⟨T1, X1, e1, st1⟩ := getF X0 hx hZ hown (host := "") (Or.inl (hw _ (List.mem_of_getElem? (i := 9) rfl))) Via.refl e0 (pin_F1_boundsAbove P) (g := (mkF m 41 #[.val (.ref (w 1)), .val (.long v), .second, .val (.long b), .second] [(.ref (w 1))])) rfl rfl (hb hby d1_41)
  refine own_step (W' := T1.setTop (mkF m 44 #[.val (.ref (w 1)), .val (.long v), .second, .val (.long b), .second] [(.int (1 : Int32))])) (fun _ k => st1 _ k) ?_
  refine own_step (W' := T1.setTop (mkF m 51 #[.val (.ref (w 1)), .val (.long v), .second, .val (.long b), .second] [])) (fun _ k => XS.ifYes X1.here hx rfl (pc0 := 44) (pc' := 51) rfl (hb hby d1_44) rfl (by decide) (by decide) (by decide) k) ?_
  refine own_step (W' := T1.setTop (mkF m 52 #[.val (.ref (w 1)), .val (.long v), .second, .val (.long b), .second] [(.int (0 : Int32))])) (fun _ k => XS.iconst X1.here hx rfl (hb hby d1_51) k) ?_
  exact own_ret X1 Bd.notSynchronized Bd.returns (v := (.int (0 : Int32))) (fun fs hr => retN X1 hx (t := .boolean) Bd.returns (by simp) (hb hby d1_52) hr) ⟨rfl, N0, e1⟩ (by decide) (by decide)
set_option maxRecDepth 65536 in
set_option maxHeartbeats 40000000 in
theorem own_tail_1_1 {p : Program} {l : Launch} {e : Env} {s : State} {m : MethodId} {args : Array Value} {below : List Frame} {meth : Method} {c : Code} {s₁ : State} {Z : State} {a0 : Array Value} {h0 : Heap} {n0 : Nat} {w : Nat → Addr} (p1 p4 i7 : Int32) (v b0 b : Int64) (hl : lcmpW v b = (1 : Int32))
    (X0 : Stand p l e room_1 s m args below meth c s₁ [] 0 0) (hx : p.tables.exec = Jvm.exec) (hZ : Z.Warmed39 s.vm) (hw : ∀ d ∈ tables_1, d.before a0 Z = true) (hby : c.code = code) (hml : c.maxLocals = 12) (hown : s.vm.findClass "com/example/punctual_proof/punctualproof/network/ComparisonHoldsPinLaw" = some m.cls) (e0 : s₁.heap = h0) (N0 : Fr n0 []) (Z0 : n0 ≤ h0.size) (P : Pins Z h0 w) (hlk : meth.locks = false) (hret : meth.sig.returnType = ret) :
    own_Done p e below (s₁.setTop (mkF m 54 #[.val (.int p1), .val (.long v), .second, .val (.long b0), .second, .val (.int p4), .val (.int (1 : Int32)), .val (.int i7), .val (.long b), .second, .unset, .unset] [])) (fun o U' => ∃ v L, o = .returned v ∧ own_Q0 n0 v U'.heap L ∧ FrameEnd s o U' L room_1.cells room_1.slots) := by
  refine own_step (W' := s₁.setTop (mkF m 56 #[.val (.int p1), .val (.long v), .second, .val (.long b0), .second, .val (.int p4), .val (.int (1 : Int32)), .val (.int i7), .val (.long b), .second, .unset, .unset] [(.int (1 : Int32))])) (fun _ k => XS.iload X0.here hx rfl (hb hby at_54) rfl k) ?_
  refine own_step (W' := s₁.setTop (mkF m 81 #[.val (.int p1), .val (.long v), .second, .val (.long b0), .second, .val (.int p4), .val (.int (1 : Int32)), .val (.int i7), .val (.long b), .second, .unset, .unset] [])) (fun _ k => XS.ifYes X0.here hx rfl (pc0 := 56) (pc' := 81) rfl (hb hby at_56) rfl (by decide) (by decide) (by decide) k) ?_
  refine own_step (W' := s₁.setTop (mkF m 83 #[.val (.int p1), .val (.long v), .second, .val (.long b0), .second, .val (.int p4), .val (.int (1 : Int32)), .val (.int i7), .val (.long b), .second, .unset, .unset] [(.int (1 : Int32))])) (fun _ k => XS.iload X0.here hx rfl (hb hby at_81) rfl k) ?_
  refine own_step (W' := s₁.setTop (mkF m 84 #[.val (.int p1), .val (.long v), .second, .val (.long b0), .second, .val (.int p4), .val (.int (1 : Int32)), .val (.int i7), .val (.long b), .second, .unset, .unset] [(.int (1 : Int32)), (.int (1 : Int32))])) (fun _ k => XS.iconst X0.here hx rfl (hb hby at_83) k) ?_
  refine own_step (W' := s₁.setTop (mkF m 87 #[.val (.int p1), .val (.long v), .second, .val (.long b0), .second, .val (.int p4), .val (.int (1 : Int32)), .val (.int i7), .val (.long b), .second, .unset, .unset] [])) (fun _ k => XS.icmpNo X0.here hx rfl (hb hby at_84) rfl (by decide) k) ?_
  obtain ⟨T1, X1, e1, st1⟩ := getS2 X0 hx hZ hown (host := "") (Or.inl (hw _ (List.mem_of_getElem? (i := 11) rfl))) Via.refl e0 (pin_S1 P) (g := (mkF m 87 #[.val (.int p1), .val (.long v), .second, .val (.long b0), .second, .val (.int p4), .val (.int (1 : Int32)), .val (.int i7), .val (.long b), .second, .unset, .unset] [])) rfl (hb hby at_87)
  refine own_step (W' := T1.setTop (mkF m 90 #[.val (.int p1), .val (.long v), .second, .val (.long b0), .second, .val (.int p4), .val (.int (1 : Int32)), .val (.int i7), .val (.long b), .second, .unset, .unset] [(.ref (w 1))])) (fun _ k => st1 _ k) ?_
  refine own_step (W' := T1.setTop (mkF m 92 #[.val (.int p1), .val (.long v), .second, .val (.long b0), .second, .val (.int p4), .val (.int (1 : Int32)), .val (.int i7), .val (.long b), .second, .val (.ref (w 1)), .unset] [])) (fun _ k => XS.astore X1.here hx rfl (hb hby at_90) rfl rfl (l' := #[.val (.int p1), .val (.long v), .second, .val (.long b0), .second, .val (.int p4), .val (.int (1 : Int32)), .val (.int i7), .val (.long b), .second, .val (.ref (w 1)), .unset]) rfl k) ?_
  refine own_step (W' := T1.setTop (mkF m 93 #[.val (.int p1), .val (.long v), .second, .val (.long b0), .second, .val (.int p4), .val (.int (1 : Int32)), .val (.int i7), .val (.long b), .second, .val (.ref (w 1)), .unset] [(.long v)])) (fun _ k => XS.lloadN X1.here hx rfl (hb hby at_92) rfl k) ?_
  refine own_step (W' := T1.setTop (mkF m 95 #[.val (.int p1), .val (.long v), .second, .val (.long b0), .second, .val (.int p4), .val (.int (1 : Int32)), .val (.int i7), .val (.long b), .second, .val (.ref (w 1)), .unset] [(.long b), (.long v)])) (fun _ k => XS.lload X1.here hx rfl (hb hby at_93) rfl k) ?_
  refine own_step (W' := T1.setTop (mkF m 96 #[.val (.int p1), .val (.long v), .second, .val (.long b0), .second, .val (.int p4), .val (.int (1 : Int32)), .val (.int i7), .val (.long b), .second, .val (.ref (w 1)), .unset] [(.int (lcmpW v b))])) (fun _ k => XS.lcmp X1.here hx rfl (hb hby at_95) rfl k) ?_
  rw [hl]
  refine own_step (W' := T1.setTop (mkF m 103 #[.val (.int p1), .val (.long v), .second, .val (.long b0), .second, .val (.int p4), .val (.int (1 : Int32)), .val (.int i7), .val (.long b), .second, .val (.ref (w 1)), .unset] [])) (fun _ k => XS.ifYes X1.here hx rfl (pc0 := 96) (pc' := 103) rfl (hb hby at_96) rfl (by decide) (by decide) (by decide) k) ?_
  refine own_step (W' := T1.setTop (mkF m 104 #[.val (.int p1), .val (.long v), .second, .val (.long b0), .second, .val (.int p4), .val (.int (1 : Int32)), .val (.int i7), .val (.long b), .second, .val (.ref (w 1)), .unset] [(.int (0 : Int32))])) (fun _ k => XS.iconst X1.here hx rfl (hb hby at_103) k) ?_
  refine own_step (W' := T1.setTop (mkF m 106 #[.val (.int p1), .val (.long v), .second, .val (.long b0), .second, .val (.int p4), .val (.int (1 : Int32)), .val (.int i7), .val (.long b), .second, .val (.ref (w 1)), .val (.int (0 : Int32))] [])) (fun _ k => XS.istore X1.here hx rfl (hb hby at_104) rfl (l' := #[.val (.int p1), .val (.long v), .second, .val (.long b0), .second, .val (.int p4), .val (.int (1 : Int32)), .val (.int i7), .val (.long b), .second, .val (.ref (w 1)), .val (.int (0 : Int32))]) rfl k) ?_
  refine own_step (W' := T1.setTop (mkF m 184 #[.val (.int p1), .val (.long v), .second, .val (.long b0), .second, .val (.int p4), .val (.int (1 : Int32)), .val (.int i7), .val (.long b), .second, .val (.ref (w 1)), .val (.int (0 : Int32))] [])) (fun _ k => XS.goto X1.here hx rfl (pc0 := 106) (pc' := 184) rfl (hb hby at_106) (by decide) (by decide) k) ?_
  refine own_step (W' := T1.setTop (mkF m 186 #[.val (.int p1), .val (.long v), .second, .val (.long b0), .second, .val (.int p4), .val (.int (1 : Int32)), .val (.int i7), .val (.long b), .second, .val (.ref (w 1)), .val (.int (0 : Int32))] [(.ref (w 1))])) (fun _ k => XS.aload X1.here hx rfl (hb hby at_184) rfl rfl k) ?_
  refine own_step (W' := T1.setTop (mkF m 187 #[.val (.int p1), .val (.long v), .second, .val (.long b0), .second, .val (.int p4), .val (.int (1 : Int32)), .val (.int i7), .val (.long b), .second, .val (.ref (w 1)), .val (.int (0 : Int32))] [(.long v), (.ref (w 1))])) (fun _ k => XS.lloadN X1.here hx rfl (hb hby at_186) rfl k) ?_
  refine own_step (W' := T1.setTop (mkF m 189 #[.val (.int p1), .val (.long v), .second, .val (.long b0), .second, .val (.int p4), .val (.int (1 : Int32)), .val (.int i7), .val (.long b), .second, .val (.ref (w 1)), .val (.int (0 : Int32))] [(.long b), (.long v), (.ref (w 1))])) (fun _ k => XS.lload X1.here hx rfl (hb hby at_187) rfl k) ?_
  obtain ⟨cq2, kq2, q2a, q2b, q2c⟩ := isOf hZ e1 (pin_E1 P)
  obtain ⟨_, _, ⟨T2, L2, k2, n2⟩, -, X2, ⟨Lc2, hQ2, l2, y2, z2⟩, st2⟩ := X1.virtualBack hx (y := (⟨"com/example/punctual_proof/punctualproof/network/Comparison", "holds", "(JJ)Z"⟩ : MethodName)) (z := (⟨"com/example/punctual_proof/punctualproof/network/Comparison", "holds", "(JJ)Z"⟩ : MethodName)) hown (mvT hZ (hw _ (List.mem_of_getElem? (i := 4) rfl))) (mvT hZ (hw _ (List.mem_of_getElem? (i := 5) rfl))) (notFace_of_selects (args := #[]) (mvT hZ (hw _ (List.mem_of_getElem? (i := 7) rfl)))) (mvT hZ (hw _ (List.mem_of_getElem? (i := 7) rfl))) (mvT hZ (hw _ (List.mem_of_getElem? (i := 6) rfl))) (by decide) (backOf (W := 0) (rm1_w1_1 l Z a0 hw [] v b hl w h0 n0 Z0 P) hZ (hw _ (List.mem_of_getElem? (i := 8) rfl)) (hw _ (List.mem_of_getElem? (i := 2) rfl)) (by decide) (by decide)) q2a q2c (g := (mkF m 189 #[.val (.int p1), .val (.long v), .second, .val (.long b0), .second, .val (.int p4), .val (.int (1 : Int32)), .val (.int i7), .val (.long b), .second, .val (.ref (w 1)), .val (.int (0 : Int32))] [(.long b), (.long v), (.ref (w 1))])) rfl (by rw [hml]; rfl) (Steps.refl _) (argsL := [(.long v), (.long b)]) (rest := []) (lenOf pd_0 rfl) rfl (by show 2 * 0 + _ ≤ _; exact Nat.le_of_eq rfl) (hb hby at_189) (fun _ _ => ⟨rfl, e1, (by decide : 0 + 0 ≤ _), (by decide : 0 + 0 ≤ _)⟩)
  dsimp only [Pt.U, Pt.locs, Pt.cells, Pt.slots] at X2 l2 y2 z2 st2 hQ2
  subst l2 y2 z2
  obtain ⟨rfl, N2q, e2⟩ := hQ2
  have N2 := Fr.app N0 N2q
  refine own_step (W' := T2.setTop (mkF m 192 #[.val (.int p1), .val (.long v), .second, .val (.long b0), .second, .val (.int p4), .val (.int (1 : Int32)), .val (.int i7), .val (.long b), .second, .val (.ref (w 1)), .val (.int (0 : Int32))] [(.int (0 : Int32))])) (fun _ k => st2.trans k) ?_
  refine own_step (W' := T2.setTop (mkF m 194 #[.val (.int p1), .val (.long v), .second, .val (.long b0), .second, .val (.int p4), .val (.int (1 : Int32)), .val (.int i7), .val (.long b), .second, .val (.ref (w 1)), .val (.int (0 : Int32))] [(.int (0 : Int32)), (.int (0 : Int32))])) (fun _ k => XS.iload X2.here hx rfl (hb hby at_192) rfl k) ?_
  refine own_step (W' := T2.setTop (mkF m 197 #[.val (.int p1), .val (.long v), .second, .val (.long b0), .second, .val (.int p4), .val (.int (1 : Int32)), .val (.int i7), .val (.long b), .second, .val (.ref (w 1)), .val (.int (0 : Int32))] [])) (fun _ k => XS.icmpNo X2.here hx rfl (hb hby at_194) rfl (by decide) k) ?_
  refine own_step (W' := T2.setTop (mkF m 198 #[.val (.int p1), .val (.long v), .second, .val (.long b0), .second, .val (.int p4), .val (.int (1 : Int32)), .val (.int i7), .val (.long b), .second, .val (.ref (w 1)), .val (.int (0 : Int32))] [(.int (1 : Int32))])) (fun _ k => XS.iconst X2.here hx rfl (hb hby at_197) k) ?_
  refine own_step (W' := T2.setTop (mkF m 202 #[.val (.int p1), .val (.long v), .second, .val (.long b0), .second, .val (.int p4), .val (.int (1 : Int32)), .val (.int i7), .val (.long b), .second, .val (.ref (w 1)), .val (.int (0 : Int32))] [(.int (1 : Int32))])) (fun _ k => XS.goto X2.here hx rfl (pc0 := 198) (pc' := 202) rfl (hb hby at_198) (by decide) (by decide) k) ?_
  exact own_ret X2 hlk hret (v := (.int (1 : Int32))) (fun fs hr => retN X2 hx (t := .boolean) hret (by simp) (hb hby at_202) hr) ⟨rfl, N2⟩ (by decide) (by decide)
set_option maxRecDepth 65536 in
set_option maxHeartbeats 40000000 in
theorem rm1_w2_m (l : Launch) (Z : State) (a0 : Array Value) (hw : ∀ d ∈ tables_1, d.before a0 Z = true) (ws : List Jvm.Cond) (v b : Int64) (hl : lcmpW v b = (-1 : Int32)) (w : Nat → Addr) (h0 : Heap) (n0 : Nat) (Z0 : n0 ≤ h0.size) (P : Pins Z h0 w) :
    MetFree l (⟨"com/example/punctual_proof/punctualproof/network/Comparison", "holds", "(JJ)Z"⟩ : MethodName) (head1 (Jvm.Cond.code (⟨"com/example/punctual_proof/punctualproof/network/Comparison", "holds", "(JJ)Z"⟩ : MethodName) prog_62_method_9_code 5 (some .boolean) :: ws) ({ frames := 0, cells := 0, slots := 0, locals := 0 } : Room)) (fun a U => a = #[(.ref (w 2)), (.long v), (.long b)] ∧ Z.Warmed39 U.vm ∧ U.heap = h0) (fun _ _ _ _ _ => True) (fun _ U o U' => ∃ v L, o = .returned v ∧ own_QK (some (.int (0 : Int32))) h0 n0 v U'.heap L ∧ FrameEnd U o U' L ({ frames := 0, cells := 0, slots := 0, locals := 0 } : Room).cells ({ frames := 0, cells := 0, slots := 0, locals := 0 } : Room).slots) := by
  refine MetFree.of_bodySF (plainFor_of_name pn_com_example_punctual_proof_punctualproof_network_Comparison) hisR ?_
  intro p e s m args below meth c s₁ Bd hml0 hP hK
  obtain ⟨rfl, hZ, hh⟩ := hP
  have hx := Bd.exec
  have hby := Bd.bytes
  have hml : c.maxLocals = 5 := hml0
  have hown : s.vm.findClass "com/example/punctual_proof/punctualproof/network/Comparison" = some m.cls := findClass_of_methodNamed Bd.named
  have hnm := (name_of_methodNamed Bd.named Bd.method).1
  have X0 : Stand p l e ({ frames := 0, cells := 0, slots := 0, locals := 0 } : Room) s m #[(.ref (w 2)), (.long v), (.long b)] below meth c s₁ [] 0 0 := Stand.of_body Bd
  have e0 : s₁.heap = h0 := by rw [← hh, Bd.state]; rfl
  have N0 := Fr.nil n0
  refine own_enter (ef_1_RJJ m (w 2) v b) ?_
  refine own_step (W' := s₁.setTop (mkF m 1 #[.val (.ref (w 2)), .val (.long v), .second, .val (.long b), .second] [(.long v)])) (fun _ k => XS.lloadN X0.here hx rfl (hb hby d1_0) rfl k) ?_
  refine own_step (W' := s₁.setTop (mkF m 2 #[.val (.ref (w 2)), .val (.long v), .second, .val (.long b), .second] [(.long b), (.long v)])) (fun _ k => XS.lloadN X0.here hx rfl (hb hby d1_1) rfl k) ?_
  refine own_step (W' := s₁.setTop (mkF m 3 #[.val (.ref (w 2)), .val (.long v), .second, .val (.long b), .second] [(.int (lcmpW v b))])) (fun _ k => XS.lcmp X0.here hx rfl (hb hby d1_2) rfl k) ?_
  rw [hl]
  refine own_step (W' := s₁.setTop (mkF m 19 #[.val (.ref (w 2)), .val (.long v), .second, .val (.long b), .second] [])) (fun _ k => XS.ifYes X0.here hx rfl (pc0 := 3) (pc' := 19) rfl (hb hby d1_3) rfl (by decide) (by decide) (by decide) k) ?_
  refine own_step (W' := s₁.setTop (mkF m 20 #[.val (.ref (w 2)), .val (.long v), .second, .val (.long b), .second] [(.long v)])) (fun _ k => XS.lloadN X0.here hx rfl (hb hby d1_19) rfl k) ?_
  refine own_step (W' := s₁.setTop (mkF m 21 #[.val (.ref (w 2)), .val (.long v), .second, .val (.long b), .second] [(.long b), (.long v)])) (fun _ k => XS.lloadN X0.here hx rfl (hb hby d1_20) rfl k) ?_
  refine own_step (W' := s₁.setTop (mkF m 22 #[.val (.ref (w 2)), .val (.long v), .second, .val (.long b), .second] [(.int (lcmpW v b))])) (fun _ k => XS.lcmp X0.here hx rfl (hb hby d1_21) rfl k) ?_
  rw [hl]
  refine own_step (W' := s₁.setTop (mkF m 25 #[.val (.ref (w 2)), .val (.long v), .second, .val (.long b), .second] [])) (fun _ k => XS.ifNo X0.here hx rfl (hb hby d1_22) rfl (by decide) k) ?_
  refine own_step (W' := s₁.setTop (mkF m 26 #[.val (.ref (w 2)), .val (.long v), .second, .val (.long b), .second] [(.ref (w 2))])) (fun _ k => XS.aloadN X0.here hx rfl (hb hby d1_25) rfl rfl k) ?_
  obtain ⟨T1, X1, e1, st1⟩ := getF X0 hx hZ hown (host := "") (Or.inl (hw _ (List.mem_of_getElem? (i := 15) rfl))) Via.refl e0 (pin_F2_boundsBelow P) (g := (mkF m 26 #[.val (.ref (w 2)), .val (.long v), .second, .val (.long b), .second] [(.ref (w 2))])) rfl rfl (hb hby d1_26)
  refine own_step (W' := T1.setTop (mkF m 29 #[.val (.ref (w 2)), .val (.long v), .second, .val (.long b), .second] [(.int (1 : Int32))])) (fun _ k => st1 _ k) ?_
  refine own_step (W' := T1.setTop (mkF m 36 #[.val (.ref (w 2)), .val (.long v), .second, .val (.long b), .second] [])) (fun _ k => XS.ifYes X1.here hx rfl (pc0 := 29) (pc' := 36) rfl (hb hby d1_29) rfl (by decide) (by decide) (by decide) k) ?_
  refine own_step (W' := T1.setTop (mkF m 37 #[.val (.ref (w 2)), .val (.long v), .second, .val (.long b), .second] [(.int (0 : Int32))])) (fun _ k => XS.iconst X1.here hx rfl (hb hby d1_36) k) ?_
  refine own_step (W' := T1.setTop (mkF m 52 #[.val (.ref (w 2)), .val (.long v), .second, .val (.long b), .second] [(.int (0 : Int32))])) (fun _ k => XS.goto X1.here hx rfl (pc0 := 37) (pc' := 52) rfl (hb hby d1_37) (by decide) (by decide) k) ?_
  exact own_ret X1 Bd.notSynchronized Bd.returns (v := (.int (0 : Int32))) (fun fs hr => retN X1 hx (t := .boolean) Bd.returns (by simp) (hb hby d1_52) hr) ⟨rfl, N0, e1⟩ (by decide) (by decide)
set_option maxRecDepth 65536 in
set_option maxHeartbeats 40000000 in
theorem own_tail_2_m {p : Program} {l : Launch} {e : Env} {s : State} {m : MethodId} {args : Array Value} {below : List Frame} {meth : Method} {c : Code} {s₁ : State} {Z : State} {a0 : Array Value} {h0 : Heap} {n0 : Nat} {w : Nat → Addr} (p1 p4 i7 : Int32) (v b0 b : Int64) (hl : lcmpW v b = (-1 : Int32))
    (X0 : Stand p l e room_1 s m args below meth c s₁ [] 0 0) (hx : p.tables.exec = Jvm.exec) (hZ : Z.Warmed39 s.vm) (hw : ∀ d ∈ tables_1, d.before a0 Z = true) (hby : c.code = code) (hml : c.maxLocals = 12) (hown : s.vm.findClass "com/example/punctual_proof/punctualproof/network/ComparisonHoldsPinLaw" = some m.cls) (e0 : s₁.heap = h0) (N0 : Fr n0 []) (Z0 : n0 ≤ h0.size) (P : Pins Z h0 w) (hlk : meth.locks = false) (hret : meth.sig.returnType = ret) :
    own_Done p e below (s₁.setTop (mkF m 54 #[.val (.int p1), .val (.long v), .second, .val (.long b0), .second, .val (.int p4), .val (.int (2 : Int32)), .val (.int i7), .val (.long b), .second, .unset, .unset] [])) (fun o U' => ∃ v L, o = .returned v ∧ own_Q0 n0 v U'.heap L ∧ FrameEnd s o U' L room_1.cells room_1.slots) := by
  refine own_step (W' := s₁.setTop (mkF m 56 #[.val (.int p1), .val (.long v), .second, .val (.long b0), .second, .val (.int p4), .val (.int (2 : Int32)), .val (.int i7), .val (.long b), .second, .unset, .unset] [(.int (2 : Int32))])) (fun _ k => XS.iload X0.here hx rfl (hb hby at_54) rfl k) ?_
  refine own_step (W' := s₁.setTop (mkF m 81 #[.val (.int p1), .val (.long v), .second, .val (.long b0), .second, .val (.int p4), .val (.int (2 : Int32)), .val (.int i7), .val (.long b), .second, .unset, .unset] [])) (fun _ k => XS.ifYes X0.here hx rfl (pc0 := 56) (pc' := 81) rfl (hb hby at_56) rfl (by decide) (by decide) (by decide) k) ?_
  refine own_step (W' := s₁.setTop (mkF m 83 #[.val (.int p1), .val (.long v), .second, .val (.long b0), .second, .val (.int p4), .val (.int (2 : Int32)), .val (.int i7), .val (.long b), .second, .unset, .unset] [(.int (2 : Int32))])) (fun _ k => XS.iload X0.here hx rfl (hb hby at_81) rfl k) ?_
  refine own_step (W' := s₁.setTop (mkF m 84 #[.val (.int p1), .val (.long v), .second, .val (.long b0), .second, .val (.int p4), .val (.int (2 : Int32)), .val (.int i7), .val (.long b), .second, .unset, .unset] [(.int (1 : Int32)), (.int (2 : Int32))])) (fun _ k => XS.iconst X0.here hx rfl (hb hby at_83) k) ?_
  refine own_step (W' := s₁.setTop (mkF m 109 #[.val (.int p1), .val (.long v), .second, .val (.long b0), .second, .val (.int p4), .val (.int (2 : Int32)), .val (.int i7), .val (.long b), .second, .unset, .unset] [])) (fun _ k => XS.icmpYes X0.here hx rfl (pc0 := 84) (pc' := 109) rfl (hb hby at_84) rfl (by decide) (by decide) (by decide) k) ?_
  refine own_step (W' := s₁.setTop (mkF m 111 #[.val (.int p1), .val (.long v), .second, .val (.long b0), .second, .val (.int p4), .val (.int (2 : Int32)), .val (.int i7), .val (.long b), .second, .unset, .unset] [(.int (2 : Int32))])) (fun _ k => XS.iload X0.here hx rfl (hb hby at_109) rfl k) ?_
  refine own_step (W' := s₁.setTop (mkF m 112 #[.val (.int p1), .val (.long v), .second, .val (.long b0), .second, .val (.int p4), .val (.int (2 : Int32)), .val (.int i7), .val (.long b), .second, .unset, .unset] [(.int (2 : Int32)), (.int (2 : Int32))])) (fun _ k => XS.iconst X0.here hx rfl (hb hby at_111) k) ?_
  refine own_step (W' := s₁.setTop (mkF m 115 #[.val (.int p1), .val (.long v), .second, .val (.long b0), .second, .val (.int p4), .val (.int (2 : Int32)), .val (.int i7), .val (.long b), .second, .unset, .unset] [])) (fun _ k => XS.icmpNo X0.here hx rfl (hb hby at_112) rfl (by decide) k) ?_
  obtain ⟨T1, X1, e1, st1⟩ := getS2 X0 hx hZ hown (host := "") (Or.inl (hw _ (List.mem_of_getElem? (i := 17) rfl))) Via.refl e0 (pin_S2 P) (g := (mkF m 115 #[.val (.int p1), .val (.long v), .second, .val (.long b0), .second, .val (.int p4), .val (.int (2 : Int32)), .val (.int i7), .val (.long b), .second, .unset, .unset] [])) rfl (hb hby at_115)
  refine own_step (W' := T1.setTop (mkF m 118 #[.val (.int p1), .val (.long v), .second, .val (.long b0), .second, .val (.int p4), .val (.int (2 : Int32)), .val (.int i7), .val (.long b), .second, .unset, .unset] [(.ref (w 2))])) (fun _ k => st1 _ k) ?_
  refine own_step (W' := T1.setTop (mkF m 120 #[.val (.int p1), .val (.long v), .second, .val (.long b0), .second, .val (.int p4), .val (.int (2 : Int32)), .val (.int i7), .val (.long b), .second, .val (.ref (w 2)), .unset] [])) (fun _ k => XS.astore X1.here hx rfl (hb hby at_118) rfl rfl (l' := #[.val (.int p1), .val (.long v), .second, .val (.long b0), .second, .val (.int p4), .val (.int (2 : Int32)), .val (.int i7), .val (.long b), .second, .val (.ref (w 2)), .unset]) rfl k) ?_
  refine own_step (W' := T1.setTop (mkF m 121 #[.val (.int p1), .val (.long v), .second, .val (.long b0), .second, .val (.int p4), .val (.int (2 : Int32)), .val (.int i7), .val (.long b), .second, .val (.ref (w 2)), .unset] [(.long v)])) (fun _ k => XS.lloadN X1.here hx rfl (hb hby at_120) rfl k) ?_
  refine own_step (W' := T1.setTop (mkF m 123 #[.val (.int p1), .val (.long v), .second, .val (.long b0), .second, .val (.int p4), .val (.int (2 : Int32)), .val (.int i7), .val (.long b), .second, .val (.ref (w 2)), .unset] [(.long b), (.long v)])) (fun _ k => XS.lload X1.here hx rfl (hb hby at_121) rfl k) ?_
  refine own_step (W' := T1.setTop (mkF m 124 #[.val (.int p1), .val (.long v), .second, .val (.long b0), .second, .val (.int p4), .val (.int (2 : Int32)), .val (.int i7), .val (.long b), .second, .val (.ref (w 2)), .unset] [(.int (lcmpW v b))])) (fun _ k => XS.lcmp X1.here hx rfl (hb hby at_123) rfl k) ?_
  rw [hl]
  refine own_step (W' := T1.setTop (mkF m 131 #[.val (.int p1), .val (.long v), .second, .val (.long b0), .second, .val (.int p4), .val (.int (2 : Int32)), .val (.int i7), .val (.long b), .second, .val (.ref (w 2)), .unset] [])) (fun _ k => XS.ifYes X1.here hx rfl (pc0 := 124) (pc' := 131) rfl (hb hby at_124) rfl (by decide) (by decide) (by decide) k) ?_
  refine own_step (W' := T1.setTop (mkF m 132 #[.val (.int p1), .val (.long v), .second, .val (.long b0), .second, .val (.int p4), .val (.int (2 : Int32)), .val (.int i7), .val (.long b), .second, .val (.ref (w 2)), .unset] [(.int (0 : Int32))])) (fun _ k => XS.iconst X1.here hx rfl (hb hby at_131) k) ?_
  refine own_step (W' := T1.setTop (mkF m 134 #[.val (.int p1), .val (.long v), .second, .val (.long b0), .second, .val (.int p4), .val (.int (2 : Int32)), .val (.int i7), .val (.long b), .second, .val (.ref (w 2)), .val (.int (0 : Int32))] [])) (fun _ k => XS.istore X1.here hx rfl (hb hby at_132) rfl (l' := #[.val (.int p1), .val (.long v), .second, .val (.long b0), .second, .val (.int p4), .val (.int (2 : Int32)), .val (.int i7), .val (.long b), .second, .val (.ref (w 2)), .val (.int (0 : Int32))]) rfl k) ?_
  refine own_step (W' := T1.setTop (mkF m 184 #[.val (.int p1), .val (.long v), .second, .val (.long b0), .second, .val (.int p4), .val (.int (2 : Int32)), .val (.int i7), .val (.long b), .second, .val (.ref (w 2)), .val (.int (0 : Int32))] [])) (fun _ k => XS.goto X1.here hx rfl (pc0 := 134) (pc' := 184) rfl (hb hby at_134) (by decide) (by decide) k) ?_
  refine own_step (W' := T1.setTop (mkF m 186 #[.val (.int p1), .val (.long v), .second, .val (.long b0), .second, .val (.int p4), .val (.int (2 : Int32)), .val (.int i7), .val (.long b), .second, .val (.ref (w 2)), .val (.int (0 : Int32))] [(.ref (w 2))])) (fun _ k => XS.aload X1.here hx rfl (hb hby at_184) rfl rfl k) ?_
  refine own_step (W' := T1.setTop (mkF m 187 #[.val (.int p1), .val (.long v), .second, .val (.long b0), .second, .val (.int p4), .val (.int (2 : Int32)), .val (.int i7), .val (.long b), .second, .val (.ref (w 2)), .val (.int (0 : Int32))] [(.long v), (.ref (w 2))])) (fun _ k => XS.lloadN X1.here hx rfl (hb hby at_186) rfl k) ?_
  refine own_step (W' := T1.setTop (mkF m 189 #[.val (.int p1), .val (.long v), .second, .val (.long b0), .second, .val (.int p4), .val (.int (2 : Int32)), .val (.int i7), .val (.long b), .second, .val (.ref (w 2)), .val (.int (0 : Int32))] [(.long b), (.long v), (.ref (w 2))])) (fun _ k => XS.lload X1.here hx rfl (hb hby at_187) rfl k) ?_
  obtain ⟨cq2, kq2, q2a, q2b, q2c⟩ := isOf hZ e1 (pin_E2 P)
  obtain ⟨_, _, ⟨T2, L2, k2, n2⟩, -, X2, ⟨Lc2, hQ2, l2, y2, z2⟩, st2⟩ := X1.virtualBack hx (y := (⟨"com/example/punctual_proof/punctualproof/network/Comparison", "holds", "(JJ)Z"⟩ : MethodName)) (z := (⟨"com/example/punctual_proof/punctualproof/network/Comparison", "holds", "(JJ)Z"⟩ : MethodName)) hown (mvT hZ (hw _ (List.mem_of_getElem? (i := 4) rfl))) (mvT hZ (hw _ (List.mem_of_getElem? (i := 5) rfl))) (notFace_of_selects (args := #[]) (mvT hZ (hw _ (List.mem_of_getElem? (i := 7) rfl)))) (mvT hZ (hw _ (List.mem_of_getElem? (i := 7) rfl))) (mvT hZ (hw _ (List.mem_of_getElem? (i := 6) rfl))) (by decide) (backOf (W := 0) (rm1_w2_m l Z a0 hw [] v b hl w h0 n0 Z0 P) hZ (hw _ (List.mem_of_getElem? (i := 8) rfl)) (hw _ (List.mem_of_getElem? (i := 2) rfl)) (by decide) (by decide)) q2a q2c (g := (mkF m 189 #[.val (.int p1), .val (.long v), .second, .val (.long b0), .second, .val (.int p4), .val (.int (2 : Int32)), .val (.int i7), .val (.long b), .second, .val (.ref (w 2)), .val (.int (0 : Int32))] [(.long b), (.long v), (.ref (w 2))])) rfl (by rw [hml]; rfl) (Steps.refl _) (argsL := [(.long v), (.long b)]) (rest := []) (lenOf pd_0 rfl) rfl (by show 2 * 0 + _ ≤ _; exact Nat.le_of_eq rfl) (hb hby at_189) (fun _ _ => ⟨rfl, e1, (by decide : 0 + 0 ≤ _), (by decide : 0 + 0 ≤ _)⟩)
  dsimp only [Pt.U, Pt.locs, Pt.cells, Pt.slots] at X2 l2 y2 z2 st2 hQ2
  subst l2 y2 z2
  obtain ⟨rfl, N2q, e2⟩ := hQ2
  have N2 := Fr.app N0 N2q
  refine own_step (W' := T2.setTop (mkF m 192 #[.val (.int p1), .val (.long v), .second, .val (.long b0), .second, .val (.int p4), .val (.int (2 : Int32)), .val (.int i7), .val (.long b), .second, .val (.ref (w 2)), .val (.int (0 : Int32))] [(.int (0 : Int32))])) (fun _ k => st2.trans k) ?_
  refine own_step (W' := T2.setTop (mkF m 194 #[.val (.int p1), .val (.long v), .second, .val (.long b0), .second, .val (.int p4), .val (.int (2 : Int32)), .val (.int i7), .val (.long b), .second, .val (.ref (w 2)), .val (.int (0 : Int32))] [(.int (0 : Int32)), (.int (0 : Int32))])) (fun _ k => XS.iload X2.here hx rfl (hb hby at_192) rfl k) ?_
  refine own_step (W' := T2.setTop (mkF m 197 #[.val (.int p1), .val (.long v), .second, .val (.long b0), .second, .val (.int p4), .val (.int (2 : Int32)), .val (.int i7), .val (.long b), .second, .val (.ref (w 2)), .val (.int (0 : Int32))] [])) (fun _ k => XS.icmpNo X2.here hx rfl (hb hby at_194) rfl (by decide) k) ?_
  refine own_step (W' := T2.setTop (mkF m 198 #[.val (.int p1), .val (.long v), .second, .val (.long b0), .second, .val (.int p4), .val (.int (2 : Int32)), .val (.int i7), .val (.long b), .second, .val (.ref (w 2)), .val (.int (0 : Int32))] [(.int (1 : Int32))])) (fun _ k => XS.iconst X2.here hx rfl (hb hby at_197) k) ?_
  refine own_step (W' := T2.setTop (mkF m 202 #[.val (.int p1), .val (.long v), .second, .val (.long b0), .second, .val (.int p4), .val (.int (2 : Int32)), .val (.int i7), .val (.long b), .second, .val (.ref (w 2)), .val (.int (0 : Int32))] [(.int (1 : Int32))])) (fun _ k => XS.goto X2.here hx rfl (pc0 := 198) (pc' := 202) rfl (hb hby at_198) (by decide) (by decide) k) ?_
  exact own_ret X2 hlk hret (v := (.int (1 : Int32))) (fun fs hr => retN X2 hx (t := .boolean) hret (by simp) (hb hby at_202) hr) ⟨rfl, N2⟩ (by decide) (by decide)
set_option maxRecDepth 65536 in
set_option maxHeartbeats 40000000 in
theorem rm1_w2_0 (l : Launch) (Z : State) (a0 : Array Value) (hw : ∀ d ∈ tables_1, d.before a0 Z = true) (ws : List Jvm.Cond) (v b : Int64) (hl : lcmpW v b = (0 : Int32)) (w : Nat → Addr) (h0 : Heap) (n0 : Nat) (Z0 : n0 ≤ h0.size) (P : Pins Z h0 w) :
    MetFree l (⟨"com/example/punctual_proof/punctualproof/network/Comparison", "holds", "(JJ)Z"⟩ : MethodName) (head1 (Jvm.Cond.code (⟨"com/example/punctual_proof/punctualproof/network/Comparison", "holds", "(JJ)Z"⟩ : MethodName) prog_62_method_9_code 5 (some .boolean) :: ws) ({ frames := 0, cells := 0, slots := 0, locals := 0 } : Room)) (fun a U => a = #[(.ref (w 2)), (.long v), (.long b)] ∧ Z.Warmed39 U.vm ∧ U.heap = h0) (fun _ _ _ _ _ => True) (fun _ U o U' => ∃ v L, o = .returned v ∧ own_QK (some (.int (1 : Int32))) h0 n0 v U'.heap L ∧ FrameEnd U o U' L ({ frames := 0, cells := 0, slots := 0, locals := 0 } : Room).cells ({ frames := 0, cells := 0, slots := 0, locals := 0 } : Room).slots) := by
  refine MetFree.of_bodySF (plainFor_of_name pn_com_example_punctual_proof_punctualproof_network_Comparison) hisR ?_
  intro p e s m args below meth c s₁ Bd hml0 hP hK
  obtain ⟨rfl, hZ, hh⟩ := hP
  have hx := Bd.exec
  have hby := Bd.bytes
  have hml : c.maxLocals = 5 := hml0
  have hown : s.vm.findClass "com/example/punctual_proof/punctualproof/network/Comparison" = some m.cls := findClass_of_methodNamed Bd.named
  have hnm := (name_of_methodNamed Bd.named Bd.method).1
  have X0 : Stand p l e ({ frames := 0, cells := 0, slots := 0, locals := 0 } : Room) s m #[(.ref (w 2)), (.long v), (.long b)] below meth c s₁ [] 0 0 := Stand.of_body Bd
  have e0 : s₁.heap = h0 := by rw [← hh, Bd.state]; rfl
  have N0 := Fr.nil n0
  refine own_enter (ef_1_RJJ m (w 2) v b) ?_
  refine own_step (W' := s₁.setTop (mkF m 1 #[.val (.ref (w 2)), .val (.long v), .second, .val (.long b), .second] [(.long v)])) (fun _ k => XS.lloadN X0.here hx rfl (hb hby d1_0) rfl k) ?_
  refine own_step (W' := s₁.setTop (mkF m 2 #[.val (.ref (w 2)), .val (.long v), .second, .val (.long b), .second] [(.long b), (.long v)])) (fun _ k => XS.lloadN X0.here hx rfl (hb hby d1_1) rfl k) ?_
  refine own_step (W' := s₁.setTop (mkF m 3 #[.val (.ref (w 2)), .val (.long v), .second, .val (.long b), .second] [(.int (lcmpW v b))])) (fun _ k => XS.lcmp X0.here hx rfl (hb hby d1_2) rfl k) ?_
  rw [hl]
  refine own_step (W' := s₁.setTop (mkF m 6 #[.val (.ref (w 2)), .val (.long v), .second, .val (.long b), .second] [])) (fun _ k => XS.ifNo X0.here hx rfl (hb hby d1_3) rfl (by decide) k) ?_
  refine own_step (W' := s₁.setTop (mkF m 7 #[.val (.ref (w 2)), .val (.long v), .second, .val (.long b), .second] [(.ref (w 2))])) (fun _ k => XS.aloadN X0.here hx rfl (hb hby d1_6) rfl rfl k) ?_
  obtain ⟨T1, X1, e1, st1⟩ := getF X0 hx hZ hown (host := "") (Or.inl (hw _ (List.mem_of_getElem? (i := 13) rfl))) Via.refl e0 (pin_F2_strict P) (g := (mkF m 7 #[.val (.ref (w 2)), .val (.long v), .second, .val (.long b), .second] [(.ref (w 2))])) rfl rfl (hb hby d1_7)
  refine own_step (W' := T1.setTop (mkF m 10 #[.val (.ref (w 2)), .val (.long v), .second, .val (.long b), .second] [(.int (0 : Int32))])) (fun _ k => st1 _ k) ?_
  refine own_step (W' := T1.setTop (mkF m 13 #[.val (.ref (w 2)), .val (.long v), .second, .val (.long b), .second] [])) (fun _ k => XS.ifNo X1.here hx rfl (hb hby d1_10) rfl (by decide) k) ?_
  refine own_step (W' := T1.setTop (mkF m 14 #[.val (.ref (w 2)), .val (.long v), .second, .val (.long b), .second] [(.int (1 : Int32))])) (fun _ k => XS.iconst X1.here hx rfl (hb hby d1_13) k) ?_
  refine own_step (W' := T1.setTop (mkF m 18 #[.val (.ref (w 2)), .val (.long v), .second, .val (.long b), .second] [(.int (1 : Int32))])) (fun _ k => XS.goto X1.here hx rfl (pc0 := 14) (pc' := 18) rfl (hb hby d1_14) (by decide) (by decide) k) ?_
  exact own_ret X1 Bd.notSynchronized Bd.returns (v := (.int (1 : Int32))) (fun fs hr => retN X1 hx (t := .boolean) Bd.returns (by simp) (hb hby d1_18) hr) ⟨rfl, N0, e1⟩ (by decide) (by decide)
set_option maxRecDepth 65536 in
set_option maxHeartbeats 40000000 in
theorem own_tail_2_0 {p : Program} {l : Launch} {e : Env} {s : State} {m : MethodId} {args : Array Value} {below : List Frame} {meth : Method} {c : Code} {s₁ : State} {Z : State} {a0 : Array Value} {h0 : Heap} {n0 : Nat} {w : Nat → Addr} (p1 p4 i7 : Int32) (v b0 b : Int64) (hl : lcmpW v b = (0 : Int32))
    (X0 : Stand p l e room_1 s m args below meth c s₁ [] 0 0) (hx : p.tables.exec = Jvm.exec) (hZ : Z.Warmed39 s.vm) (hw : ∀ d ∈ tables_1, d.before a0 Z = true) (hby : c.code = code) (hml : c.maxLocals = 12) (hown : s.vm.findClass "com/example/punctual_proof/punctualproof/network/ComparisonHoldsPinLaw" = some m.cls) (e0 : s₁.heap = h0) (N0 : Fr n0 []) (Z0 : n0 ≤ h0.size) (P : Pins Z h0 w) (hlk : meth.locks = false) (hret : meth.sig.returnType = ret) :
    own_Done p e below (s₁.setTop (mkF m 54 #[.val (.int p1), .val (.long v), .second, .val (.long b0), .second, .val (.int p4), .val (.int (2 : Int32)), .val (.int i7), .val (.long b), .second, .unset, .unset] [])) (fun o U' => ∃ v L, o = .returned v ∧ own_Q0 n0 v U'.heap L ∧ FrameEnd s o U' L room_1.cells room_1.slots) := by
  refine own_step (W' := s₁.setTop (mkF m 56 #[.val (.int p1), .val (.long v), .second, .val (.long b0), .second, .val (.int p4), .val (.int (2 : Int32)), .val (.int i7), .val (.long b), .second, .unset, .unset] [(.int (2 : Int32))])) (fun _ k => XS.iload X0.here hx rfl (hb hby at_54) rfl k) ?_
  refine own_step (W' := s₁.setTop (mkF m 81 #[.val (.int p1), .val (.long v), .second, .val (.long b0), .second, .val (.int p4), .val (.int (2 : Int32)), .val (.int i7), .val (.long b), .second, .unset, .unset] [])) (fun _ k => XS.ifYes X0.here hx rfl (pc0 := 56) (pc' := 81) rfl (hb hby at_56) rfl (by decide) (by decide) (by decide) k) ?_
  refine own_step (W' := s₁.setTop (mkF m 83 #[.val (.int p1), .val (.long v), .second, .val (.long b0), .second, .val (.int p4), .val (.int (2 : Int32)), .val (.int i7), .val (.long b), .second, .unset, .unset] [(.int (2 : Int32))])) (fun _ k => XS.iload X0.here hx rfl (hb hby at_81) rfl k) ?_
  refine own_step (W' := s₁.setTop (mkF m 84 #[.val (.int p1), .val (.long v), .second, .val (.long b0), .second, .val (.int p4), .val (.int (2 : Int32)), .val (.int i7), .val (.long b), .second, .unset, .unset] [(.int (1 : Int32)), (.int (2 : Int32))])) (fun _ k => XS.iconst X0.here hx rfl (hb hby at_83) k) ?_
  refine own_step (W' := s₁.setTop (mkF m 109 #[.val (.int p1), .val (.long v), .second, .val (.long b0), .second, .val (.int p4), .val (.int (2 : Int32)), .val (.int i7), .val (.long b), .second, .unset, .unset] [])) (fun _ k => XS.icmpYes X0.here hx rfl (pc0 := 84) (pc' := 109) rfl (hb hby at_84) rfl (by decide) (by decide) (by decide) k) ?_
  refine own_step (W' := s₁.setTop (mkF m 111 #[.val (.int p1), .val (.long v), .second, .val (.long b0), .second, .val (.int p4), .val (.int (2 : Int32)), .val (.int i7), .val (.long b), .second, .unset, .unset] [(.int (2 : Int32))])) (fun _ k => XS.iload X0.here hx rfl (hb hby at_109) rfl k) ?_
  refine own_step (W' := s₁.setTop (mkF m 112 #[.val (.int p1), .val (.long v), .second, .val (.long b0), .second, .val (.int p4), .val (.int (2 : Int32)), .val (.int i7), .val (.long b), .second, .unset, .unset] [(.int (2 : Int32)), (.int (2 : Int32))])) (fun _ k => XS.iconst X0.here hx rfl (hb hby at_111) k) ?_
  refine own_step (W' := s₁.setTop (mkF m 115 #[.val (.int p1), .val (.long v), .second, .val (.long b0), .second, .val (.int p4), .val (.int (2 : Int32)), .val (.int i7), .val (.long b), .second, .unset, .unset] [])) (fun _ k => XS.icmpNo X0.here hx rfl (hb hby at_112) rfl (by decide) k) ?_
  obtain ⟨T1, X1, e1, st1⟩ := getS2 X0 hx hZ hown (host := "") (Or.inl (hw _ (List.mem_of_getElem? (i := 17) rfl))) Via.refl e0 (pin_S2 P) (g := (mkF m 115 #[.val (.int p1), .val (.long v), .second, .val (.long b0), .second, .val (.int p4), .val (.int (2 : Int32)), .val (.int i7), .val (.long b), .second, .unset, .unset] [])) rfl (hb hby at_115)
  refine own_step (W' := T1.setTop (mkF m 118 #[.val (.int p1), .val (.long v), .second, .val (.long b0), .second, .val (.int p4), .val (.int (2 : Int32)), .val (.int i7), .val (.long b), .second, .unset, .unset] [(.ref (w 2))])) (fun _ k => st1 _ k) ?_
  refine own_step (W' := T1.setTop (mkF m 120 #[.val (.int p1), .val (.long v), .second, .val (.long b0), .second, .val (.int p4), .val (.int (2 : Int32)), .val (.int i7), .val (.long b), .second, .val (.ref (w 2)), .unset] [])) (fun _ k => XS.astore X1.here hx rfl (hb hby at_118) rfl rfl (l' := #[.val (.int p1), .val (.long v), .second, .val (.long b0), .second, .val (.int p4), .val (.int (2 : Int32)), .val (.int i7), .val (.long b), .second, .val (.ref (w 2)), .unset]) rfl k) ?_
  refine own_step (W' := T1.setTop (mkF m 121 #[.val (.int p1), .val (.long v), .second, .val (.long b0), .second, .val (.int p4), .val (.int (2 : Int32)), .val (.int i7), .val (.long b), .second, .val (.ref (w 2)), .unset] [(.long v)])) (fun _ k => XS.lloadN X1.here hx rfl (hb hby at_120) rfl k) ?_
  refine own_step (W' := T1.setTop (mkF m 123 #[.val (.int p1), .val (.long v), .second, .val (.long b0), .second, .val (.int p4), .val (.int (2 : Int32)), .val (.int i7), .val (.long b), .second, .val (.ref (w 2)), .unset] [(.long b), (.long v)])) (fun _ k => XS.lload X1.here hx rfl (hb hby at_121) rfl k) ?_
  refine own_step (W' := T1.setTop (mkF m 124 #[.val (.int p1), .val (.long v), .second, .val (.long b0), .second, .val (.int p4), .val (.int (2 : Int32)), .val (.int i7), .val (.long b), .second, .val (.ref (w 2)), .unset] [(.int (lcmpW v b))])) (fun _ k => XS.lcmp X1.here hx rfl (hb hby at_123) rfl k) ?_
  rw [hl]
  refine own_step (W' := T1.setTop (mkF m 127 #[.val (.int p1), .val (.long v), .second, .val (.long b0), .second, .val (.int p4), .val (.int (2 : Int32)), .val (.int i7), .val (.long b), .second, .val (.ref (w 2)), .unset] [])) (fun _ k => XS.ifNo X1.here hx rfl (hb hby at_124) rfl (by decide) k) ?_
  refine own_step (W' := T1.setTop (mkF m 128 #[.val (.int p1), .val (.long v), .second, .val (.long b0), .second, .val (.int p4), .val (.int (2 : Int32)), .val (.int i7), .val (.long b), .second, .val (.ref (w 2)), .unset] [(.int (1 : Int32))])) (fun _ k => XS.iconst X1.here hx rfl (hb hby at_127) k) ?_
  refine own_step (W' := T1.setTop (mkF m 132 #[.val (.int p1), .val (.long v), .second, .val (.long b0), .second, .val (.int p4), .val (.int (2 : Int32)), .val (.int i7), .val (.long b), .second, .val (.ref (w 2)), .unset] [(.int (1 : Int32))])) (fun _ k => XS.goto X1.here hx rfl (pc0 := 128) (pc' := 132) rfl (hb hby at_128) (by decide) (by decide) k) ?_
  refine own_step (W' := T1.setTop (mkF m 134 #[.val (.int p1), .val (.long v), .second, .val (.long b0), .second, .val (.int p4), .val (.int (2 : Int32)), .val (.int i7), .val (.long b), .second, .val (.ref (w 2)), .val (.int (1 : Int32))] [])) (fun _ k => XS.istore X1.here hx rfl (hb hby at_132) rfl (l' := #[.val (.int p1), .val (.long v), .second, .val (.long b0), .second, .val (.int p4), .val (.int (2 : Int32)), .val (.int i7), .val (.long b), .second, .val (.ref (w 2)), .val (.int (1 : Int32))]) rfl k) ?_
  refine own_step (W' := T1.setTop (mkF m 184 #[.val (.int p1), .val (.long v), .second, .val (.long b0), .second, .val (.int p4), .val (.int (2 : Int32)), .val (.int i7), .val (.long b), .second, .val (.ref (w 2)), .val (.int (1 : Int32))] [])) (fun _ k => XS.goto X1.here hx rfl (pc0 := 134) (pc' := 184) rfl (hb hby at_134) (by decide) (by decide) k) ?_
  refine own_step (W' := T1.setTop (mkF m 186 #[.val (.int p1), .val (.long v), .second, .val (.long b0), .second, .val (.int p4), .val (.int (2 : Int32)), .val (.int i7), .val (.long b), .second, .val (.ref (w 2)), .val (.int (1 : Int32))] [(.ref (w 2))])) (fun _ k => XS.aload X1.here hx rfl (hb hby at_184) rfl rfl k) ?_
  refine own_step (W' := T1.setTop (mkF m 187 #[.val (.int p1), .val (.long v), .second, .val (.long b0), .second, .val (.int p4), .val (.int (2 : Int32)), .val (.int i7), .val (.long b), .second, .val (.ref (w 2)), .val (.int (1 : Int32))] [(.long v), (.ref (w 2))])) (fun _ k => XS.lloadN X1.here hx rfl (hb hby at_186) rfl k) ?_
  refine own_step (W' := T1.setTop (mkF m 189 #[.val (.int p1), .val (.long v), .second, .val (.long b0), .second, .val (.int p4), .val (.int (2 : Int32)), .val (.int i7), .val (.long b), .second, .val (.ref (w 2)), .val (.int (1 : Int32))] [(.long b), (.long v), (.ref (w 2))])) (fun _ k => XS.lload X1.here hx rfl (hb hby at_187) rfl k) ?_
  obtain ⟨cq2, kq2, q2a, q2b, q2c⟩ := isOf hZ e1 (pin_E2 P)
  obtain ⟨_, _, ⟨T2, L2, k2, n2⟩, -, X2, ⟨Lc2, hQ2, l2, y2, z2⟩, st2⟩ := X1.virtualBack hx (y := (⟨"com/example/punctual_proof/punctualproof/network/Comparison", "holds", "(JJ)Z"⟩ : MethodName)) (z := (⟨"com/example/punctual_proof/punctualproof/network/Comparison", "holds", "(JJ)Z"⟩ : MethodName)) hown (mvT hZ (hw _ (List.mem_of_getElem? (i := 4) rfl))) (mvT hZ (hw _ (List.mem_of_getElem? (i := 5) rfl))) (notFace_of_selects (args := #[]) (mvT hZ (hw _ (List.mem_of_getElem? (i := 7) rfl)))) (mvT hZ (hw _ (List.mem_of_getElem? (i := 7) rfl))) (mvT hZ (hw _ (List.mem_of_getElem? (i := 6) rfl))) (by decide) (backOf (W := 0) (rm1_w2_0 l Z a0 hw [] v b hl w h0 n0 Z0 P) hZ (hw _ (List.mem_of_getElem? (i := 8) rfl)) (hw _ (List.mem_of_getElem? (i := 2) rfl)) (by decide) (by decide)) q2a q2c (g := (mkF m 189 #[.val (.int p1), .val (.long v), .second, .val (.long b0), .second, .val (.int p4), .val (.int (2 : Int32)), .val (.int i7), .val (.long b), .second, .val (.ref (w 2)), .val (.int (1 : Int32))] [(.long b), (.long v), (.ref (w 2))])) rfl (by rw [hml]; rfl) (Steps.refl _) (argsL := [(.long v), (.long b)]) (rest := []) (lenOf pd_0 rfl) rfl (by show 2 * 0 + _ ≤ _; exact Nat.le_of_eq rfl) (hb hby at_189) (fun _ _ => ⟨rfl, e1, (by decide : 0 + 0 ≤ _), (by decide : 0 + 0 ≤ _)⟩)
  dsimp only [Pt.U, Pt.locs, Pt.cells, Pt.slots] at X2 l2 y2 z2 st2 hQ2
  subst l2 y2 z2
  obtain ⟨rfl, N2q, e2⟩ := hQ2
  have N2 := Fr.app N0 N2q
  refine own_step (W' := T2.setTop (mkF m 192 #[.val (.int p1), .val (.long v), .second, .val (.long b0), .second, .val (.int p4), .val (.int (2 : Int32)), .val (.int i7), .val (.long b), .second, .val (.ref (w 2)), .val (.int (1 : Int32))] [(.int (1 : Int32))])) (fun _ k => st2.trans k) ?_
  refine own_step (W' := T2.setTop (mkF m 194 #[.val (.int p1), .val (.long v), .second, .val (.long b0), .second, .val (.int p4), .val (.int (2 : Int32)), .val (.int i7), .val (.long b), .second, .val (.ref (w 2)), .val (.int (1 : Int32))] [(.int (1 : Int32)), (.int (1 : Int32))])) (fun _ k => XS.iload X2.here hx rfl (hb hby at_192) rfl k) ?_
  refine own_step (W' := T2.setTop (mkF m 197 #[.val (.int p1), .val (.long v), .second, .val (.long b0), .second, .val (.int p4), .val (.int (2 : Int32)), .val (.int i7), .val (.long b), .second, .val (.ref (w 2)), .val (.int (1 : Int32))] [])) (fun _ k => XS.icmpNo X2.here hx rfl (hb hby at_194) rfl (by decide) k) ?_
  refine own_step (W' := T2.setTop (mkF m 198 #[.val (.int p1), .val (.long v), .second, .val (.long b0), .second, .val (.int p4), .val (.int (2 : Int32)), .val (.int i7), .val (.long b), .second, .val (.ref (w 2)), .val (.int (1 : Int32))] [(.int (1 : Int32))])) (fun _ k => XS.iconst X2.here hx rfl (hb hby at_197) k) ?_
  refine own_step (W' := T2.setTop (mkF m 202 #[.val (.int p1), .val (.long v), .second, .val (.long b0), .second, .val (.int p4), .val (.int (2 : Int32)), .val (.int i7), .val (.long b), .second, .val (.ref (w 2)), .val (.int (1 : Int32))] [(.int (1 : Int32))])) (fun _ k => XS.goto X2.here hx rfl (pc0 := 198) (pc' := 202) rfl (hb hby at_198) (by decide) (by decide) k) ?_
  exact own_ret X2 hlk hret (v := (.int (1 : Int32))) (fun fs hr => retN X2 hx (t := .boolean) hret (by simp) (hb hby at_202) hr) ⟨rfl, N2⟩ (by decide) (by decide)
set_option maxRecDepth 65536 in
set_option maxHeartbeats 40000000 in
theorem rm1_w2_1 (l : Launch) (Z : State) (a0 : Array Value) (hw : ∀ d ∈ tables_1, d.before a0 Z = true) (ws : List Jvm.Cond) (v b : Int64) (hl : lcmpW v b = (1 : Int32)) (w : Nat → Addr) (h0 : Heap) (n0 : Nat) (Z0 : n0 ≤ h0.size) (P : Pins Z h0 w) :
    MetFree l (⟨"com/example/punctual_proof/punctualproof/network/Comparison", "holds", "(JJ)Z"⟩ : MethodName) (head1 (Jvm.Cond.code (⟨"com/example/punctual_proof/punctualproof/network/Comparison", "holds", "(JJ)Z"⟩ : MethodName) prog_62_method_9_code 5 (some .boolean) :: ws) ({ frames := 0, cells := 0, slots := 0, locals := 0 } : Room)) (fun a U => a = #[(.ref (w 2)), (.long v), (.long b)] ∧ Z.Warmed39 U.vm ∧ U.heap = h0) (fun _ _ _ _ _ => True) (fun _ U o U' => ∃ v L, o = .returned v ∧ own_QK (some (.int (0 : Int32))) h0 n0 v U'.heap L ∧ FrameEnd U o U' L ({ frames := 0, cells := 0, slots := 0, locals := 0 } : Room).cells ({ frames := 0, cells := 0, slots := 0, locals := 0 } : Room).slots) := by
  refine MetFree.of_bodySF (plainFor_of_name pn_com_example_punctual_proof_punctualproof_network_Comparison) hisR ?_
  intro p e s m args below meth c s₁ Bd hml0 hP hK
  obtain ⟨rfl, hZ, hh⟩ := hP
  have hx := Bd.exec
  have hby := Bd.bytes
  have hml : c.maxLocals = 5 := hml0
  have hown : s.vm.findClass "com/example/punctual_proof/punctualproof/network/Comparison" = some m.cls := findClass_of_methodNamed Bd.named
  have hnm := (name_of_methodNamed Bd.named Bd.method).1
  have X0 : Stand p l e ({ frames := 0, cells := 0, slots := 0, locals := 0 } : Room) s m #[(.ref (w 2)), (.long v), (.long b)] below meth c s₁ [] 0 0 := Stand.of_body Bd
  have e0 : s₁.heap = h0 := by rw [← hh, Bd.state]; rfl
  have N0 := Fr.nil n0
  refine own_enter (ef_1_RJJ m (w 2) v b) ?_
  refine own_step (W' := s₁.setTop (mkF m 1 #[.val (.ref (w 2)), .val (.long v), .second, .val (.long b), .second] [(.long v)])) (fun _ k => XS.lloadN X0.here hx rfl (hb hby d1_0) rfl k) ?_
  refine own_step (W' := s₁.setTop (mkF m 2 #[.val (.ref (w 2)), .val (.long v), .second, .val (.long b), .second] [(.long b), (.long v)])) (fun _ k => XS.lloadN X0.here hx rfl (hb hby d1_1) rfl k) ?_
  refine own_step (W' := s₁.setTop (mkF m 3 #[.val (.ref (w 2)), .val (.long v), .second, .val (.long b), .second] [(.int (lcmpW v b))])) (fun _ k => XS.lcmp X0.here hx rfl (hb hby d1_2) rfl k) ?_
  rw [hl]
  refine own_step (W' := s₁.setTop (mkF m 19 #[.val (.ref (w 2)), .val (.long v), .second, .val (.long b), .second] [])) (fun _ k => XS.ifYes X0.here hx rfl (pc0 := 3) (pc' := 19) rfl (hb hby d1_3) rfl (by decide) (by decide) (by decide) k) ?_
  refine own_step (W' := s₁.setTop (mkF m 20 #[.val (.ref (w 2)), .val (.long v), .second, .val (.long b), .second] [(.long v)])) (fun _ k => XS.lloadN X0.here hx rfl (hb hby d1_19) rfl k) ?_
  refine own_step (W' := s₁.setTop (mkF m 21 #[.val (.ref (w 2)), .val (.long v), .second, .val (.long b), .second] [(.long b), (.long v)])) (fun _ k => XS.lloadN X0.here hx rfl (hb hby d1_20) rfl k) ?_
  refine own_step (W' := s₁.setTop (mkF m 22 #[.val (.ref (w 2)), .val (.long v), .second, .val (.long b), .second] [(.int (lcmpW v b))])) (fun _ k => XS.lcmp X0.here hx rfl (hb hby d1_21) rfl k) ?_
  rw [hl]
  refine own_step (W' := s₁.setTop (mkF m 40 #[.val (.ref (w 2)), .val (.long v), .second, .val (.long b), .second] [])) (fun _ k => XS.ifYes X0.here hx rfl (pc0 := 22) (pc' := 40) rfl (hb hby d1_22) rfl (by decide) (by decide) (by decide) k) ?_
  refine own_step (W' := s₁.setTop (mkF m 41 #[.val (.ref (w 2)), .val (.long v), .second, .val (.long b), .second] [(.ref (w 2))])) (fun _ k => XS.aloadN X0.here hx rfl (hb hby d1_40) rfl rfl k) ?_
  obtain ⟨T1, X1, e1, st1⟩ := getF X0 hx hZ hown (host := "") (Or.inl (hw _ (List.mem_of_getElem? (i := 9) rfl))) Via.refl e0 (pin_F2_boundsAbove P) (g := (mkF m 41 #[.val (.ref (w 2)), .val (.long v), .second, .val (.long b), .second] [(.ref (w 2))])) rfl rfl (hb hby d1_41)
  refine own_step (W' := T1.setTop (mkF m 44 #[.val (.ref (w 2)), .val (.long v), .second, .val (.long b), .second] [(.int (1 : Int32))])) (fun _ k => st1 _ k) ?_
  refine own_step (W' := T1.setTop (mkF m 51 #[.val (.ref (w 2)), .val (.long v), .second, .val (.long b), .second] [])) (fun _ k => XS.ifYes X1.here hx rfl (pc0 := 44) (pc' := 51) rfl (hb hby d1_44) rfl (by decide) (by decide) (by decide) k) ?_
  refine own_step (W' := T1.setTop (mkF m 52 #[.val (.ref (w 2)), .val (.long v), .second, .val (.long b), .second] [(.int (0 : Int32))])) (fun _ k => XS.iconst X1.here hx rfl (hb hby d1_51) k) ?_
  exact own_ret X1 Bd.notSynchronized Bd.returns (v := (.int (0 : Int32))) (fun fs hr => retN X1 hx (t := .boolean) Bd.returns (by simp) (hb hby d1_52) hr) ⟨rfl, N0, e1⟩ (by decide) (by decide)
set_option maxRecDepth 65536 in
set_option maxHeartbeats 40000000 in
theorem own_tail_2_1 {p : Program} {l : Launch} {e : Env} {s : State} {m : MethodId} {args : Array Value} {below : List Frame} {meth : Method} {c : Code} {s₁ : State} {Z : State} {a0 : Array Value} {h0 : Heap} {n0 : Nat} {w : Nat → Addr} (p1 p4 i7 : Int32) (v b0 b : Int64) (hl : lcmpW v b = (1 : Int32))
    (X0 : Stand p l e room_1 s m args below meth c s₁ [] 0 0) (hx : p.tables.exec = Jvm.exec) (hZ : Z.Warmed39 s.vm) (hw : ∀ d ∈ tables_1, d.before a0 Z = true) (hby : c.code = code) (hml : c.maxLocals = 12) (hown : s.vm.findClass "com/example/punctual_proof/punctualproof/network/ComparisonHoldsPinLaw" = some m.cls) (e0 : s₁.heap = h0) (N0 : Fr n0 []) (Z0 : n0 ≤ h0.size) (P : Pins Z h0 w) (hlk : meth.locks = false) (hret : meth.sig.returnType = ret) :
    own_Done p e below (s₁.setTop (mkF m 54 #[.val (.int p1), .val (.long v), .second, .val (.long b0), .second, .val (.int p4), .val (.int (2 : Int32)), .val (.int i7), .val (.long b), .second, .unset, .unset] [])) (fun o U' => ∃ v L, o = .returned v ∧ own_Q0 n0 v U'.heap L ∧ FrameEnd s o U' L room_1.cells room_1.slots) := by
  refine own_step (W' := s₁.setTop (mkF m 56 #[.val (.int p1), .val (.long v), .second, .val (.long b0), .second, .val (.int p4), .val (.int (2 : Int32)), .val (.int i7), .val (.long b), .second, .unset, .unset] [(.int (2 : Int32))])) (fun _ k => XS.iload X0.here hx rfl (hb hby at_54) rfl k) ?_
  refine own_step (W' := s₁.setTop (mkF m 81 #[.val (.int p1), .val (.long v), .second, .val (.long b0), .second, .val (.int p4), .val (.int (2 : Int32)), .val (.int i7), .val (.long b), .second, .unset, .unset] [])) (fun _ k => XS.ifYes X0.here hx rfl (pc0 := 56) (pc' := 81) rfl (hb hby at_56) rfl (by decide) (by decide) (by decide) k) ?_
  refine own_step (W' := s₁.setTop (mkF m 83 #[.val (.int p1), .val (.long v), .second, .val (.long b0), .second, .val (.int p4), .val (.int (2 : Int32)), .val (.int i7), .val (.long b), .second, .unset, .unset] [(.int (2 : Int32))])) (fun _ k => XS.iload X0.here hx rfl (hb hby at_81) rfl k) ?_
  refine own_step (W' := s₁.setTop (mkF m 84 #[.val (.int p1), .val (.long v), .second, .val (.long b0), .second, .val (.int p4), .val (.int (2 : Int32)), .val (.int i7), .val (.long b), .second, .unset, .unset] [(.int (1 : Int32)), (.int (2 : Int32))])) (fun _ k => XS.iconst X0.here hx rfl (hb hby at_83) k) ?_
  refine own_step (W' := s₁.setTop (mkF m 109 #[.val (.int p1), .val (.long v), .second, .val (.long b0), .second, .val (.int p4), .val (.int (2 : Int32)), .val (.int i7), .val (.long b), .second, .unset, .unset] [])) (fun _ k => XS.icmpYes X0.here hx rfl (pc0 := 84) (pc' := 109) rfl (hb hby at_84) rfl (by decide) (by decide) (by decide) k) ?_
  refine own_step (W' := s₁.setTop (mkF m 111 #[.val (.int p1), .val (.long v), .second, .val (.long b0), .second, .val (.int p4), .val (.int (2 : Int32)), .val (.int i7), .val (.long b), .second, .unset, .unset] [(.int (2 : Int32))])) (fun _ k => XS.iload X0.here hx rfl (hb hby at_109) rfl k) ?_
  refine own_step (W' := s₁.setTop (mkF m 112 #[.val (.int p1), .val (.long v), .second, .val (.long b0), .second, .val (.int p4), .val (.int (2 : Int32)), .val (.int i7), .val (.long b), .second, .unset, .unset] [(.int (2 : Int32)), (.int (2 : Int32))])) (fun _ k => XS.iconst X0.here hx rfl (hb hby at_111) k) ?_
  refine own_step (W' := s₁.setTop (mkF m 115 #[.val (.int p1), .val (.long v), .second, .val (.long b0), .second, .val (.int p4), .val (.int (2 : Int32)), .val (.int i7), .val (.long b), .second, .unset, .unset] [])) (fun _ k => XS.icmpNo X0.here hx rfl (hb hby at_112) rfl (by decide) k) ?_
  obtain ⟨T1, X1, e1, st1⟩ := getS2 X0 hx hZ hown (host := "") (Or.inl (hw _ (List.mem_of_getElem? (i := 17) rfl))) Via.refl e0 (pin_S2 P) (g := (mkF m 115 #[.val (.int p1), .val (.long v), .second, .val (.long b0), .second, .val (.int p4), .val (.int (2 : Int32)), .val (.int i7), .val (.long b), .second, .unset, .unset] [])) rfl (hb hby at_115)
  refine own_step (W' := T1.setTop (mkF m 118 #[.val (.int p1), .val (.long v), .second, .val (.long b0), .second, .val (.int p4), .val (.int (2 : Int32)), .val (.int i7), .val (.long b), .second, .unset, .unset] [(.ref (w 2))])) (fun _ k => st1 _ k) ?_
  refine own_step (W' := T1.setTop (mkF m 120 #[.val (.int p1), .val (.long v), .second, .val (.long b0), .second, .val (.int p4), .val (.int (2 : Int32)), .val (.int i7), .val (.long b), .second, .val (.ref (w 2)), .unset] [])) (fun _ k => XS.astore X1.here hx rfl (hb hby at_118) rfl rfl (l' := #[.val (.int p1), .val (.long v), .second, .val (.long b0), .second, .val (.int p4), .val (.int (2 : Int32)), .val (.int i7), .val (.long b), .second, .val (.ref (w 2)), .unset]) rfl k) ?_
  refine own_step (W' := T1.setTop (mkF m 121 #[.val (.int p1), .val (.long v), .second, .val (.long b0), .second, .val (.int p4), .val (.int (2 : Int32)), .val (.int i7), .val (.long b), .second, .val (.ref (w 2)), .unset] [(.long v)])) (fun _ k => XS.lloadN X1.here hx rfl (hb hby at_120) rfl k) ?_
  refine own_step (W' := T1.setTop (mkF m 123 #[.val (.int p1), .val (.long v), .second, .val (.long b0), .second, .val (.int p4), .val (.int (2 : Int32)), .val (.int i7), .val (.long b), .second, .val (.ref (w 2)), .unset] [(.long b), (.long v)])) (fun _ k => XS.lload X1.here hx rfl (hb hby at_121) rfl k) ?_
  refine own_step (W' := T1.setTop (mkF m 124 #[.val (.int p1), .val (.long v), .second, .val (.long b0), .second, .val (.int p4), .val (.int (2 : Int32)), .val (.int i7), .val (.long b), .second, .val (.ref (w 2)), .unset] [(.int (lcmpW v b))])) (fun _ k => XS.lcmp X1.here hx rfl (hb hby at_123) rfl k) ?_
  rw [hl]
  refine own_step (W' := T1.setTop (mkF m 131 #[.val (.int p1), .val (.long v), .second, .val (.long b0), .second, .val (.int p4), .val (.int (2 : Int32)), .val (.int i7), .val (.long b), .second, .val (.ref (w 2)), .unset] [])) (fun _ k => XS.ifYes X1.here hx rfl (pc0 := 124) (pc' := 131) rfl (hb hby at_124) rfl (by decide) (by decide) (by decide) k) ?_
  refine own_step (W' := T1.setTop (mkF m 132 #[.val (.int p1), .val (.long v), .second, .val (.long b0), .second, .val (.int p4), .val (.int (2 : Int32)), .val (.int i7), .val (.long b), .second, .val (.ref (w 2)), .unset] [(.int (0 : Int32))])) (fun _ k => XS.iconst X1.here hx rfl (hb hby at_131) k) ?_
  refine own_step (W' := T1.setTop (mkF m 134 #[.val (.int p1), .val (.long v), .second, .val (.long b0), .second, .val (.int p4), .val (.int (2 : Int32)), .val (.int i7), .val (.long b), .second, .val (.ref (w 2)), .val (.int (0 : Int32))] [])) (fun _ k => XS.istore X1.here hx rfl (hb hby at_132) rfl (l' := #[.val (.int p1), .val (.long v), .second, .val (.long b0), .second, .val (.int p4), .val (.int (2 : Int32)), .val (.int i7), .val (.long b), .second, .val (.ref (w 2)), .val (.int (0 : Int32))]) rfl k) ?_
  refine own_step (W' := T1.setTop (mkF m 184 #[.val (.int p1), .val (.long v), .second, .val (.long b0), .second, .val (.int p4), .val (.int (2 : Int32)), .val (.int i7), .val (.long b), .second, .val (.ref (w 2)), .val (.int (0 : Int32))] [])) (fun _ k => XS.goto X1.here hx rfl (pc0 := 134) (pc' := 184) rfl (hb hby at_134) (by decide) (by decide) k) ?_
  refine own_step (W' := T1.setTop (mkF m 186 #[.val (.int p1), .val (.long v), .second, .val (.long b0), .second, .val (.int p4), .val (.int (2 : Int32)), .val (.int i7), .val (.long b), .second, .val (.ref (w 2)), .val (.int (0 : Int32))] [(.ref (w 2))])) (fun _ k => XS.aload X1.here hx rfl (hb hby at_184) rfl rfl k) ?_
  refine own_step (W' := T1.setTop (mkF m 187 #[.val (.int p1), .val (.long v), .second, .val (.long b0), .second, .val (.int p4), .val (.int (2 : Int32)), .val (.int i7), .val (.long b), .second, .val (.ref (w 2)), .val (.int (0 : Int32))] [(.long v), (.ref (w 2))])) (fun _ k => XS.lloadN X1.here hx rfl (hb hby at_186) rfl k) ?_
  refine own_step (W' := T1.setTop (mkF m 189 #[.val (.int p1), .val (.long v), .second, .val (.long b0), .second, .val (.int p4), .val (.int (2 : Int32)), .val (.int i7), .val (.long b), .second, .val (.ref (w 2)), .val (.int (0 : Int32))] [(.long b), (.long v), (.ref (w 2))])) (fun _ k => XS.lload X1.here hx rfl (hb hby at_187) rfl k) ?_
  obtain ⟨cq2, kq2, q2a, q2b, q2c⟩ := isOf hZ e1 (pin_E2 P)
  obtain ⟨_, _, ⟨T2, L2, k2, n2⟩, -, X2, ⟨Lc2, hQ2, l2, y2, z2⟩, st2⟩ := X1.virtualBack hx (y := (⟨"com/example/punctual_proof/punctualproof/network/Comparison", "holds", "(JJ)Z"⟩ : MethodName)) (z := (⟨"com/example/punctual_proof/punctualproof/network/Comparison", "holds", "(JJ)Z"⟩ : MethodName)) hown (mvT hZ (hw _ (List.mem_of_getElem? (i := 4) rfl))) (mvT hZ (hw _ (List.mem_of_getElem? (i := 5) rfl))) (notFace_of_selects (args := #[]) (mvT hZ (hw _ (List.mem_of_getElem? (i := 7) rfl)))) (mvT hZ (hw _ (List.mem_of_getElem? (i := 7) rfl))) (mvT hZ (hw _ (List.mem_of_getElem? (i := 6) rfl))) (by decide) (backOf (W := 0) (rm1_w2_1 l Z a0 hw [] v b hl w h0 n0 Z0 P) hZ (hw _ (List.mem_of_getElem? (i := 8) rfl)) (hw _ (List.mem_of_getElem? (i := 2) rfl)) (by decide) (by decide)) q2a q2c (g := (mkF m 189 #[.val (.int p1), .val (.long v), .second, .val (.long b0), .second, .val (.int p4), .val (.int (2 : Int32)), .val (.int i7), .val (.long b), .second, .val (.ref (w 2)), .val (.int (0 : Int32))] [(.long b), (.long v), (.ref (w 2))])) rfl (by rw [hml]; rfl) (Steps.refl _) (argsL := [(.long v), (.long b)]) (rest := []) (lenOf pd_0 rfl) rfl (by show 2 * 0 + _ ≤ _; exact Nat.le_of_eq rfl) (hb hby at_189) (fun _ _ => ⟨rfl, e1, (by decide : 0 + 0 ≤ _), (by decide : 0 + 0 ≤ _)⟩)
  dsimp only [Pt.U, Pt.locs, Pt.cells, Pt.slots] at X2 l2 y2 z2 st2 hQ2
  subst l2 y2 z2
  obtain ⟨rfl, N2q, e2⟩ := hQ2
  have N2 := Fr.app N0 N2q
  refine own_step (W' := T2.setTop (mkF m 192 #[.val (.int p1), .val (.long v), .second, .val (.long b0), .second, .val (.int p4), .val (.int (2 : Int32)), .val (.int i7), .val (.long b), .second, .val (.ref (w 2)), .val (.int (0 : Int32))] [(.int (0 : Int32))])) (fun _ k => st2.trans k) ?_
  refine own_step (W' := T2.setTop (mkF m 194 #[.val (.int p1), .val (.long v), .second, .val (.long b0), .second, .val (.int p4), .val (.int (2 : Int32)), .val (.int i7), .val (.long b), .second, .val (.ref (w 2)), .val (.int (0 : Int32))] [(.int (0 : Int32)), (.int (0 : Int32))])) (fun _ k => XS.iload X2.here hx rfl (hb hby at_192) rfl k) ?_
  refine own_step (W' := T2.setTop (mkF m 197 #[.val (.int p1), .val (.long v), .second, .val (.long b0), .second, .val (.int p4), .val (.int (2 : Int32)), .val (.int i7), .val (.long b), .second, .val (.ref (w 2)), .val (.int (0 : Int32))] [])) (fun _ k => XS.icmpNo X2.here hx rfl (hb hby at_194) rfl (by decide) k) ?_
  refine own_step (W' := T2.setTop (mkF m 198 #[.val (.int p1), .val (.long v), .second, .val (.long b0), .second, .val (.int p4), .val (.int (2 : Int32)), .val (.int i7), .val (.long b), .second, .val (.ref (w 2)), .val (.int (0 : Int32))] [(.int (1 : Int32))])) (fun _ k => XS.iconst X2.here hx rfl (hb hby at_197) k) ?_
  refine own_step (W' := T2.setTop (mkF m 202 #[.val (.int p1), .val (.long v), .second, .val (.long b0), .second, .val (.int p4), .val (.int (2 : Int32)), .val (.int i7), .val (.long b), .second, .val (.ref (w 2)), .val (.int (0 : Int32))] [(.int (1 : Int32))])) (fun _ k => XS.goto X2.here hx rfl (pc0 := 198) (pc' := 202) rfl (hb hby at_198) (by decide) (by decide) k) ?_
  exact own_ret X2 hlk hret (v := (.int (1 : Int32))) (fun fs hr => retN X2 hx (t := .boolean) hret (by simp) (hb hby at_202) hr) ⟨rfl, N2⟩ (by decide) (by decide)
set_option maxRecDepth 65536 in
set_option maxHeartbeats 40000000 in
theorem rm1_w3_m (l : Launch) (Z : State) (a0 : Array Value) (hw : ∀ d ∈ tables_1, d.before a0 Z = true) (ws : List Jvm.Cond) (v b : Int64) (hl : lcmpW v b = (-1 : Int32)) (w : Nat → Addr) (h0 : Heap) (n0 : Nat) (Z0 : n0 ≤ h0.size) (P : Pins Z h0 w) :
    MetFree l (⟨"com/example/punctual_proof/punctualproof/network/Comparison", "holds", "(JJ)Z"⟩ : MethodName) (head1 (Jvm.Cond.code (⟨"com/example/punctual_proof/punctualproof/network/Comparison", "holds", "(JJ)Z"⟩ : MethodName) prog_62_method_9_code 5 (some .boolean) :: ws) ({ frames := 0, cells := 0, slots := 0, locals := 0 } : Room)) (fun a U => a = #[(.ref (w 3)), (.long v), (.long b)] ∧ Z.Warmed39 U.vm ∧ U.heap = h0) (fun _ _ _ _ _ => True) (fun _ U o U' => ∃ v L, o = .returned v ∧ own_QK (some (.int (0 : Int32))) h0 n0 v U'.heap L ∧ FrameEnd U o U' L ({ frames := 0, cells := 0, slots := 0, locals := 0 } : Room).cells ({ frames := 0, cells := 0, slots := 0, locals := 0 } : Room).slots) := by
  refine MetFree.of_bodySF (plainFor_of_name pn_com_example_punctual_proof_punctualproof_network_Comparison) hisR ?_
  intro p e s m args below meth c s₁ Bd hml0 hP hK
  obtain ⟨rfl, hZ, hh⟩ := hP
  have hx := Bd.exec
  have hby := Bd.bytes
  have hml : c.maxLocals = 5 := hml0
  have hown : s.vm.findClass "com/example/punctual_proof/punctualproof/network/Comparison" = some m.cls := findClass_of_methodNamed Bd.named
  have hnm := (name_of_methodNamed Bd.named Bd.method).1
  have X0 : Stand p l e ({ frames := 0, cells := 0, slots := 0, locals := 0 } : Room) s m #[(.ref (w 3)), (.long v), (.long b)] below meth c s₁ [] 0 0 := Stand.of_body Bd
  have e0 : s₁.heap = h0 := by rw [← hh, Bd.state]; rfl
  have N0 := Fr.nil n0
  refine own_enter (ef_1_RJJ m (w 3) v b) ?_
  refine own_step (W' := s₁.setTop (mkF m 1 #[.val (.ref (w 3)), .val (.long v), .second, .val (.long b), .second] [(.long v)])) (fun _ k => XS.lloadN X0.here hx rfl (hb hby d1_0) rfl k) ?_
  refine own_step (W' := s₁.setTop (mkF m 2 #[.val (.ref (w 3)), .val (.long v), .second, .val (.long b), .second] [(.long b), (.long v)])) (fun _ k => XS.lloadN X0.here hx rfl (hb hby d1_1) rfl k) ?_
  refine own_step (W' := s₁.setTop (mkF m 3 #[.val (.ref (w 3)), .val (.long v), .second, .val (.long b), .second] [(.int (lcmpW v b))])) (fun _ k => XS.lcmp X0.here hx rfl (hb hby d1_2) rfl k) ?_
  rw [hl]
  refine own_step (W' := s₁.setTop (mkF m 19 #[.val (.ref (w 3)), .val (.long v), .second, .val (.long b), .second] [])) (fun _ k => XS.ifYes X0.here hx rfl (pc0 := 3) (pc' := 19) rfl (hb hby d1_3) rfl (by decide) (by decide) (by decide) k) ?_
  refine own_step (W' := s₁.setTop (mkF m 20 #[.val (.ref (w 3)), .val (.long v), .second, .val (.long b), .second] [(.long v)])) (fun _ k => XS.lloadN X0.here hx rfl (hb hby d1_19) rfl k) ?_
  refine own_step (W' := s₁.setTop (mkF m 21 #[.val (.ref (w 3)), .val (.long v), .second, .val (.long b), .second] [(.long b), (.long v)])) (fun _ k => XS.lloadN X0.here hx rfl (hb hby d1_20) rfl k) ?_
  refine own_step (W' := s₁.setTop (mkF m 22 #[.val (.ref (w 3)), .val (.long v), .second, .val (.long b), .second] [(.int (lcmpW v b))])) (fun _ k => XS.lcmp X0.here hx rfl (hb hby d1_21) rfl k) ?_
  rw [hl]
  refine own_step (W' := s₁.setTop (mkF m 25 #[.val (.ref (w 3)), .val (.long v), .second, .val (.long b), .second] [])) (fun _ k => XS.ifNo X0.here hx rfl (hb hby d1_22) rfl (by decide) k) ?_
  refine own_step (W' := s₁.setTop (mkF m 26 #[.val (.ref (w 3)), .val (.long v), .second, .val (.long b), .second] [(.ref (w 3))])) (fun _ k => XS.aloadN X0.here hx rfl (hb hby d1_25) rfl rfl k) ?_
  obtain ⟨T1, X1, e1, st1⟩ := getF X0 hx hZ hown (host := "") (Or.inl (hw _ (List.mem_of_getElem? (i := 15) rfl))) Via.refl e0 (pin_F3_boundsBelow P) (g := (mkF m 26 #[.val (.ref (w 3)), .val (.long v), .second, .val (.long b), .second] [(.ref (w 3))])) rfl rfl (hb hby d1_26)
  refine own_step (W' := T1.setTop (mkF m 29 #[.val (.ref (w 3)), .val (.long v), .second, .val (.long b), .second] [(.int (1 : Int32))])) (fun _ k => st1 _ k) ?_
  refine own_step (W' := T1.setTop (mkF m 36 #[.val (.ref (w 3)), .val (.long v), .second, .val (.long b), .second] [])) (fun _ k => XS.ifYes X1.here hx rfl (pc0 := 29) (pc' := 36) rfl (hb hby d1_29) rfl (by decide) (by decide) (by decide) k) ?_
  refine own_step (W' := T1.setTop (mkF m 37 #[.val (.ref (w 3)), .val (.long v), .second, .val (.long b), .second] [(.int (0 : Int32))])) (fun _ k => XS.iconst X1.here hx rfl (hb hby d1_36) k) ?_
  refine own_step (W' := T1.setTop (mkF m 52 #[.val (.ref (w 3)), .val (.long v), .second, .val (.long b), .second] [(.int (0 : Int32))])) (fun _ k => XS.goto X1.here hx rfl (pc0 := 37) (pc' := 52) rfl (hb hby d1_37) (by decide) (by decide) k) ?_
  exact own_ret X1 Bd.notSynchronized Bd.returns (v := (.int (0 : Int32))) (fun fs hr => retN X1 hx (t := .boolean) Bd.returns (by simp) (hb hby d1_52) hr) ⟨rfl, N0, e1⟩ (by decide) (by decide)
set_option maxRecDepth 65536 in
set_option maxHeartbeats 40000000 in
theorem own_tail_3_m {p : Program} {l : Launch} {e : Env} {s : State} {m : MethodId} {args : Array Value} {below : List Frame} {meth : Method} {c : Code} {s₁ : State} {Z : State} {a0 : Array Value} {h0 : Heap} {n0 : Nat} {w : Nat → Addr} (p1 p4 i7 : Int32) (v b0 b : Int64) (hl : lcmpW v b = (-1 : Int32))
    (X0 : Stand p l e room_1 s m args below meth c s₁ [] 0 0) (hx : p.tables.exec = Jvm.exec) (hZ : Z.Warmed39 s.vm) (hw : ∀ d ∈ tables_1, d.before a0 Z = true) (hby : c.code = code) (hml : c.maxLocals = 12) (hown : s.vm.findClass "com/example/punctual_proof/punctualproof/network/ComparisonHoldsPinLaw" = some m.cls) (e0 : s₁.heap = h0) (N0 : Fr n0 []) (Z0 : n0 ≤ h0.size) (P : Pins Z h0 w) (hlk : meth.locks = false) (hret : meth.sig.returnType = ret) :
    own_Done p e below (s₁.setTop (mkF m 54 #[.val (.int p1), .val (.long v), .second, .val (.long b0), .second, .val (.int p4), .val (.int (3 : Int32)), .val (.int i7), .val (.long b), .second, .unset, .unset] [])) (fun o U' => ∃ v L, o = .returned v ∧ own_Q0 n0 v U'.heap L ∧ FrameEnd s o U' L room_1.cells room_1.slots) := by
  refine own_step (W' := s₁.setTop (mkF m 56 #[.val (.int p1), .val (.long v), .second, .val (.long b0), .second, .val (.int p4), .val (.int (3 : Int32)), .val (.int i7), .val (.long b), .second, .unset, .unset] [(.int (3 : Int32))])) (fun _ k => XS.iload X0.here hx rfl (hb hby at_54) rfl k) ?_
  refine own_step (W' := s₁.setTop (mkF m 81 #[.val (.int p1), .val (.long v), .second, .val (.long b0), .second, .val (.int p4), .val (.int (3 : Int32)), .val (.int i7), .val (.long b), .second, .unset, .unset] [])) (fun _ k => XS.ifYes X0.here hx rfl (pc0 := 56) (pc' := 81) rfl (hb hby at_56) rfl (by decide) (by decide) (by decide) k) ?_
  refine own_step (W' := s₁.setTop (mkF m 83 #[.val (.int p1), .val (.long v), .second, .val (.long b0), .second, .val (.int p4), .val (.int (3 : Int32)), .val (.int i7), .val (.long b), .second, .unset, .unset] [(.int (3 : Int32))])) (fun _ k => XS.iload X0.here hx rfl (hb hby at_81) rfl k) ?_
  refine own_step (W' := s₁.setTop (mkF m 84 #[.val (.int p1), .val (.long v), .second, .val (.long b0), .second, .val (.int p4), .val (.int (3 : Int32)), .val (.int i7), .val (.long b), .second, .unset, .unset] [(.int (1 : Int32)), (.int (3 : Int32))])) (fun _ k => XS.iconst X0.here hx rfl (hb hby at_83) k) ?_
  refine own_step (W' := s₁.setTop (mkF m 109 #[.val (.int p1), .val (.long v), .second, .val (.long b0), .second, .val (.int p4), .val (.int (3 : Int32)), .val (.int i7), .val (.long b), .second, .unset, .unset] [])) (fun _ k => XS.icmpYes X0.here hx rfl (pc0 := 84) (pc' := 109) rfl (hb hby at_84) rfl (by decide) (by decide) (by decide) k) ?_
  refine own_step (W' := s₁.setTop (mkF m 111 #[.val (.int p1), .val (.long v), .second, .val (.long b0), .second, .val (.int p4), .val (.int (3 : Int32)), .val (.int i7), .val (.long b), .second, .unset, .unset] [(.int (3 : Int32))])) (fun _ k => XS.iload X0.here hx rfl (hb hby at_109) rfl k) ?_
  refine own_step (W' := s₁.setTop (mkF m 112 #[.val (.int p1), .val (.long v), .second, .val (.long b0), .second, .val (.int p4), .val (.int (3 : Int32)), .val (.int i7), .val (.long b), .second, .unset, .unset] [(.int (2 : Int32)), (.int (3 : Int32))])) (fun _ k => XS.iconst X0.here hx rfl (hb hby at_111) k) ?_
  refine own_step (W' := s₁.setTop (mkF m 137 #[.val (.int p1), .val (.long v), .second, .val (.long b0), .second, .val (.int p4), .val (.int (3 : Int32)), .val (.int i7), .val (.long b), .second, .unset, .unset] [])) (fun _ k => XS.icmpYes X0.here hx rfl (pc0 := 112) (pc' := 137) rfl (hb hby at_112) rfl (by decide) (by decide) (by decide) k) ?_
  refine own_step (W' := s₁.setTop (mkF m 139 #[.val (.int p1), .val (.long v), .second, .val (.long b0), .second, .val (.int p4), .val (.int (3 : Int32)), .val (.int i7), .val (.long b), .second, .unset, .unset] [(.int (3 : Int32))])) (fun _ k => XS.iload X0.here hx rfl (hb hby at_137) rfl k) ?_
  refine own_step (W' := s₁.setTop (mkF m 140 #[.val (.int p1), .val (.long v), .second, .val (.long b0), .second, .val (.int p4), .val (.int (3 : Int32)), .val (.int i7), .val (.long b), .second, .unset, .unset] [(.int (3 : Int32)), (.int (3 : Int32))])) (fun _ k => XS.iconst X0.here hx rfl (hb hby at_139) k) ?_
  refine own_step (W' := s₁.setTop (mkF m 143 #[.val (.int p1), .val (.long v), .second, .val (.long b0), .second, .val (.int p4), .val (.int (3 : Int32)), .val (.int i7), .val (.long b), .second, .unset, .unset] [])) (fun _ k => XS.icmpNo X0.here hx rfl (hb hby at_140) rfl (by decide) k) ?_
  obtain ⟨T1, X1, e1, st1⟩ := getS2 X0 hx hZ hown (host := "") (Or.inl (hw _ (List.mem_of_getElem? (i := 19) rfl))) Via.refl e0 (pin_S3 P) (g := (mkF m 143 #[.val (.int p1), .val (.long v), .second, .val (.long b0), .second, .val (.int p4), .val (.int (3 : Int32)), .val (.int i7), .val (.long b), .second, .unset, .unset] [])) rfl (hb hby at_143)
  refine own_step (W' := T1.setTop (mkF m 146 #[.val (.int p1), .val (.long v), .second, .val (.long b0), .second, .val (.int p4), .val (.int (3 : Int32)), .val (.int i7), .val (.long b), .second, .unset, .unset] [(.ref (w 3))])) (fun _ k => st1 _ k) ?_
  refine own_step (W' := T1.setTop (mkF m 148 #[.val (.int p1), .val (.long v), .second, .val (.long b0), .second, .val (.int p4), .val (.int (3 : Int32)), .val (.int i7), .val (.long b), .second, .val (.ref (w 3)), .unset] [])) (fun _ k => XS.astore X1.here hx rfl (hb hby at_146) rfl rfl (l' := #[.val (.int p1), .val (.long v), .second, .val (.long b0), .second, .val (.int p4), .val (.int (3 : Int32)), .val (.int i7), .val (.long b), .second, .val (.ref (w 3)), .unset]) rfl k) ?_
  refine own_step (W' := T1.setTop (mkF m 149 #[.val (.int p1), .val (.long v), .second, .val (.long b0), .second, .val (.int p4), .val (.int (3 : Int32)), .val (.int i7), .val (.long b), .second, .val (.ref (w 3)), .unset] [(.long v)])) (fun _ k => XS.lloadN X1.here hx rfl (hb hby at_148) rfl k) ?_
  refine own_step (W' := T1.setTop (mkF m 151 #[.val (.int p1), .val (.long v), .second, .val (.long b0), .second, .val (.int p4), .val (.int (3 : Int32)), .val (.int i7), .val (.long b), .second, .val (.ref (w 3)), .unset] [(.long b), (.long v)])) (fun _ k => XS.lload X1.here hx rfl (hb hby at_149) rfl k) ?_
  refine own_step (W' := T1.setTop (mkF m 152 #[.val (.int p1), .val (.long v), .second, .val (.long b0), .second, .val (.int p4), .val (.int (3 : Int32)), .val (.int i7), .val (.long b), .second, .val (.ref (w 3)), .unset] [(.int (lcmpW v b))])) (fun _ k => XS.lcmp X1.here hx rfl (hb hby at_151) rfl k) ?_
  rw [hl]
  refine own_step (W' := T1.setTop (mkF m 159 #[.val (.int p1), .val (.long v), .second, .val (.long b0), .second, .val (.int p4), .val (.int (3 : Int32)), .val (.int i7), .val (.long b), .second, .val (.ref (w 3)), .unset] [])) (fun _ k => XS.ifYes X1.here hx rfl (pc0 := 152) (pc' := 159) rfl (hb hby at_152) rfl (by decide) (by decide) (by decide) k) ?_
  refine own_step (W' := T1.setTop (mkF m 160 #[.val (.int p1), .val (.long v), .second, .val (.long b0), .second, .val (.int p4), .val (.int (3 : Int32)), .val (.int i7), .val (.long b), .second, .val (.ref (w 3)), .unset] [(.int (0 : Int32))])) (fun _ k => XS.iconst X1.here hx rfl (hb hby at_159) k) ?_
  refine own_step (W' := T1.setTop (mkF m 162 #[.val (.int p1), .val (.long v), .second, .val (.long b0), .second, .val (.int p4), .val (.int (3 : Int32)), .val (.int i7), .val (.long b), .second, .val (.ref (w 3)), .val (.int (0 : Int32))] [])) (fun _ k => XS.istore X1.here hx rfl (hb hby at_160) rfl (l' := #[.val (.int p1), .val (.long v), .second, .val (.long b0), .second, .val (.int p4), .val (.int (3 : Int32)), .val (.int i7), .val (.long b), .second, .val (.ref (w 3)), .val (.int (0 : Int32))]) rfl k) ?_
  refine own_step (W' := T1.setTop (mkF m 184 #[.val (.int p1), .val (.long v), .second, .val (.long b0), .second, .val (.int p4), .val (.int (3 : Int32)), .val (.int i7), .val (.long b), .second, .val (.ref (w 3)), .val (.int (0 : Int32))] [])) (fun _ k => XS.goto X1.here hx rfl (pc0 := 162) (pc' := 184) rfl (hb hby at_162) (by decide) (by decide) k) ?_
  refine own_step (W' := T1.setTop (mkF m 186 #[.val (.int p1), .val (.long v), .second, .val (.long b0), .second, .val (.int p4), .val (.int (3 : Int32)), .val (.int i7), .val (.long b), .second, .val (.ref (w 3)), .val (.int (0 : Int32))] [(.ref (w 3))])) (fun _ k => XS.aload X1.here hx rfl (hb hby at_184) rfl rfl k) ?_
  refine own_step (W' := T1.setTop (mkF m 187 #[.val (.int p1), .val (.long v), .second, .val (.long b0), .second, .val (.int p4), .val (.int (3 : Int32)), .val (.int i7), .val (.long b), .second, .val (.ref (w 3)), .val (.int (0 : Int32))] [(.long v), (.ref (w 3))])) (fun _ k => XS.lloadN X1.here hx rfl (hb hby at_186) rfl k) ?_
  refine own_step (W' := T1.setTop (mkF m 189 #[.val (.int p1), .val (.long v), .second, .val (.long b0), .second, .val (.int p4), .val (.int (3 : Int32)), .val (.int i7), .val (.long b), .second, .val (.ref (w 3)), .val (.int (0 : Int32))] [(.long b), (.long v), (.ref (w 3))])) (fun _ k => XS.lload X1.here hx rfl (hb hby at_187) rfl k) ?_
  obtain ⟨cq2, kq2, q2a, q2b, q2c⟩ := isOf hZ e1 (pin_E3 P)
  obtain ⟨_, _, ⟨T2, L2, k2, n2⟩, -, X2, ⟨Lc2, hQ2, l2, y2, z2⟩, st2⟩ := X1.virtualBack hx (y := (⟨"com/example/punctual_proof/punctualproof/network/Comparison", "holds", "(JJ)Z"⟩ : MethodName)) (z := (⟨"com/example/punctual_proof/punctualproof/network/Comparison", "holds", "(JJ)Z"⟩ : MethodName)) hown (mvT hZ (hw _ (List.mem_of_getElem? (i := 4) rfl))) (mvT hZ (hw _ (List.mem_of_getElem? (i := 5) rfl))) (notFace_of_selects (args := #[]) (mvT hZ (hw _ (List.mem_of_getElem? (i := 7) rfl)))) (mvT hZ (hw _ (List.mem_of_getElem? (i := 7) rfl))) (mvT hZ (hw _ (List.mem_of_getElem? (i := 6) rfl))) (by decide) (backOf (W := 0) (rm1_w3_m l Z a0 hw [] v b hl w h0 n0 Z0 P) hZ (hw _ (List.mem_of_getElem? (i := 8) rfl)) (hw _ (List.mem_of_getElem? (i := 2) rfl)) (by decide) (by decide)) q2a q2c (g := (mkF m 189 #[.val (.int p1), .val (.long v), .second, .val (.long b0), .second, .val (.int p4), .val (.int (3 : Int32)), .val (.int i7), .val (.long b), .second, .val (.ref (w 3)), .val (.int (0 : Int32))] [(.long b), (.long v), (.ref (w 3))])) rfl (by rw [hml]; rfl) (Steps.refl _) (argsL := [(.long v), (.long b)]) (rest := []) (lenOf pd_0 rfl) rfl (by show 2 * 0 + _ ≤ _; exact Nat.le_of_eq rfl) (hb hby at_189) (fun _ _ => ⟨rfl, e1, (by decide : 0 + 0 ≤ _), (by decide : 0 + 0 ≤ _)⟩)
  dsimp only [Pt.U, Pt.locs, Pt.cells, Pt.slots] at X2 l2 y2 z2 st2 hQ2
  subst l2 y2 z2
  obtain ⟨rfl, N2q, e2⟩ := hQ2
  have N2 := Fr.app N0 N2q
  refine own_step (W' := T2.setTop (mkF m 192 #[.val (.int p1), .val (.long v), .second, .val (.long b0), .second, .val (.int p4), .val (.int (3 : Int32)), .val (.int i7), .val (.long b), .second, .val (.ref (w 3)), .val (.int (0 : Int32))] [(.int (0 : Int32))])) (fun _ k => st2.trans k) ?_
  refine own_step (W' := T2.setTop (mkF m 194 #[.val (.int p1), .val (.long v), .second, .val (.long b0), .second, .val (.int p4), .val (.int (3 : Int32)), .val (.int i7), .val (.long b), .second, .val (.ref (w 3)), .val (.int (0 : Int32))] [(.int (0 : Int32)), (.int (0 : Int32))])) (fun _ k => XS.iload X2.here hx rfl (hb hby at_192) rfl k) ?_
  refine own_step (W' := T2.setTop (mkF m 197 #[.val (.int p1), .val (.long v), .second, .val (.long b0), .second, .val (.int p4), .val (.int (3 : Int32)), .val (.int i7), .val (.long b), .second, .val (.ref (w 3)), .val (.int (0 : Int32))] [])) (fun _ k => XS.icmpNo X2.here hx rfl (hb hby at_194) rfl (by decide) k) ?_
  refine own_step (W' := T2.setTop (mkF m 198 #[.val (.int p1), .val (.long v), .second, .val (.long b0), .second, .val (.int p4), .val (.int (3 : Int32)), .val (.int i7), .val (.long b), .second, .val (.ref (w 3)), .val (.int (0 : Int32))] [(.int (1 : Int32))])) (fun _ k => XS.iconst X2.here hx rfl (hb hby at_197) k) ?_
  refine own_step (W' := T2.setTop (mkF m 202 #[.val (.int p1), .val (.long v), .second, .val (.long b0), .second, .val (.int p4), .val (.int (3 : Int32)), .val (.int i7), .val (.long b), .second, .val (.ref (w 3)), .val (.int (0 : Int32))] [(.int (1 : Int32))])) (fun _ k => XS.goto X2.here hx rfl (pc0 := 198) (pc' := 202) rfl (hb hby at_198) (by decide) (by decide) k) ?_
  exact own_ret X2 hlk hret (v := (.int (1 : Int32))) (fun fs hr => retN X2 hx (t := .boolean) hret (by simp) (hb hby at_202) hr) ⟨rfl, N2⟩ (by decide) (by decide)
set_option maxRecDepth 65536 in
set_option maxHeartbeats 40000000 in
theorem rm1_w3_0 (l : Launch) (Z : State) (a0 : Array Value) (hw : ∀ d ∈ tables_1, d.before a0 Z = true) (ws : List Jvm.Cond) (v b : Int64) (hl : lcmpW v b = (0 : Int32)) (w : Nat → Addr) (h0 : Heap) (n0 : Nat) (Z0 : n0 ≤ h0.size) (P : Pins Z h0 w) :
    MetFree l (⟨"com/example/punctual_proof/punctualproof/network/Comparison", "holds", "(JJ)Z"⟩ : MethodName) (head1 (Jvm.Cond.code (⟨"com/example/punctual_proof/punctualproof/network/Comparison", "holds", "(JJ)Z"⟩ : MethodName) prog_62_method_9_code 5 (some .boolean) :: ws) ({ frames := 0, cells := 0, slots := 0, locals := 0 } : Room)) (fun a U => a = #[(.ref (w 3)), (.long v), (.long b)] ∧ Z.Warmed39 U.vm ∧ U.heap = h0) (fun _ _ _ _ _ => True) (fun _ U o U' => ∃ v L, o = .returned v ∧ own_QK (some (.int (1 : Int32))) h0 n0 v U'.heap L ∧ FrameEnd U o U' L ({ frames := 0, cells := 0, slots := 0, locals := 0 } : Room).cells ({ frames := 0, cells := 0, slots := 0, locals := 0 } : Room).slots) := by
  refine MetFree.of_bodySF (plainFor_of_name pn_com_example_punctual_proof_punctualproof_network_Comparison) hisR ?_
  intro p e s m args below meth c s₁ Bd hml0 hP hK
  obtain ⟨rfl, hZ, hh⟩ := hP
  have hx := Bd.exec
  have hby := Bd.bytes
  have hml : c.maxLocals = 5 := hml0
  have hown : s.vm.findClass "com/example/punctual_proof/punctualproof/network/Comparison" = some m.cls := findClass_of_methodNamed Bd.named
  have hnm := (name_of_methodNamed Bd.named Bd.method).1
  have X0 : Stand p l e ({ frames := 0, cells := 0, slots := 0, locals := 0 } : Room) s m #[(.ref (w 3)), (.long v), (.long b)] below meth c s₁ [] 0 0 := Stand.of_body Bd
  have e0 : s₁.heap = h0 := by rw [← hh, Bd.state]; rfl
  have N0 := Fr.nil n0
  refine own_enter (ef_1_RJJ m (w 3) v b) ?_
  refine own_step (W' := s₁.setTop (mkF m 1 #[.val (.ref (w 3)), .val (.long v), .second, .val (.long b), .second] [(.long v)])) (fun _ k => XS.lloadN X0.here hx rfl (hb hby d1_0) rfl k) ?_
  refine own_step (W' := s₁.setTop (mkF m 2 #[.val (.ref (w 3)), .val (.long v), .second, .val (.long b), .second] [(.long b), (.long v)])) (fun _ k => XS.lloadN X0.here hx rfl (hb hby d1_1) rfl k) ?_
  refine own_step (W' := s₁.setTop (mkF m 3 #[.val (.ref (w 3)), .val (.long v), .second, .val (.long b), .second] [(.int (lcmpW v b))])) (fun _ k => XS.lcmp X0.here hx rfl (hb hby d1_2) rfl k) ?_
  rw [hl]
  refine own_step (W' := s₁.setTop (mkF m 6 #[.val (.ref (w 3)), .val (.long v), .second, .val (.long b), .second] [])) (fun _ k => XS.ifNo X0.here hx rfl (hb hby d1_3) rfl (by decide) k) ?_
  refine own_step (W' := s₁.setTop (mkF m 7 #[.val (.ref (w 3)), .val (.long v), .second, .val (.long b), .second] [(.ref (w 3))])) (fun _ k => XS.aloadN X0.here hx rfl (hb hby d1_6) rfl rfl k) ?_
  obtain ⟨T1, X1, e1, st1⟩ := getF X0 hx hZ hown (host := "") (Or.inl (hw _ (List.mem_of_getElem? (i := 13) rfl))) Via.refl e0 (pin_F3_strict P) (g := (mkF m 7 #[.val (.ref (w 3)), .val (.long v), .second, .val (.long b), .second] [(.ref (w 3))])) rfl rfl (hb hby d1_7)
  refine own_step (W' := T1.setTop (mkF m 10 #[.val (.ref (w 3)), .val (.long v), .second, .val (.long b), .second] [(.int (0 : Int32))])) (fun _ k => st1 _ k) ?_
  refine own_step (W' := T1.setTop (mkF m 13 #[.val (.ref (w 3)), .val (.long v), .second, .val (.long b), .second] [])) (fun _ k => XS.ifNo X1.here hx rfl (hb hby d1_10) rfl (by decide) k) ?_
  refine own_step (W' := T1.setTop (mkF m 14 #[.val (.ref (w 3)), .val (.long v), .second, .val (.long b), .second] [(.int (1 : Int32))])) (fun _ k => XS.iconst X1.here hx rfl (hb hby d1_13) k) ?_
  refine own_step (W' := T1.setTop (mkF m 18 #[.val (.ref (w 3)), .val (.long v), .second, .val (.long b), .second] [(.int (1 : Int32))])) (fun _ k => XS.goto X1.here hx rfl (pc0 := 14) (pc' := 18) rfl (hb hby d1_14) (by decide) (by decide) k) ?_
  exact own_ret X1 Bd.notSynchronized Bd.returns (v := (.int (1 : Int32))) (fun fs hr => retN X1 hx (t := .boolean) Bd.returns (by simp) (hb hby d1_18) hr) ⟨rfl, N0, e1⟩ (by decide) (by decide)
set_option maxRecDepth 65536 in
set_option maxHeartbeats 40000000 in
theorem own_tail_3_0 {p : Program} {l : Launch} {e : Env} {s : State} {m : MethodId} {args : Array Value} {below : List Frame} {meth : Method} {c : Code} {s₁ : State} {Z : State} {a0 : Array Value} {h0 : Heap} {n0 : Nat} {w : Nat → Addr} (p1 p4 i7 : Int32) (v b0 b : Int64) (hl : lcmpW v b = (0 : Int32))
    (X0 : Stand p l e room_1 s m args below meth c s₁ [] 0 0) (hx : p.tables.exec = Jvm.exec) (hZ : Z.Warmed39 s.vm) (hw : ∀ d ∈ tables_1, d.before a0 Z = true) (hby : c.code = code) (hml : c.maxLocals = 12) (hown : s.vm.findClass "com/example/punctual_proof/punctualproof/network/ComparisonHoldsPinLaw" = some m.cls) (e0 : s₁.heap = h0) (N0 : Fr n0 []) (Z0 : n0 ≤ h0.size) (P : Pins Z h0 w) (hlk : meth.locks = false) (hret : meth.sig.returnType = ret) :
    own_Done p e below (s₁.setTop (mkF m 54 #[.val (.int p1), .val (.long v), .second, .val (.long b0), .second, .val (.int p4), .val (.int (3 : Int32)), .val (.int i7), .val (.long b), .second, .unset, .unset] [])) (fun o U' => ∃ v L, o = .returned v ∧ own_Q0 n0 v U'.heap L ∧ FrameEnd s o U' L room_1.cells room_1.slots) := by
  refine own_step (W' := s₁.setTop (mkF m 56 #[.val (.int p1), .val (.long v), .second, .val (.long b0), .second, .val (.int p4), .val (.int (3 : Int32)), .val (.int i7), .val (.long b), .second, .unset, .unset] [(.int (3 : Int32))])) (fun _ k => XS.iload X0.here hx rfl (hb hby at_54) rfl k) ?_
  refine own_step (W' := s₁.setTop (mkF m 81 #[.val (.int p1), .val (.long v), .second, .val (.long b0), .second, .val (.int p4), .val (.int (3 : Int32)), .val (.int i7), .val (.long b), .second, .unset, .unset] [])) (fun _ k => XS.ifYes X0.here hx rfl (pc0 := 56) (pc' := 81) rfl (hb hby at_56) rfl (by decide) (by decide) (by decide) k) ?_
  refine own_step (W' := s₁.setTop (mkF m 83 #[.val (.int p1), .val (.long v), .second, .val (.long b0), .second, .val (.int p4), .val (.int (3 : Int32)), .val (.int i7), .val (.long b), .second, .unset, .unset] [(.int (3 : Int32))])) (fun _ k => XS.iload X0.here hx rfl (hb hby at_81) rfl k) ?_
  refine own_step (W' := s₁.setTop (mkF m 84 #[.val (.int p1), .val (.long v), .second, .val (.long b0), .second, .val (.int p4), .val (.int (3 : Int32)), .val (.int i7), .val (.long b), .second, .unset, .unset] [(.int (1 : Int32)), (.int (3 : Int32))])) (fun _ k => XS.iconst X0.here hx rfl (hb hby at_83) k) ?_
  refine own_step (W' := s₁.setTop (mkF m 109 #[.val (.int p1), .val (.long v), .second, .val (.long b0), .second, .val (.int p4), .val (.int (3 : Int32)), .val (.int i7), .val (.long b), .second, .unset, .unset] [])) (fun _ k => XS.icmpYes X0.here hx rfl (pc0 := 84) (pc' := 109) rfl (hb hby at_84) rfl (by decide) (by decide) (by decide) k) ?_
  refine own_step (W' := s₁.setTop (mkF m 111 #[.val (.int p1), .val (.long v), .second, .val (.long b0), .second, .val (.int p4), .val (.int (3 : Int32)), .val (.int i7), .val (.long b), .second, .unset, .unset] [(.int (3 : Int32))])) (fun _ k => XS.iload X0.here hx rfl (hb hby at_109) rfl k) ?_
  refine own_step (W' := s₁.setTop (mkF m 112 #[.val (.int p1), .val (.long v), .second, .val (.long b0), .second, .val (.int p4), .val (.int (3 : Int32)), .val (.int i7), .val (.long b), .second, .unset, .unset] [(.int (2 : Int32)), (.int (3 : Int32))])) (fun _ k => XS.iconst X0.here hx rfl (hb hby at_111) k) ?_
  refine own_step (W' := s₁.setTop (mkF m 137 #[.val (.int p1), .val (.long v), .second, .val (.long b0), .second, .val (.int p4), .val (.int (3 : Int32)), .val (.int i7), .val (.long b), .second, .unset, .unset] [])) (fun _ k => XS.icmpYes X0.here hx rfl (pc0 := 112) (pc' := 137) rfl (hb hby at_112) rfl (by decide) (by decide) (by decide) k) ?_
  refine own_step (W' := s₁.setTop (mkF m 139 #[.val (.int p1), .val (.long v), .second, .val (.long b0), .second, .val (.int p4), .val (.int (3 : Int32)), .val (.int i7), .val (.long b), .second, .unset, .unset] [(.int (3 : Int32))])) (fun _ k => XS.iload X0.here hx rfl (hb hby at_137) rfl k) ?_
  refine own_step (W' := s₁.setTop (mkF m 140 #[.val (.int p1), .val (.long v), .second, .val (.long b0), .second, .val (.int p4), .val (.int (3 : Int32)), .val (.int i7), .val (.long b), .second, .unset, .unset] [(.int (3 : Int32)), (.int (3 : Int32))])) (fun _ k => XS.iconst X0.here hx rfl (hb hby at_139) k) ?_
  refine own_step (W' := s₁.setTop (mkF m 143 #[.val (.int p1), .val (.long v), .second, .val (.long b0), .second, .val (.int p4), .val (.int (3 : Int32)), .val (.int i7), .val (.long b), .second, .unset, .unset] [])) (fun _ k => XS.icmpNo X0.here hx rfl (hb hby at_140) rfl (by decide) k) ?_
  obtain ⟨T1, X1, e1, st1⟩ := getS2 X0 hx hZ hown (host := "") (Or.inl (hw _ (List.mem_of_getElem? (i := 19) rfl))) Via.refl e0 (pin_S3 P) (g := (mkF m 143 #[.val (.int p1), .val (.long v), .second, .val (.long b0), .second, .val (.int p4), .val (.int (3 : Int32)), .val (.int i7), .val (.long b), .second, .unset, .unset] [])) rfl (hb hby at_143)
  refine own_step (W' := T1.setTop (mkF m 146 #[.val (.int p1), .val (.long v), .second, .val (.long b0), .second, .val (.int p4), .val (.int (3 : Int32)), .val (.int i7), .val (.long b), .second, .unset, .unset] [(.ref (w 3))])) (fun _ k => st1 _ k) ?_
  refine own_step (W' := T1.setTop (mkF m 148 #[.val (.int p1), .val (.long v), .second, .val (.long b0), .second, .val (.int p4), .val (.int (3 : Int32)), .val (.int i7), .val (.long b), .second, .val (.ref (w 3)), .unset] [])) (fun _ k => XS.astore X1.here hx rfl (hb hby at_146) rfl rfl (l' := #[.val (.int p1), .val (.long v), .second, .val (.long b0), .second, .val (.int p4), .val (.int (3 : Int32)), .val (.int i7), .val (.long b), .second, .val (.ref (w 3)), .unset]) rfl k) ?_
  refine own_step (W' := T1.setTop (mkF m 149 #[.val (.int p1), .val (.long v), .second, .val (.long b0), .second, .val (.int p4), .val (.int (3 : Int32)), .val (.int i7), .val (.long b), .second, .val (.ref (w 3)), .unset] [(.long v)])) (fun _ k => XS.lloadN X1.here hx rfl (hb hby at_148) rfl k) ?_
  refine own_step (W' := T1.setTop (mkF m 151 #[.val (.int p1), .val (.long v), .second, .val (.long b0), .second, .val (.int p4), .val (.int (3 : Int32)), .val (.int i7), .val (.long b), .second, .val (.ref (w 3)), .unset] [(.long b), (.long v)])) (fun _ k => XS.lload X1.here hx rfl (hb hby at_149) rfl k) ?_
  refine own_step (W' := T1.setTop (mkF m 152 #[.val (.int p1), .val (.long v), .second, .val (.long b0), .second, .val (.int p4), .val (.int (3 : Int32)), .val (.int i7), .val (.long b), .second, .val (.ref (w 3)), .unset] [(.int (lcmpW v b))])) (fun _ k => XS.lcmp X1.here hx rfl (hb hby at_151) rfl k) ?_
  rw [hl]
  refine own_step (W' := T1.setTop (mkF m 155 #[.val (.int p1), .val (.long v), .second, .val (.long b0), .second, .val (.int p4), .val (.int (3 : Int32)), .val (.int i7), .val (.long b), .second, .val (.ref (w 3)), .unset] [])) (fun _ k => XS.ifNo X1.here hx rfl (hb hby at_152) rfl (by decide) k) ?_
  refine own_step (W' := T1.setTop (mkF m 156 #[.val (.int p1), .val (.long v), .second, .val (.long b0), .second, .val (.int p4), .val (.int (3 : Int32)), .val (.int i7), .val (.long b), .second, .val (.ref (w 3)), .unset] [(.int (1 : Int32))])) (fun _ k => XS.iconst X1.here hx rfl (hb hby at_155) k) ?_
  refine own_step (W' := T1.setTop (mkF m 160 #[.val (.int p1), .val (.long v), .second, .val (.long b0), .second, .val (.int p4), .val (.int (3 : Int32)), .val (.int i7), .val (.long b), .second, .val (.ref (w 3)), .unset] [(.int (1 : Int32))])) (fun _ k => XS.goto X1.here hx rfl (pc0 := 156) (pc' := 160) rfl (hb hby at_156) (by decide) (by decide) k) ?_
  refine own_step (W' := T1.setTop (mkF m 162 #[.val (.int p1), .val (.long v), .second, .val (.long b0), .second, .val (.int p4), .val (.int (3 : Int32)), .val (.int i7), .val (.long b), .second, .val (.ref (w 3)), .val (.int (1 : Int32))] [])) (fun _ k => XS.istore X1.here hx rfl (hb hby at_160) rfl (l' := #[.val (.int p1), .val (.long v), .second, .val (.long b0), .second, .val (.int p4), .val (.int (3 : Int32)), .val (.int i7), .val (.long b), .second, .val (.ref (w 3)), .val (.int (1 : Int32))]) rfl k) ?_
  refine own_step (W' := T1.setTop (mkF m 184 #[.val (.int p1), .val (.long v), .second, .val (.long b0), .second, .val (.int p4), .val (.int (3 : Int32)), .val (.int i7), .val (.long b), .second, .val (.ref (w 3)), .val (.int (1 : Int32))] [])) (fun _ k => XS.goto X1.here hx rfl (pc0 := 162) (pc' := 184) rfl (hb hby at_162) (by decide) (by decide) k) ?_
  refine own_step (W' := T1.setTop (mkF m 186 #[.val (.int p1), .val (.long v), .second, .val (.long b0), .second, .val (.int p4), .val (.int (3 : Int32)), .val (.int i7), .val (.long b), .second, .val (.ref (w 3)), .val (.int (1 : Int32))] [(.ref (w 3))])) (fun _ k => XS.aload X1.here hx rfl (hb hby at_184) rfl rfl k) ?_
  refine own_step (W' := T1.setTop (mkF m 187 #[.val (.int p1), .val (.long v), .second, .val (.long b0), .second, .val (.int p4), .val (.int (3 : Int32)), .val (.int i7), .val (.long b), .second, .val (.ref (w 3)), .val (.int (1 : Int32))] [(.long v), (.ref (w 3))])) (fun _ k => XS.lloadN X1.here hx rfl (hb hby at_186) rfl k) ?_
  refine own_step (W' := T1.setTop (mkF m 189 #[.val (.int p1), .val (.long v), .second, .val (.long b0), .second, .val (.int p4), .val (.int (3 : Int32)), .val (.int i7), .val (.long b), .second, .val (.ref (w 3)), .val (.int (1 : Int32))] [(.long b), (.long v), (.ref (w 3))])) (fun _ k => XS.lload X1.here hx rfl (hb hby at_187) rfl k) ?_
  obtain ⟨cq2, kq2, q2a, q2b, q2c⟩ := isOf hZ e1 (pin_E3 P)
  obtain ⟨_, _, ⟨T2, L2, k2, n2⟩, -, X2, ⟨Lc2, hQ2, l2, y2, z2⟩, st2⟩ := X1.virtualBack hx (y := (⟨"com/example/punctual_proof/punctualproof/network/Comparison", "holds", "(JJ)Z"⟩ : MethodName)) (z := (⟨"com/example/punctual_proof/punctualproof/network/Comparison", "holds", "(JJ)Z"⟩ : MethodName)) hown (mvT hZ (hw _ (List.mem_of_getElem? (i := 4) rfl))) (mvT hZ (hw _ (List.mem_of_getElem? (i := 5) rfl))) (notFace_of_selects (args := #[]) (mvT hZ (hw _ (List.mem_of_getElem? (i := 7) rfl)))) (mvT hZ (hw _ (List.mem_of_getElem? (i := 7) rfl))) (mvT hZ (hw _ (List.mem_of_getElem? (i := 6) rfl))) (by decide) (backOf (W := 0) (rm1_w3_0 l Z a0 hw [] v b hl w h0 n0 Z0 P) hZ (hw _ (List.mem_of_getElem? (i := 8) rfl)) (hw _ (List.mem_of_getElem? (i := 2) rfl)) (by decide) (by decide)) q2a q2c (g := (mkF m 189 #[.val (.int p1), .val (.long v), .second, .val (.long b0), .second, .val (.int p4), .val (.int (3 : Int32)), .val (.int i7), .val (.long b), .second, .val (.ref (w 3)), .val (.int (1 : Int32))] [(.long b), (.long v), (.ref (w 3))])) rfl (by rw [hml]; rfl) (Steps.refl _) (argsL := [(.long v), (.long b)]) (rest := []) (lenOf pd_0 rfl) rfl (by show 2 * 0 + _ ≤ _; exact Nat.le_of_eq rfl) (hb hby at_189) (fun _ _ => ⟨rfl, e1, (by decide : 0 + 0 ≤ _), (by decide : 0 + 0 ≤ _)⟩)
  dsimp only [Pt.U, Pt.locs, Pt.cells, Pt.slots] at X2 l2 y2 z2 st2 hQ2
  subst l2 y2 z2
  obtain ⟨rfl, N2q, e2⟩ := hQ2
  have N2 := Fr.app N0 N2q
  refine own_step (W' := T2.setTop (mkF m 192 #[.val (.int p1), .val (.long v), .second, .val (.long b0), .second, .val (.int p4), .val (.int (3 : Int32)), .val (.int i7), .val (.long b), .second, .val (.ref (w 3)), .val (.int (1 : Int32))] [(.int (1 : Int32))])) (fun _ k => st2.trans k) ?_
  refine own_step (W' := T2.setTop (mkF m 194 #[.val (.int p1), .val (.long v), .second, .val (.long b0), .second, .val (.int p4), .val (.int (3 : Int32)), .val (.int i7), .val (.long b), .second, .val (.ref (w 3)), .val (.int (1 : Int32))] [(.int (1 : Int32)), (.int (1 : Int32))])) (fun _ k => XS.iload X2.here hx rfl (hb hby at_192) rfl k) ?_
  refine own_step (W' := T2.setTop (mkF m 197 #[.val (.int p1), .val (.long v), .second, .val (.long b0), .second, .val (.int p4), .val (.int (3 : Int32)), .val (.int i7), .val (.long b), .second, .val (.ref (w 3)), .val (.int (1 : Int32))] [])) (fun _ k => XS.icmpNo X2.here hx rfl (hb hby at_194) rfl (by decide) k) ?_
  refine own_step (W' := T2.setTop (mkF m 198 #[.val (.int p1), .val (.long v), .second, .val (.long b0), .second, .val (.int p4), .val (.int (3 : Int32)), .val (.int i7), .val (.long b), .second, .val (.ref (w 3)), .val (.int (1 : Int32))] [(.int (1 : Int32))])) (fun _ k => XS.iconst X2.here hx rfl (hb hby at_197) k) ?_
  refine own_step (W' := T2.setTop (mkF m 202 #[.val (.int p1), .val (.long v), .second, .val (.long b0), .second, .val (.int p4), .val (.int (3 : Int32)), .val (.int i7), .val (.long b), .second, .val (.ref (w 3)), .val (.int (1 : Int32))] [(.int (1 : Int32))])) (fun _ k => XS.goto X2.here hx rfl (pc0 := 198) (pc' := 202) rfl (hb hby at_198) (by decide) (by decide) k) ?_
  exact own_ret X2 hlk hret (v := (.int (1 : Int32))) (fun fs hr => retN X2 hx (t := .boolean) hret (by simp) (hb hby at_202) hr) ⟨rfl, N2⟩ (by decide) (by decide)
set_option maxRecDepth 65536 in
set_option maxHeartbeats 40000000 in
theorem rm1_w3_1 (l : Launch) (Z : State) (a0 : Array Value) (hw : ∀ d ∈ tables_1, d.before a0 Z = true) (ws : List Jvm.Cond) (v b : Int64) (hl : lcmpW v b = (1 : Int32)) (w : Nat → Addr) (h0 : Heap) (n0 : Nat) (Z0 : n0 ≤ h0.size) (P : Pins Z h0 w) :
    MetFree l (⟨"com/example/punctual_proof/punctualproof/network/Comparison", "holds", "(JJ)Z"⟩ : MethodName) (head1 (Jvm.Cond.code (⟨"com/example/punctual_proof/punctualproof/network/Comparison", "holds", "(JJ)Z"⟩ : MethodName) prog_62_method_9_code 5 (some .boolean) :: ws) ({ frames := 0, cells := 0, slots := 0, locals := 0 } : Room)) (fun a U => a = #[(.ref (w 3)), (.long v), (.long b)] ∧ Z.Warmed39 U.vm ∧ U.heap = h0) (fun _ _ _ _ _ => True) (fun _ U o U' => ∃ v L, o = .returned v ∧ own_QK (some (.int (1 : Int32))) h0 n0 v U'.heap L ∧ FrameEnd U o U' L ({ frames := 0, cells := 0, slots := 0, locals := 0 } : Room).cells ({ frames := 0, cells := 0, slots := 0, locals := 0 } : Room).slots) := by
  refine MetFree.of_bodySF (plainFor_of_name pn_com_example_punctual_proof_punctualproof_network_Comparison) hisR ?_
  intro p e s m args below meth c s₁ Bd hml0 hP hK
  obtain ⟨rfl, hZ, hh⟩ := hP
  have hx := Bd.exec
  have hby := Bd.bytes
  have hml : c.maxLocals = 5 := hml0
  have hown : s.vm.findClass "com/example/punctual_proof/punctualproof/network/Comparison" = some m.cls := findClass_of_methodNamed Bd.named
  have hnm := (name_of_methodNamed Bd.named Bd.method).1
  have X0 : Stand p l e ({ frames := 0, cells := 0, slots := 0, locals := 0 } : Room) s m #[(.ref (w 3)), (.long v), (.long b)] below meth c s₁ [] 0 0 := Stand.of_body Bd
  have e0 : s₁.heap = h0 := by rw [← hh, Bd.state]; rfl
  have N0 := Fr.nil n0
  refine own_enter (ef_1_RJJ m (w 3) v b) ?_
  refine own_step (W' := s₁.setTop (mkF m 1 #[.val (.ref (w 3)), .val (.long v), .second, .val (.long b), .second] [(.long v)])) (fun _ k => XS.lloadN X0.here hx rfl (hb hby d1_0) rfl k) ?_
  refine own_step (W' := s₁.setTop (mkF m 2 #[.val (.ref (w 3)), .val (.long v), .second, .val (.long b), .second] [(.long b), (.long v)])) (fun _ k => XS.lloadN X0.here hx rfl (hb hby d1_1) rfl k) ?_
  refine own_step (W' := s₁.setTop (mkF m 3 #[.val (.ref (w 3)), .val (.long v), .second, .val (.long b), .second] [(.int (lcmpW v b))])) (fun _ k => XS.lcmp X0.here hx rfl (hb hby d1_2) rfl k) ?_
  rw [hl]
  refine own_step (W' := s₁.setTop (mkF m 19 #[.val (.ref (w 3)), .val (.long v), .second, .val (.long b), .second] [])) (fun _ k => XS.ifYes X0.here hx rfl (pc0 := 3) (pc' := 19) rfl (hb hby d1_3) rfl (by decide) (by decide) (by decide) k) ?_
  refine own_step (W' := s₁.setTop (mkF m 20 #[.val (.ref (w 3)), .val (.long v), .second, .val (.long b), .second] [(.long v)])) (fun _ k => XS.lloadN X0.here hx rfl (hb hby d1_19) rfl k) ?_
  refine own_step (W' := s₁.setTop (mkF m 21 #[.val (.ref (w 3)), .val (.long v), .second, .val (.long b), .second] [(.long b), (.long v)])) (fun _ k => XS.lloadN X0.here hx rfl (hb hby d1_20) rfl k) ?_
  refine own_step (W' := s₁.setTop (mkF m 22 #[.val (.ref (w 3)), .val (.long v), .second, .val (.long b), .second] [(.int (lcmpW v b))])) (fun _ k => XS.lcmp X0.here hx rfl (hb hby d1_21) rfl k) ?_
  rw [hl]
  refine own_step (W' := s₁.setTop (mkF m 40 #[.val (.ref (w 3)), .val (.long v), .second, .val (.long b), .second] [])) (fun _ k => XS.ifYes X0.here hx rfl (pc0 := 22) (pc' := 40) rfl (hb hby d1_22) rfl (by decide) (by decide) (by decide) k) ?_
  refine own_step (W' := s₁.setTop (mkF m 41 #[.val (.ref (w 3)), .val (.long v), .second, .val (.long b), .second] [(.ref (w 3))])) (fun _ k => XS.aloadN X0.here hx rfl (hb hby d1_40) rfl rfl k) ?_
  obtain ⟨T1, X1, e1, st1⟩ := getF X0 hx hZ hown (host := "") (Or.inl (hw _ (List.mem_of_getElem? (i := 9) rfl))) Via.refl e0 (pin_F3_boundsAbove P) (g := (mkF m 41 #[.val (.ref (w 3)), .val (.long v), .second, .val (.long b), .second] [(.ref (w 3))])) rfl rfl (hb hby d1_41)
  refine own_step (W' := T1.setTop (mkF m 44 #[.val (.ref (w 3)), .val (.long v), .second, .val (.long b), .second] [(.int (0 : Int32))])) (fun _ k => st1 _ k) ?_
  refine own_step (W' := T1.setTop (mkF m 47 #[.val (.ref (w 3)), .val (.long v), .second, .val (.long b), .second] [])) (fun _ k => XS.ifNo X1.here hx rfl (hb hby d1_44) rfl (by decide) k) ?_
  refine own_step (W' := T1.setTop (mkF m 48 #[.val (.ref (w 3)), .val (.long v), .second, .val (.long b), .second] [(.int (1 : Int32))])) (fun _ k => XS.iconst X1.here hx rfl (hb hby d1_47) k) ?_
  refine own_step (W' := T1.setTop (mkF m 52 #[.val (.ref (w 3)), .val (.long v), .second, .val (.long b), .second] [(.int (1 : Int32))])) (fun _ k => XS.goto X1.here hx rfl (pc0 := 48) (pc' := 52) rfl (hb hby d1_48) (by decide) (by decide) k) ?_
  exact own_ret X1 Bd.notSynchronized Bd.returns (v := (.int (1 : Int32))) (fun fs hr => retN X1 hx (t := .boolean) Bd.returns (by simp) (hb hby d1_52) hr) ⟨rfl, N0, e1⟩ (by decide) (by decide)
set_option maxRecDepth 65536 in
set_option maxHeartbeats 40000000 in
theorem own_tail_3_1 {p : Program} {l : Launch} {e : Env} {s : State} {m : MethodId} {args : Array Value} {below : List Frame} {meth : Method} {c : Code} {s₁ : State} {Z : State} {a0 : Array Value} {h0 : Heap} {n0 : Nat} {w : Nat → Addr} (p1 p4 i7 : Int32) (v b0 b : Int64) (hl : lcmpW v b = (1 : Int32))
    (X0 : Stand p l e room_1 s m args below meth c s₁ [] 0 0) (hx : p.tables.exec = Jvm.exec) (hZ : Z.Warmed39 s.vm) (hw : ∀ d ∈ tables_1, d.before a0 Z = true) (hby : c.code = code) (hml : c.maxLocals = 12) (hown : s.vm.findClass "com/example/punctual_proof/punctualproof/network/ComparisonHoldsPinLaw" = some m.cls) (e0 : s₁.heap = h0) (N0 : Fr n0 []) (Z0 : n0 ≤ h0.size) (P : Pins Z h0 w) (hlk : meth.locks = false) (hret : meth.sig.returnType = ret) :
    own_Done p e below (s₁.setTop (mkF m 54 #[.val (.int p1), .val (.long v), .second, .val (.long b0), .second, .val (.int p4), .val (.int (3 : Int32)), .val (.int i7), .val (.long b), .second, .unset, .unset] [])) (fun o U' => ∃ v L, o = .returned v ∧ own_Q0 n0 v U'.heap L ∧ FrameEnd s o U' L room_1.cells room_1.slots) := by
  refine own_step (W' := s₁.setTop (mkF m 56 #[.val (.int p1), .val (.long v), .second, .val (.long b0), .second, .val (.int p4), .val (.int (3 : Int32)), .val (.int i7), .val (.long b), .second, .unset, .unset] [(.int (3 : Int32))])) (fun _ k => XS.iload X0.here hx rfl (hb hby at_54) rfl k) ?_
  refine own_step (W' := s₁.setTop (mkF m 81 #[.val (.int p1), .val (.long v), .second, .val (.long b0), .second, .val (.int p4), .val (.int (3 : Int32)), .val (.int i7), .val (.long b), .second, .unset, .unset] [])) (fun _ k => XS.ifYes X0.here hx rfl (pc0 := 56) (pc' := 81) rfl (hb hby at_56) rfl (by decide) (by decide) (by decide) k) ?_
  refine own_step (W' := s₁.setTop (mkF m 83 #[.val (.int p1), .val (.long v), .second, .val (.long b0), .second, .val (.int p4), .val (.int (3 : Int32)), .val (.int i7), .val (.long b), .second, .unset, .unset] [(.int (3 : Int32))])) (fun _ k => XS.iload X0.here hx rfl (hb hby at_81) rfl k) ?_
  refine own_step (W' := s₁.setTop (mkF m 84 #[.val (.int p1), .val (.long v), .second, .val (.long b0), .second, .val (.int p4), .val (.int (3 : Int32)), .val (.int i7), .val (.long b), .second, .unset, .unset] [(.int (1 : Int32)), (.int (3 : Int32))])) (fun _ k => XS.iconst X0.here hx rfl (hb hby at_83) k) ?_
  refine own_step (W' := s₁.setTop (mkF m 109 #[.val (.int p1), .val (.long v), .second, .val (.long b0), .second, .val (.int p4), .val (.int (3 : Int32)), .val (.int i7), .val (.long b), .second, .unset, .unset] [])) (fun _ k => XS.icmpYes X0.here hx rfl (pc0 := 84) (pc' := 109) rfl (hb hby at_84) rfl (by decide) (by decide) (by decide) k) ?_
  refine own_step (W' := s₁.setTop (mkF m 111 #[.val (.int p1), .val (.long v), .second, .val (.long b0), .second, .val (.int p4), .val (.int (3 : Int32)), .val (.int i7), .val (.long b), .second, .unset, .unset] [(.int (3 : Int32))])) (fun _ k => XS.iload X0.here hx rfl (hb hby at_109) rfl k) ?_
  refine own_step (W' := s₁.setTop (mkF m 112 #[.val (.int p1), .val (.long v), .second, .val (.long b0), .second, .val (.int p4), .val (.int (3 : Int32)), .val (.int i7), .val (.long b), .second, .unset, .unset] [(.int (2 : Int32)), (.int (3 : Int32))])) (fun _ k => XS.iconst X0.here hx rfl (hb hby at_111) k) ?_
  refine own_step (W' := s₁.setTop (mkF m 137 #[.val (.int p1), .val (.long v), .second, .val (.long b0), .second, .val (.int p4), .val (.int (3 : Int32)), .val (.int i7), .val (.long b), .second, .unset, .unset] [])) (fun _ k => XS.icmpYes X0.here hx rfl (pc0 := 112) (pc' := 137) rfl (hb hby at_112) rfl (by decide) (by decide) (by decide) k) ?_
  refine own_step (W' := s₁.setTop (mkF m 139 #[.val (.int p1), .val (.long v), .second, .val (.long b0), .second, .val (.int p4), .val (.int (3 : Int32)), .val (.int i7), .val (.long b), .second, .unset, .unset] [(.int (3 : Int32))])) (fun _ k => XS.iload X0.here hx rfl (hb hby at_137) rfl k) ?_
  refine own_step (W' := s₁.setTop (mkF m 140 #[.val (.int p1), .val (.long v), .second, .val (.long b0), .second, .val (.int p4), .val (.int (3 : Int32)), .val (.int i7), .val (.long b), .second, .unset, .unset] [(.int (3 : Int32)), (.int (3 : Int32))])) (fun _ k => XS.iconst X0.here hx rfl (hb hby at_139) k) ?_
  refine own_step (W' := s₁.setTop (mkF m 143 #[.val (.int p1), .val (.long v), .second, .val (.long b0), .second, .val (.int p4), .val (.int (3 : Int32)), .val (.int i7), .val (.long b), .second, .unset, .unset] [])) (fun _ k => XS.icmpNo X0.here hx rfl (hb hby at_140) rfl (by decide) k) ?_
  obtain ⟨T1, X1, e1, st1⟩ := getS2 X0 hx hZ hown (host := "") (Or.inl (hw _ (List.mem_of_getElem? (i := 19) rfl))) Via.refl e0 (pin_S3 P) (g := (mkF m 143 #[.val (.int p1), .val (.long v), .second, .val (.long b0), .second, .val (.int p4), .val (.int (3 : Int32)), .val (.int i7), .val (.long b), .second, .unset, .unset] [])) rfl (hb hby at_143)
  refine own_step (W' := T1.setTop (mkF m 146 #[.val (.int p1), .val (.long v), .second, .val (.long b0), .second, .val (.int p4), .val (.int (3 : Int32)), .val (.int i7), .val (.long b), .second, .unset, .unset] [(.ref (w 3))])) (fun _ k => st1 _ k) ?_
  refine own_step (W' := T1.setTop (mkF m 148 #[.val (.int p1), .val (.long v), .second, .val (.long b0), .second, .val (.int p4), .val (.int (3 : Int32)), .val (.int i7), .val (.long b), .second, .val (.ref (w 3)), .unset] [])) (fun _ k => XS.astore X1.here hx rfl (hb hby at_146) rfl rfl (l' := #[.val (.int p1), .val (.long v), .second, .val (.long b0), .second, .val (.int p4), .val (.int (3 : Int32)), .val (.int i7), .val (.long b), .second, .val (.ref (w 3)), .unset]) rfl k) ?_
  refine own_step (W' := T1.setTop (mkF m 149 #[.val (.int p1), .val (.long v), .second, .val (.long b0), .second, .val (.int p4), .val (.int (3 : Int32)), .val (.int i7), .val (.long b), .second, .val (.ref (w 3)), .unset] [(.long v)])) (fun _ k => XS.lloadN X1.here hx rfl (hb hby at_148) rfl k) ?_
  refine own_step (W' := T1.setTop (mkF m 151 #[.val (.int p1), .val (.long v), .second, .val (.long b0), .second, .val (.int p4), .val (.int (3 : Int32)), .val (.int i7), .val (.long b), .second, .val (.ref (w 3)), .unset] [(.long b), (.long v)])) (fun _ k => XS.lload X1.here hx rfl (hb hby at_149) rfl k) ?_
  refine own_step (W' := T1.setTop (mkF m 152 #[.val (.int p1), .val (.long v), .second, .val (.long b0), .second, .val (.int p4), .val (.int (3 : Int32)), .val (.int i7), .val (.long b), .second, .val (.ref (w 3)), .unset] [(.int (lcmpW v b))])) (fun _ k => XS.lcmp X1.here hx rfl (hb hby at_151) rfl k) ?_
  rw [hl]
  refine own_step (W' := T1.setTop (mkF m 155 #[.val (.int p1), .val (.long v), .second, .val (.long b0), .second, .val (.int p4), .val (.int (3 : Int32)), .val (.int i7), .val (.long b), .second, .val (.ref (w 3)), .unset] [])) (fun _ k => XS.ifNo X1.here hx rfl (hb hby at_152) rfl (by decide) k) ?_
  refine own_step (W' := T1.setTop (mkF m 156 #[.val (.int p1), .val (.long v), .second, .val (.long b0), .second, .val (.int p4), .val (.int (3 : Int32)), .val (.int i7), .val (.long b), .second, .val (.ref (w 3)), .unset] [(.int (1 : Int32))])) (fun _ k => XS.iconst X1.here hx rfl (hb hby at_155) k) ?_
  refine own_step (W' := T1.setTop (mkF m 160 #[.val (.int p1), .val (.long v), .second, .val (.long b0), .second, .val (.int p4), .val (.int (3 : Int32)), .val (.int i7), .val (.long b), .second, .val (.ref (w 3)), .unset] [(.int (1 : Int32))])) (fun _ k => XS.goto X1.here hx rfl (pc0 := 156) (pc' := 160) rfl (hb hby at_156) (by decide) (by decide) k) ?_
  refine own_step (W' := T1.setTop (mkF m 162 #[.val (.int p1), .val (.long v), .second, .val (.long b0), .second, .val (.int p4), .val (.int (3 : Int32)), .val (.int i7), .val (.long b), .second, .val (.ref (w 3)), .val (.int (1 : Int32))] [])) (fun _ k => XS.istore X1.here hx rfl (hb hby at_160) rfl (l' := #[.val (.int p1), .val (.long v), .second, .val (.long b0), .second, .val (.int p4), .val (.int (3 : Int32)), .val (.int i7), .val (.long b), .second, .val (.ref (w 3)), .val (.int (1 : Int32))]) rfl k) ?_
  refine own_step (W' := T1.setTop (mkF m 184 #[.val (.int p1), .val (.long v), .second, .val (.long b0), .second, .val (.int p4), .val (.int (3 : Int32)), .val (.int i7), .val (.long b), .second, .val (.ref (w 3)), .val (.int (1 : Int32))] [])) (fun _ k => XS.goto X1.here hx rfl (pc0 := 162) (pc' := 184) rfl (hb hby at_162) (by decide) (by decide) k) ?_
  refine own_step (W' := T1.setTop (mkF m 186 #[.val (.int p1), .val (.long v), .second, .val (.long b0), .second, .val (.int p4), .val (.int (3 : Int32)), .val (.int i7), .val (.long b), .second, .val (.ref (w 3)), .val (.int (1 : Int32))] [(.ref (w 3))])) (fun _ k => XS.aload X1.here hx rfl (hb hby at_184) rfl rfl k) ?_
  refine own_step (W' := T1.setTop (mkF m 187 #[.val (.int p1), .val (.long v), .second, .val (.long b0), .second, .val (.int p4), .val (.int (3 : Int32)), .val (.int i7), .val (.long b), .second, .val (.ref (w 3)), .val (.int (1 : Int32))] [(.long v), (.ref (w 3))])) (fun _ k => XS.lloadN X1.here hx rfl (hb hby at_186) rfl k) ?_
  refine own_step (W' := T1.setTop (mkF m 189 #[.val (.int p1), .val (.long v), .second, .val (.long b0), .second, .val (.int p4), .val (.int (3 : Int32)), .val (.int i7), .val (.long b), .second, .val (.ref (w 3)), .val (.int (1 : Int32))] [(.long b), (.long v), (.ref (w 3))])) (fun _ k => XS.lload X1.here hx rfl (hb hby at_187) rfl k) ?_
  obtain ⟨cq2, kq2, q2a, q2b, q2c⟩ := isOf hZ e1 (pin_E3 P)
  obtain ⟨_, _, ⟨T2, L2, k2, n2⟩, -, X2, ⟨Lc2, hQ2, l2, y2, z2⟩, st2⟩ := X1.virtualBack hx (y := (⟨"com/example/punctual_proof/punctualproof/network/Comparison", "holds", "(JJ)Z"⟩ : MethodName)) (z := (⟨"com/example/punctual_proof/punctualproof/network/Comparison", "holds", "(JJ)Z"⟩ : MethodName)) hown (mvT hZ (hw _ (List.mem_of_getElem? (i := 4) rfl))) (mvT hZ (hw _ (List.mem_of_getElem? (i := 5) rfl))) (notFace_of_selects (args := #[]) (mvT hZ (hw _ (List.mem_of_getElem? (i := 7) rfl)))) (mvT hZ (hw _ (List.mem_of_getElem? (i := 7) rfl))) (mvT hZ (hw _ (List.mem_of_getElem? (i := 6) rfl))) (by decide) (backOf (W := 0) (rm1_w3_1 l Z a0 hw [] v b hl w h0 n0 Z0 P) hZ (hw _ (List.mem_of_getElem? (i := 8) rfl)) (hw _ (List.mem_of_getElem? (i := 2) rfl)) (by decide) (by decide)) q2a q2c (g := (mkF m 189 #[.val (.int p1), .val (.long v), .second, .val (.long b0), .second, .val (.int p4), .val (.int (3 : Int32)), .val (.int i7), .val (.long b), .second, .val (.ref (w 3)), .val (.int (1 : Int32))] [(.long b), (.long v), (.ref (w 3))])) rfl (by rw [hml]; rfl) (Steps.refl _) (argsL := [(.long v), (.long b)]) (rest := []) (lenOf pd_0 rfl) rfl (by show 2 * 0 + _ ≤ _; exact Nat.le_of_eq rfl) (hb hby at_189) (fun _ _ => ⟨rfl, e1, (by decide : 0 + 0 ≤ _), (by decide : 0 + 0 ≤ _)⟩)
  dsimp only [Pt.U, Pt.locs, Pt.cells, Pt.slots] at X2 l2 y2 z2 st2 hQ2
  subst l2 y2 z2
  obtain ⟨rfl, N2q, e2⟩ := hQ2
  have N2 := Fr.app N0 N2q
  refine own_step (W' := T2.setTop (mkF m 192 #[.val (.int p1), .val (.long v), .second, .val (.long b0), .second, .val (.int p4), .val (.int (3 : Int32)), .val (.int i7), .val (.long b), .second, .val (.ref (w 3)), .val (.int (1 : Int32))] [(.int (1 : Int32))])) (fun _ k => st2.trans k) ?_
  refine own_step (W' := T2.setTop (mkF m 194 #[.val (.int p1), .val (.long v), .second, .val (.long b0), .second, .val (.int p4), .val (.int (3 : Int32)), .val (.int i7), .val (.long b), .second, .val (.ref (w 3)), .val (.int (1 : Int32))] [(.int (1 : Int32)), (.int (1 : Int32))])) (fun _ k => XS.iload X2.here hx rfl (hb hby at_192) rfl k) ?_
  refine own_step (W' := T2.setTop (mkF m 197 #[.val (.int p1), .val (.long v), .second, .val (.long b0), .second, .val (.int p4), .val (.int (3 : Int32)), .val (.int i7), .val (.long b), .second, .val (.ref (w 3)), .val (.int (1 : Int32))] [])) (fun _ k => XS.icmpNo X2.here hx rfl (hb hby at_194) rfl (by decide) k) ?_
  refine own_step (W' := T2.setTop (mkF m 198 #[.val (.int p1), .val (.long v), .second, .val (.long b0), .second, .val (.int p4), .val (.int (3 : Int32)), .val (.int i7), .val (.long b), .second, .val (.ref (w 3)), .val (.int (1 : Int32))] [(.int (1 : Int32))])) (fun _ k => XS.iconst X2.here hx rfl (hb hby at_197) k) ?_
  refine own_step (W' := T2.setTop (mkF m 202 #[.val (.int p1), .val (.long v), .second, .val (.long b0), .second, .val (.int p4), .val (.int (3 : Int32)), .val (.int i7), .val (.long b), .second, .val (.ref (w 3)), .val (.int (1 : Int32))] [(.int (1 : Int32))])) (fun _ k => XS.goto X2.here hx rfl (pc0 := 198) (pc' := 202) rfl (hb hby at_198) (by decide) (by decide) k) ?_
  exact own_ret X2 hlk hret (v := (.int (1 : Int32))) (fun fs hr => retN X2 hx (t := .boolean) hret (by simp) (hb hby at_202) hr) ⟨rfl, N2⟩ (by decide) (by decide)
set_option maxRecDepth 65536 in
set_option maxHeartbeats 40000000 in
theorem rm1_w4_m (l : Launch) (Z : State) (a0 : Array Value) (hw : ∀ d ∈ tables_1, d.before a0 Z = true) (ws : List Jvm.Cond) (v b : Int64) (hl : lcmpW v b = (-1 : Int32)) (w : Nat → Addr) (h0 : Heap) (n0 : Nat) (Z0 : n0 ≤ h0.size) (P : Pins Z h0 w) :
    MetFree l (⟨"com/example/punctual_proof/punctualproof/network/Comparison", "holds", "(JJ)Z"⟩ : MethodName) (head1 (Jvm.Cond.code (⟨"com/example/punctual_proof/punctualproof/network/Comparison", "holds", "(JJ)Z"⟩ : MethodName) prog_62_method_9_code 5 (some .boolean) :: ws) ({ frames := 0, cells := 0, slots := 0, locals := 0 } : Room)) (fun a U => a = #[(.ref (w 4)), (.long v), (.long b)] ∧ Z.Warmed39 U.vm ∧ U.heap = h0) (fun _ _ _ _ _ => True) (fun _ U o U' => ∃ v L, o = .returned v ∧ own_QK (some (.int (0 : Int32))) h0 n0 v U'.heap L ∧ FrameEnd U o U' L ({ frames := 0, cells := 0, slots := 0, locals := 0 } : Room).cells ({ frames := 0, cells := 0, slots := 0, locals := 0 } : Room).slots) := by
  refine MetFree.of_bodySF (plainFor_of_name pn_com_example_punctual_proof_punctualproof_network_Comparison) hisR ?_
  intro p e s m args below meth c s₁ Bd hml0 hP hK
  obtain ⟨rfl, hZ, hh⟩ := hP
  have hx := Bd.exec
  have hby := Bd.bytes
  have hml : c.maxLocals = 5 := hml0
  have hown : s.vm.findClass "com/example/punctual_proof/punctualproof/network/Comparison" = some m.cls := findClass_of_methodNamed Bd.named
  have hnm := (name_of_methodNamed Bd.named Bd.method).1
  have X0 : Stand p l e ({ frames := 0, cells := 0, slots := 0, locals := 0 } : Room) s m #[(.ref (w 4)), (.long v), (.long b)] below meth c s₁ [] 0 0 := Stand.of_body Bd
  have e0 : s₁.heap = h0 := by rw [← hh, Bd.state]; rfl
  have N0 := Fr.nil n0
  refine own_enter (ef_1_RJJ m (w 4) v b) ?_
  refine own_step (W' := s₁.setTop (mkF m 1 #[.val (.ref (w 4)), .val (.long v), .second, .val (.long b), .second] [(.long v)])) (fun _ k => XS.lloadN X0.here hx rfl (hb hby d1_0) rfl k) ?_
  refine own_step (W' := s₁.setTop (mkF m 2 #[.val (.ref (w 4)), .val (.long v), .second, .val (.long b), .second] [(.long b), (.long v)])) (fun _ k => XS.lloadN X0.here hx rfl (hb hby d1_1) rfl k) ?_
  refine own_step (W' := s₁.setTop (mkF m 3 #[.val (.ref (w 4)), .val (.long v), .second, .val (.long b), .second] [(.int (lcmpW v b))])) (fun _ k => XS.lcmp X0.here hx rfl (hb hby d1_2) rfl k) ?_
  rw [hl]
  refine own_step (W' := s₁.setTop (mkF m 19 #[.val (.ref (w 4)), .val (.long v), .second, .val (.long b), .second] [])) (fun _ k => XS.ifYes X0.here hx rfl (pc0 := 3) (pc' := 19) rfl (hb hby d1_3) rfl (by decide) (by decide) (by decide) k) ?_
  refine own_step (W' := s₁.setTop (mkF m 20 #[.val (.ref (w 4)), .val (.long v), .second, .val (.long b), .second] [(.long v)])) (fun _ k => XS.lloadN X0.here hx rfl (hb hby d1_19) rfl k) ?_
  refine own_step (W' := s₁.setTop (mkF m 21 #[.val (.ref (w 4)), .val (.long v), .second, .val (.long b), .second] [(.long b), (.long v)])) (fun _ k => XS.lloadN X0.here hx rfl (hb hby d1_20) rfl k) ?_
  refine own_step (W' := s₁.setTop (mkF m 22 #[.val (.ref (w 4)), .val (.long v), .second, .val (.long b), .second] [(.int (lcmpW v b))])) (fun _ k => XS.lcmp X0.here hx rfl (hb hby d1_21) rfl k) ?_
  rw [hl]
  refine own_step (W' := s₁.setTop (mkF m 25 #[.val (.ref (w 4)), .val (.long v), .second, .val (.long b), .second] [])) (fun _ k => XS.ifNo X0.here hx rfl (hb hby d1_22) rfl (by decide) k) ?_
  refine own_step (W' := s₁.setTop (mkF m 26 #[.val (.ref (w 4)), .val (.long v), .second, .val (.long b), .second] [(.ref (w 4))])) (fun _ k => XS.aloadN X0.here hx rfl (hb hby d1_25) rfl rfl k) ?_
  obtain ⟨T1, X1, e1, st1⟩ := getF X0 hx hZ hown (host := "") (Or.inl (hw _ (List.mem_of_getElem? (i := 15) rfl))) Via.refl e0 (pin_F4_boundsBelow P) (g := (mkF m 26 #[.val (.ref (w 4)), .val (.long v), .second, .val (.long b), .second] [(.ref (w 4))])) rfl rfl (hb hby d1_26)
  refine own_step (W' := T1.setTop (mkF m 29 #[.val (.ref (w 4)), .val (.long v), .second, .val (.long b), .second] [(.int (1 : Int32))])) (fun _ k => st1 _ k) ?_
  refine own_step (W' := T1.setTop (mkF m 36 #[.val (.ref (w 4)), .val (.long v), .second, .val (.long b), .second] [])) (fun _ k => XS.ifYes X1.here hx rfl (pc0 := 29) (pc' := 36) rfl (hb hby d1_29) rfl (by decide) (by decide) (by decide) k) ?_
  refine own_step (W' := T1.setTop (mkF m 37 #[.val (.ref (w 4)), .val (.long v), .second, .val (.long b), .second] [(.int (0 : Int32))])) (fun _ k => XS.iconst X1.here hx rfl (hb hby d1_36) k) ?_
  refine own_step (W' := T1.setTop (mkF m 52 #[.val (.ref (w 4)), .val (.long v), .second, .val (.long b), .second] [(.int (0 : Int32))])) (fun _ k => XS.goto X1.here hx rfl (pc0 := 37) (pc' := 52) rfl (hb hby d1_37) (by decide) (by decide) k) ?_
  exact own_ret X1 Bd.notSynchronized Bd.returns (v := (.int (0 : Int32))) (fun fs hr => retN X1 hx (t := .boolean) Bd.returns (by simp) (hb hby d1_52) hr) ⟨rfl, N0, e1⟩ (by decide) (by decide)
set_option maxRecDepth 65536 in
set_option maxHeartbeats 40000000 in
theorem own_tail_4_m {p : Program} {l : Launch} {e : Env} {s : State} {m : MethodId} {args : Array Value} {below : List Frame} {meth : Method} {c : Code} {s₁ : State} {Z : State} {a0 : Array Value} {h0 : Heap} {n0 : Nat} {w : Nat → Addr} (p1 p4 i7 : Int32) (v b0 b : Int64) (hl : lcmpW v b = (-1 : Int32))
    (X0 : Stand p l e room_1 s m args below meth c s₁ [] 0 0) (hx : p.tables.exec = Jvm.exec) (hZ : Z.Warmed39 s.vm) (hw : ∀ d ∈ tables_1, d.before a0 Z = true) (hby : c.code = code) (hml : c.maxLocals = 12) (hown : s.vm.findClass "com/example/punctual_proof/punctualproof/network/ComparisonHoldsPinLaw" = some m.cls) (e0 : s₁.heap = h0) (N0 : Fr n0 []) (Z0 : n0 ≤ h0.size) (P : Pins Z h0 w) (hlk : meth.locks = false) (hret : meth.sig.returnType = ret) :
    own_Done p e below (s₁.setTop (mkF m 54 #[.val (.int p1), .val (.long v), .second, .val (.long b0), .second, .val (.int p4), .val (.int (4 : Int32)), .val (.int i7), .val (.long b), .second, .unset, .unset] [])) (fun o U' => ∃ v L, o = .returned v ∧ own_Q0 n0 v U'.heap L ∧ FrameEnd s o U' L room_1.cells room_1.slots) := by
  refine own_step (W' := s₁.setTop (mkF m 56 #[.val (.int p1), .val (.long v), .second, .val (.long b0), .second, .val (.int p4), .val (.int (4 : Int32)), .val (.int i7), .val (.long b), .second, .unset, .unset] [(.int (4 : Int32))])) (fun _ k => XS.iload X0.here hx rfl (hb hby at_54) rfl k) ?_
  refine own_step (W' := s₁.setTop (mkF m 81 #[.val (.int p1), .val (.long v), .second, .val (.long b0), .second, .val (.int p4), .val (.int (4 : Int32)), .val (.int i7), .val (.long b), .second, .unset, .unset] [])) (fun _ k => XS.ifYes X0.here hx rfl (pc0 := 56) (pc' := 81) rfl (hb hby at_56) rfl (by decide) (by decide) (by decide) k) ?_
  refine own_step (W' := s₁.setTop (mkF m 83 #[.val (.int p1), .val (.long v), .second, .val (.long b0), .second, .val (.int p4), .val (.int (4 : Int32)), .val (.int i7), .val (.long b), .second, .unset, .unset] [(.int (4 : Int32))])) (fun _ k => XS.iload X0.here hx rfl (hb hby at_81) rfl k) ?_
  refine own_step (W' := s₁.setTop (mkF m 84 #[.val (.int p1), .val (.long v), .second, .val (.long b0), .second, .val (.int p4), .val (.int (4 : Int32)), .val (.int i7), .val (.long b), .second, .unset, .unset] [(.int (1 : Int32)), (.int (4 : Int32))])) (fun _ k => XS.iconst X0.here hx rfl (hb hby at_83) k) ?_
  refine own_step (W' := s₁.setTop (mkF m 109 #[.val (.int p1), .val (.long v), .second, .val (.long b0), .second, .val (.int p4), .val (.int (4 : Int32)), .val (.int i7), .val (.long b), .second, .unset, .unset] [])) (fun _ k => XS.icmpYes X0.here hx rfl (pc0 := 84) (pc' := 109) rfl (hb hby at_84) rfl (by decide) (by decide) (by decide) k) ?_
  refine own_step (W' := s₁.setTop (mkF m 111 #[.val (.int p1), .val (.long v), .second, .val (.long b0), .second, .val (.int p4), .val (.int (4 : Int32)), .val (.int i7), .val (.long b), .second, .unset, .unset] [(.int (4 : Int32))])) (fun _ k => XS.iload X0.here hx rfl (hb hby at_109) rfl k) ?_
  refine own_step (W' := s₁.setTop (mkF m 112 #[.val (.int p1), .val (.long v), .second, .val (.long b0), .second, .val (.int p4), .val (.int (4 : Int32)), .val (.int i7), .val (.long b), .second, .unset, .unset] [(.int (2 : Int32)), (.int (4 : Int32))])) (fun _ k => XS.iconst X0.here hx rfl (hb hby at_111) k) ?_
  refine own_step (W' := s₁.setTop (mkF m 137 #[.val (.int p1), .val (.long v), .second, .val (.long b0), .second, .val (.int p4), .val (.int (4 : Int32)), .val (.int i7), .val (.long b), .second, .unset, .unset] [])) (fun _ k => XS.icmpYes X0.here hx rfl (pc0 := 112) (pc' := 137) rfl (hb hby at_112) rfl (by decide) (by decide) (by decide) k) ?_
  refine own_step (W' := s₁.setTop (mkF m 139 #[.val (.int p1), .val (.long v), .second, .val (.long b0), .second, .val (.int p4), .val (.int (4 : Int32)), .val (.int i7), .val (.long b), .second, .unset, .unset] [(.int (4 : Int32))])) (fun _ k => XS.iload X0.here hx rfl (hb hby at_137) rfl k) ?_
  refine own_step (W' := s₁.setTop (mkF m 140 #[.val (.int p1), .val (.long v), .second, .val (.long b0), .second, .val (.int p4), .val (.int (4 : Int32)), .val (.int i7), .val (.long b), .second, .unset, .unset] [(.int (3 : Int32)), (.int (4 : Int32))])) (fun _ k => XS.iconst X0.here hx rfl (hb hby at_139) k) ?_
  refine own_step (W' := s₁.setTop (mkF m 165 #[.val (.int p1), .val (.long v), .second, .val (.long b0), .second, .val (.int p4), .val (.int (4 : Int32)), .val (.int i7), .val (.long b), .second, .unset, .unset] [])) (fun _ k => XS.icmpYes X0.here hx rfl (pc0 := 140) (pc' := 165) rfl (hb hby at_140) rfl (by decide) (by decide) (by decide) k) ?_
  obtain ⟨T1, X1, e1, st1⟩ := getS2 X0 hx hZ hown (host := "") (Or.inl (hw _ (List.mem_of_getElem? (i := 21) rfl))) Via.refl e0 (pin_S4 P) (g := (mkF m 165 #[.val (.int p1), .val (.long v), .second, .val (.long b0), .second, .val (.int p4), .val (.int (4 : Int32)), .val (.int i7), .val (.long b), .second, .unset, .unset] [])) rfl (hb hby at_165)
  refine own_step (W' := T1.setTop (mkF m 168 #[.val (.int p1), .val (.long v), .second, .val (.long b0), .second, .val (.int p4), .val (.int (4 : Int32)), .val (.int i7), .val (.long b), .second, .unset, .unset] [(.ref (w 4))])) (fun _ k => st1 _ k) ?_
  refine own_step (W' := T1.setTop (mkF m 170 #[.val (.int p1), .val (.long v), .second, .val (.long b0), .second, .val (.int p4), .val (.int (4 : Int32)), .val (.int i7), .val (.long b), .second, .val (.ref (w 4)), .unset] [])) (fun _ k => XS.astore X1.here hx rfl (hb hby at_168) rfl rfl (l' := #[.val (.int p1), .val (.long v), .second, .val (.long b0), .second, .val (.int p4), .val (.int (4 : Int32)), .val (.int i7), .val (.long b), .second, .val (.ref (w 4)), .unset]) rfl k) ?_
  refine own_step (W' := T1.setTop (mkF m 171 #[.val (.int p1), .val (.long v), .second, .val (.long b0), .second, .val (.int p4), .val (.int (4 : Int32)), .val (.int i7), .val (.long b), .second, .val (.ref (w 4)), .unset] [(.long v)])) (fun _ k => XS.lloadN X1.here hx rfl (hb hby at_170) rfl k) ?_
  refine own_step (W' := T1.setTop (mkF m 173 #[.val (.int p1), .val (.long v), .second, .val (.long b0), .second, .val (.int p4), .val (.int (4 : Int32)), .val (.int i7), .val (.long b), .second, .val (.ref (w 4)), .unset] [(.long b), (.long v)])) (fun _ k => XS.lload X1.here hx rfl (hb hby at_171) rfl k) ?_
  refine own_step (W' := T1.setTop (mkF m 174 #[.val (.int p1), .val (.long v), .second, .val (.long b0), .second, .val (.int p4), .val (.int (4 : Int32)), .val (.int i7), .val (.long b), .second, .val (.ref (w 4)), .unset] [(.int (lcmpW v b))])) (fun _ k => XS.lcmp X1.here hx rfl (hb hby at_173) rfl k) ?_
  rw [hl]
  refine own_step (W' := T1.setTop (mkF m 181 #[.val (.int p1), .val (.long v), .second, .val (.long b0), .second, .val (.int p4), .val (.int (4 : Int32)), .val (.int i7), .val (.long b), .second, .val (.ref (w 4)), .unset] [])) (fun _ k => XS.ifYes X1.here hx rfl (pc0 := 174) (pc' := 181) rfl (hb hby at_174) rfl (by decide) (by decide) (by decide) k) ?_
  refine own_step (W' := T1.setTop (mkF m 182 #[.val (.int p1), .val (.long v), .second, .val (.long b0), .second, .val (.int p4), .val (.int (4 : Int32)), .val (.int i7), .val (.long b), .second, .val (.ref (w 4)), .unset] [(.int (0 : Int32))])) (fun _ k => XS.iconst X1.here hx rfl (hb hby at_181) k) ?_
  refine own_step (W' := T1.setTop (mkF m 184 #[.val (.int p1), .val (.long v), .second, .val (.long b0), .second, .val (.int p4), .val (.int (4 : Int32)), .val (.int i7), .val (.long b), .second, .val (.ref (w 4)), .val (.int (0 : Int32))] [])) (fun _ k => XS.istore X1.here hx rfl (hb hby at_182) rfl (l' := #[.val (.int p1), .val (.long v), .second, .val (.long b0), .second, .val (.int p4), .val (.int (4 : Int32)), .val (.int i7), .val (.long b), .second, .val (.ref (w 4)), .val (.int (0 : Int32))]) rfl k) ?_
  refine own_step (W' := T1.setTop (mkF m 186 #[.val (.int p1), .val (.long v), .second, .val (.long b0), .second, .val (.int p4), .val (.int (4 : Int32)), .val (.int i7), .val (.long b), .second, .val (.ref (w 4)), .val (.int (0 : Int32))] [(.ref (w 4))])) (fun _ k => XS.aload X1.here hx rfl (hb hby at_184) rfl rfl k) ?_
  refine own_step (W' := T1.setTop (mkF m 187 #[.val (.int p1), .val (.long v), .second, .val (.long b0), .second, .val (.int p4), .val (.int (4 : Int32)), .val (.int i7), .val (.long b), .second, .val (.ref (w 4)), .val (.int (0 : Int32))] [(.long v), (.ref (w 4))])) (fun _ k => XS.lloadN X1.here hx rfl (hb hby at_186) rfl k) ?_
  refine own_step (W' := T1.setTop (mkF m 189 #[.val (.int p1), .val (.long v), .second, .val (.long b0), .second, .val (.int p4), .val (.int (4 : Int32)), .val (.int i7), .val (.long b), .second, .val (.ref (w 4)), .val (.int (0 : Int32))] [(.long b), (.long v), (.ref (w 4))])) (fun _ k => XS.lload X1.here hx rfl (hb hby at_187) rfl k) ?_
  obtain ⟨cq2, kq2, q2a, q2b, q2c⟩ := isOf hZ e1 (pin_E4 P)
  obtain ⟨_, _, ⟨T2, L2, k2, n2⟩, -, X2, ⟨Lc2, hQ2, l2, y2, z2⟩, st2⟩ := X1.virtualBack hx (y := (⟨"com/example/punctual_proof/punctualproof/network/Comparison", "holds", "(JJ)Z"⟩ : MethodName)) (z := (⟨"com/example/punctual_proof/punctualproof/network/Comparison", "holds", "(JJ)Z"⟩ : MethodName)) hown (mvT hZ (hw _ (List.mem_of_getElem? (i := 4) rfl))) (mvT hZ (hw _ (List.mem_of_getElem? (i := 5) rfl))) (notFace_of_selects (args := #[]) (mvT hZ (hw _ (List.mem_of_getElem? (i := 7) rfl)))) (mvT hZ (hw _ (List.mem_of_getElem? (i := 7) rfl))) (mvT hZ (hw _ (List.mem_of_getElem? (i := 6) rfl))) (by decide) (backOf (W := 0) (rm1_w4_m l Z a0 hw [] v b hl w h0 n0 Z0 P) hZ (hw _ (List.mem_of_getElem? (i := 8) rfl)) (hw _ (List.mem_of_getElem? (i := 2) rfl)) (by decide) (by decide)) q2a q2c (g := (mkF m 189 #[.val (.int p1), .val (.long v), .second, .val (.long b0), .second, .val (.int p4), .val (.int (4 : Int32)), .val (.int i7), .val (.long b), .second, .val (.ref (w 4)), .val (.int (0 : Int32))] [(.long b), (.long v), (.ref (w 4))])) rfl (by rw [hml]; rfl) (Steps.refl _) (argsL := [(.long v), (.long b)]) (rest := []) (lenOf pd_0 rfl) rfl (by show 2 * 0 + _ ≤ _; exact Nat.le_of_eq rfl) (hb hby at_189) (fun _ _ => ⟨rfl, e1, (by decide : 0 + 0 ≤ _), (by decide : 0 + 0 ≤ _)⟩)
  dsimp only [Pt.U, Pt.locs, Pt.cells, Pt.slots] at X2 l2 y2 z2 st2 hQ2
  subst l2 y2 z2
  obtain ⟨rfl, N2q, e2⟩ := hQ2
  have N2 := Fr.app N0 N2q
  refine own_step (W' := T2.setTop (mkF m 192 #[.val (.int p1), .val (.long v), .second, .val (.long b0), .second, .val (.int p4), .val (.int (4 : Int32)), .val (.int i7), .val (.long b), .second, .val (.ref (w 4)), .val (.int (0 : Int32))] [(.int (0 : Int32))])) (fun _ k => st2.trans k) ?_
  refine own_step (W' := T2.setTop (mkF m 194 #[.val (.int p1), .val (.long v), .second, .val (.long b0), .second, .val (.int p4), .val (.int (4 : Int32)), .val (.int i7), .val (.long b), .second, .val (.ref (w 4)), .val (.int (0 : Int32))] [(.int (0 : Int32)), (.int (0 : Int32))])) (fun _ k => XS.iload X2.here hx rfl (hb hby at_192) rfl k) ?_
  refine own_step (W' := T2.setTop (mkF m 197 #[.val (.int p1), .val (.long v), .second, .val (.long b0), .second, .val (.int p4), .val (.int (4 : Int32)), .val (.int i7), .val (.long b), .second, .val (.ref (w 4)), .val (.int (0 : Int32))] [])) (fun _ k => XS.icmpNo X2.here hx rfl (hb hby at_194) rfl (by decide) k) ?_
  refine own_step (W' := T2.setTop (mkF m 198 #[.val (.int p1), .val (.long v), .second, .val (.long b0), .second, .val (.int p4), .val (.int (4 : Int32)), .val (.int i7), .val (.long b), .second, .val (.ref (w 4)), .val (.int (0 : Int32))] [(.int (1 : Int32))])) (fun _ k => XS.iconst X2.here hx rfl (hb hby at_197) k) ?_
  refine own_step (W' := T2.setTop (mkF m 202 #[.val (.int p1), .val (.long v), .second, .val (.long b0), .second, .val (.int p4), .val (.int (4 : Int32)), .val (.int i7), .val (.long b), .second, .val (.ref (w 4)), .val (.int (0 : Int32))] [(.int (1 : Int32))])) (fun _ k => XS.goto X2.here hx rfl (pc0 := 198) (pc' := 202) rfl (hb hby at_198) (by decide) (by decide) k) ?_
  exact own_ret X2 hlk hret (v := (.int (1 : Int32))) (fun fs hr => retN X2 hx (t := .boolean) hret (by simp) (hb hby at_202) hr) ⟨rfl, N2⟩ (by decide) (by decide)
set_option maxRecDepth 65536 in
set_option maxHeartbeats 40000000 in
theorem rm1_w4_0 (l : Launch) (Z : State) (a0 : Array Value) (hw : ∀ d ∈ tables_1, d.before a0 Z = true) (ws : List Jvm.Cond) (v b : Int64) (hl : lcmpW v b = (0 : Int32)) (w : Nat → Addr) (h0 : Heap) (n0 : Nat) (Z0 : n0 ≤ h0.size) (P : Pins Z h0 w) :
    MetFree l (⟨"com/example/punctual_proof/punctualproof/network/Comparison", "holds", "(JJ)Z"⟩ : MethodName) (head1 (Jvm.Cond.code (⟨"com/example/punctual_proof/punctualproof/network/Comparison", "holds", "(JJ)Z"⟩ : MethodName) prog_62_method_9_code 5 (some .boolean) :: ws) ({ frames := 0, cells := 0, slots := 0, locals := 0 } : Room)) (fun a U => a = #[(.ref (w 4)), (.long v), (.long b)] ∧ Z.Warmed39 U.vm ∧ U.heap = h0) (fun _ _ _ _ _ => True) (fun _ U o U' => ∃ v L, o = .returned v ∧ own_QK (some (.int (0 : Int32))) h0 n0 v U'.heap L ∧ FrameEnd U o U' L ({ frames := 0, cells := 0, slots := 0, locals := 0 } : Room).cells ({ frames := 0, cells := 0, slots := 0, locals := 0 } : Room).slots) := by
  refine MetFree.of_bodySF (plainFor_of_name pn_com_example_punctual_proof_punctualproof_network_Comparison) hisR ?_
  intro p e s m args below meth c s₁ Bd hml0 hP hK
  obtain ⟨rfl, hZ, hh⟩ := hP
  have hx := Bd.exec
  have hby := Bd.bytes
  have hml : c.maxLocals = 5 := hml0
  have hown : s.vm.findClass "com/example/punctual_proof/punctualproof/network/Comparison" = some m.cls := findClass_of_methodNamed Bd.named
  have hnm := (name_of_methodNamed Bd.named Bd.method).1
  have X0 : Stand p l e ({ frames := 0, cells := 0, slots := 0, locals := 0 } : Room) s m #[(.ref (w 4)), (.long v), (.long b)] below meth c s₁ [] 0 0 := Stand.of_body Bd
  have e0 : s₁.heap = h0 := by rw [← hh, Bd.state]; rfl
  have N0 := Fr.nil n0
  refine own_enter (ef_1_RJJ m (w 4) v b) ?_
  refine own_step (W' := s₁.setTop (mkF m 1 #[.val (.ref (w 4)), .val (.long v), .second, .val (.long b), .second] [(.long v)])) (fun _ k => XS.lloadN X0.here hx rfl (hb hby d1_0) rfl k) ?_
  refine own_step (W' := s₁.setTop (mkF m 2 #[.val (.ref (w 4)), .val (.long v), .second, .val (.long b), .second] [(.long b), (.long v)])) (fun _ k => XS.lloadN X0.here hx rfl (hb hby d1_1) rfl k) ?_
  refine own_step (W' := s₁.setTop (mkF m 3 #[.val (.ref (w 4)), .val (.long v), .second, .val (.long b), .second] [(.int (lcmpW v b))])) (fun _ k => XS.lcmp X0.here hx rfl (hb hby d1_2) rfl k) ?_
  rw [hl]
  refine own_step (W' := s₁.setTop (mkF m 6 #[.val (.ref (w 4)), .val (.long v), .second, .val (.long b), .second] [])) (fun _ k => XS.ifNo X0.here hx rfl (hb hby d1_3) rfl (by decide) k) ?_
  refine own_step (W' := s₁.setTop (mkF m 7 #[.val (.ref (w 4)), .val (.long v), .second, .val (.long b), .second] [(.ref (w 4))])) (fun _ k => XS.aloadN X0.here hx rfl (hb hby d1_6) rfl rfl k) ?_
  obtain ⟨T1, X1, e1, st1⟩ := getF X0 hx hZ hown (host := "") (Or.inl (hw _ (List.mem_of_getElem? (i := 13) rfl))) Via.refl e0 (pin_F4_strict P) (g := (mkF m 7 #[.val (.ref (w 4)), .val (.long v), .second, .val (.long b), .second] [(.ref (w 4))])) rfl rfl (hb hby d1_7)
  refine own_step (W' := T1.setTop (mkF m 10 #[.val (.ref (w 4)), .val (.long v), .second, .val (.long b), .second] [(.int (1 : Int32))])) (fun _ k => st1 _ k) ?_
  refine own_step (W' := T1.setTop (mkF m 17 #[.val (.ref (w 4)), .val (.long v), .second, .val (.long b), .second] [])) (fun _ k => XS.ifYes X1.here hx rfl (pc0 := 10) (pc' := 17) rfl (hb hby d1_10) rfl (by decide) (by decide) (by decide) k) ?_
  refine own_step (W' := T1.setTop (mkF m 18 #[.val (.ref (w 4)), .val (.long v), .second, .val (.long b), .second] [(.int (0 : Int32))])) (fun _ k => XS.iconst X1.here hx rfl (hb hby d1_17) k) ?_
  exact own_ret X1 Bd.notSynchronized Bd.returns (v := (.int (0 : Int32))) (fun fs hr => retN X1 hx (t := .boolean) Bd.returns (by simp) (hb hby d1_18) hr) ⟨rfl, N0, e1⟩ (by decide) (by decide)
set_option maxRecDepth 65536 in
set_option maxHeartbeats 40000000 in
theorem own_tail_4_0 {p : Program} {l : Launch} {e : Env} {s : State} {m : MethodId} {args : Array Value} {below : List Frame} {meth : Method} {c : Code} {s₁ : State} {Z : State} {a0 : Array Value} {h0 : Heap} {n0 : Nat} {w : Nat → Addr} (p1 p4 i7 : Int32) (v b0 b : Int64) (hl : lcmpW v b = (0 : Int32))
    (X0 : Stand p l e room_1 s m args below meth c s₁ [] 0 0) (hx : p.tables.exec = Jvm.exec) (hZ : Z.Warmed39 s.vm) (hw : ∀ d ∈ tables_1, d.before a0 Z = true) (hby : c.code = code) (hml : c.maxLocals = 12) (hown : s.vm.findClass "com/example/punctual_proof/punctualproof/network/ComparisonHoldsPinLaw" = some m.cls) (e0 : s₁.heap = h0) (N0 : Fr n0 []) (Z0 : n0 ≤ h0.size) (P : Pins Z h0 w) (hlk : meth.locks = false) (hret : meth.sig.returnType = ret) :
    own_Done p e below (s₁.setTop (mkF m 54 #[.val (.int p1), .val (.long v), .second, .val (.long b0), .second, .val (.int p4), .val (.int (4 : Int32)), .val (.int i7), .val (.long b), .second, .unset, .unset] [])) (fun o U' => ∃ v L, o = .returned v ∧ own_Q0 n0 v U'.heap L ∧ FrameEnd s o U' L room_1.cells room_1.slots) := by
  refine own_step (W' := s₁.setTop (mkF m 56 #[.val (.int p1), .val (.long v), .second, .val (.long b0), .second, .val (.int p4), .val (.int (4 : Int32)), .val (.int i7), .val (.long b), .second, .unset, .unset] [(.int (4 : Int32))])) (fun _ k => XS.iload X0.here hx rfl (hb hby at_54) rfl k) ?_
  refine own_step (W' := s₁.setTop (mkF m 81 #[.val (.int p1), .val (.long v), .second, .val (.long b0), .second, .val (.int p4), .val (.int (4 : Int32)), .val (.int i7), .val (.long b), .second, .unset, .unset] [])) (fun _ k => XS.ifYes X0.here hx rfl (pc0 := 56) (pc' := 81) rfl (hb hby at_56) rfl (by decide) (by decide) (by decide) k) ?_
  refine own_step (W' := s₁.setTop (mkF m 83 #[.val (.int p1), .val (.long v), .second, .val (.long b0), .second, .val (.int p4), .val (.int (4 : Int32)), .val (.int i7), .val (.long b), .second, .unset, .unset] [(.int (4 : Int32))])) (fun _ k => XS.iload X0.here hx rfl (hb hby at_81) rfl k) ?_
  refine own_step (W' := s₁.setTop (mkF m 84 #[.val (.int p1), .val (.long v), .second, .val (.long b0), .second, .val (.int p4), .val (.int (4 : Int32)), .val (.int i7), .val (.long b), .second, .unset, .unset] [(.int (1 : Int32)), (.int (4 : Int32))])) (fun _ k => XS.iconst X0.here hx rfl (hb hby at_83) k) ?_
  refine own_step (W' := s₁.setTop (mkF m 109 #[.val (.int p1), .val (.long v), .second, .val (.long b0), .second, .val (.int p4), .val (.int (4 : Int32)), .val (.int i7), .val (.long b), .second, .unset, .unset] [])) (fun _ k => XS.icmpYes X0.here hx rfl (pc0 := 84) (pc' := 109) rfl (hb hby at_84) rfl (by decide) (by decide) (by decide) k) ?_
  refine own_step (W' := s₁.setTop (mkF m 111 #[.val (.int p1), .val (.long v), .second, .val (.long b0), .second, .val (.int p4), .val (.int (4 : Int32)), .val (.int i7), .val (.long b), .second, .unset, .unset] [(.int (4 : Int32))])) (fun _ k => XS.iload X0.here hx rfl (hb hby at_109) rfl k) ?_
  refine own_step (W' := s₁.setTop (mkF m 112 #[.val (.int p1), .val (.long v), .second, .val (.long b0), .second, .val (.int p4), .val (.int (4 : Int32)), .val (.int i7), .val (.long b), .second, .unset, .unset] [(.int (2 : Int32)), (.int (4 : Int32))])) (fun _ k => XS.iconst X0.here hx rfl (hb hby at_111) k) ?_
  refine own_step (W' := s₁.setTop (mkF m 137 #[.val (.int p1), .val (.long v), .second, .val (.long b0), .second, .val (.int p4), .val (.int (4 : Int32)), .val (.int i7), .val (.long b), .second, .unset, .unset] [])) (fun _ k => XS.icmpYes X0.here hx rfl (pc0 := 112) (pc' := 137) rfl (hb hby at_112) rfl (by decide) (by decide) (by decide) k) ?_
  refine own_step (W' := s₁.setTop (mkF m 139 #[.val (.int p1), .val (.long v), .second, .val (.long b0), .second, .val (.int p4), .val (.int (4 : Int32)), .val (.int i7), .val (.long b), .second, .unset, .unset] [(.int (4 : Int32))])) (fun _ k => XS.iload X0.here hx rfl (hb hby at_137) rfl k) ?_
  refine own_step (W' := s₁.setTop (mkF m 140 #[.val (.int p1), .val (.long v), .second, .val (.long b0), .second, .val (.int p4), .val (.int (4 : Int32)), .val (.int i7), .val (.long b), .second, .unset, .unset] [(.int (3 : Int32)), (.int (4 : Int32))])) (fun _ k => XS.iconst X0.here hx rfl (hb hby at_139) k) ?_
  refine own_step (W' := s₁.setTop (mkF m 165 #[.val (.int p1), .val (.long v), .second, .val (.long b0), .second, .val (.int p4), .val (.int (4 : Int32)), .val (.int i7), .val (.long b), .second, .unset, .unset] [])) (fun _ k => XS.icmpYes X0.here hx rfl (pc0 := 140) (pc' := 165) rfl (hb hby at_140) rfl (by decide) (by decide) (by decide) k) ?_
  obtain ⟨T1, X1, e1, st1⟩ := getS2 X0 hx hZ hown (host := "") (Or.inl (hw _ (List.mem_of_getElem? (i := 21) rfl))) Via.refl e0 (pin_S4 P) (g := (mkF m 165 #[.val (.int p1), .val (.long v), .second, .val (.long b0), .second, .val (.int p4), .val (.int (4 : Int32)), .val (.int i7), .val (.long b), .second, .unset, .unset] [])) rfl (hb hby at_165)
  refine own_step (W' := T1.setTop (mkF m 168 #[.val (.int p1), .val (.long v), .second, .val (.long b0), .second, .val (.int p4), .val (.int (4 : Int32)), .val (.int i7), .val (.long b), .second, .unset, .unset] [(.ref (w 4))])) (fun _ k => st1 _ k) ?_
  refine own_step (W' := T1.setTop (mkF m 170 #[.val (.int p1), .val (.long v), .second, .val (.long b0), .second, .val (.int p4), .val (.int (4 : Int32)), .val (.int i7), .val (.long b), .second, .val (.ref (w 4)), .unset] [])) (fun _ k => XS.astore X1.here hx rfl (hb hby at_168) rfl rfl (l' := #[.val (.int p1), .val (.long v), .second, .val (.long b0), .second, .val (.int p4), .val (.int (4 : Int32)), .val (.int i7), .val (.long b), .second, .val (.ref (w 4)), .unset]) rfl k) ?_
  refine own_step (W' := T1.setTop (mkF m 171 #[.val (.int p1), .val (.long v), .second, .val (.long b0), .second, .val (.int p4), .val (.int (4 : Int32)), .val (.int i7), .val (.long b), .second, .val (.ref (w 4)), .unset] [(.long v)])) (fun _ k => XS.lloadN X1.here hx rfl (hb hby at_170) rfl k) ?_
  refine own_step (W' := T1.setTop (mkF m 173 #[.val (.int p1), .val (.long v), .second, .val (.long b0), .second, .val (.int p4), .val (.int (4 : Int32)), .val (.int i7), .val (.long b), .second, .val (.ref (w 4)), .unset] [(.long b), (.long v)])) (fun _ k => XS.lload X1.here hx rfl (hb hby at_171) rfl k) ?_
  refine own_step (W' := T1.setTop (mkF m 174 #[.val (.int p1), .val (.long v), .second, .val (.long b0), .second, .val (.int p4), .val (.int (4 : Int32)), .val (.int i7), .val (.long b), .second, .val (.ref (w 4)), .unset] [(.int (lcmpW v b))])) (fun _ k => XS.lcmp X1.here hx rfl (hb hby at_173) rfl k) ?_
  rw [hl]
  refine own_step (W' := T1.setTop (mkF m 181 #[.val (.int p1), .val (.long v), .second, .val (.long b0), .second, .val (.int p4), .val (.int (4 : Int32)), .val (.int i7), .val (.long b), .second, .val (.ref (w 4)), .unset] [])) (fun _ k => XS.ifYes X1.here hx rfl (pc0 := 174) (pc' := 181) rfl (hb hby at_174) rfl (by decide) (by decide) (by decide) k) ?_
  refine own_step (W' := T1.setTop (mkF m 182 #[.val (.int p1), .val (.long v), .second, .val (.long b0), .second, .val (.int p4), .val (.int (4 : Int32)), .val (.int i7), .val (.long b), .second, .val (.ref (w 4)), .unset] [(.int (0 : Int32))])) (fun _ k => XS.iconst X1.here hx rfl (hb hby at_181) k) ?_
  refine own_step (W' := T1.setTop (mkF m 184 #[.val (.int p1), .val (.long v), .second, .val (.long b0), .second, .val (.int p4), .val (.int (4 : Int32)), .val (.int i7), .val (.long b), .second, .val (.ref (w 4)), .val (.int (0 : Int32))] [])) (fun _ k => XS.istore X1.here hx rfl (hb hby at_182) rfl (l' := #[.val (.int p1), .val (.long v), .second, .val (.long b0), .second, .val (.int p4), .val (.int (4 : Int32)), .val (.int i7), .val (.long b), .second, .val (.ref (w 4)), .val (.int (0 : Int32))]) rfl k) ?_
  refine own_step (W' := T1.setTop (mkF m 186 #[.val (.int p1), .val (.long v), .second, .val (.long b0), .second, .val (.int p4), .val (.int (4 : Int32)), .val (.int i7), .val (.long b), .second, .val (.ref (w 4)), .val (.int (0 : Int32))] [(.ref (w 4))])) (fun _ k => XS.aload X1.here hx rfl (hb hby at_184) rfl rfl k) ?_
  refine own_step (W' := T1.setTop (mkF m 187 #[.val (.int p1), .val (.long v), .second, .val (.long b0), .second, .val (.int p4), .val (.int (4 : Int32)), .val (.int i7), .val (.long b), .second, .val (.ref (w 4)), .val (.int (0 : Int32))] [(.long v), (.ref (w 4))])) (fun _ k => XS.lloadN X1.here hx rfl (hb hby at_186) rfl k) ?_
  refine own_step (W' := T1.setTop (mkF m 189 #[.val (.int p1), .val (.long v), .second, .val (.long b0), .second, .val (.int p4), .val (.int (4 : Int32)), .val (.int i7), .val (.long b), .second, .val (.ref (w 4)), .val (.int (0 : Int32))] [(.long b), (.long v), (.ref (w 4))])) (fun _ k => XS.lload X1.here hx rfl (hb hby at_187) rfl k) ?_
  obtain ⟨cq2, kq2, q2a, q2b, q2c⟩ := isOf hZ e1 (pin_E4 P)
  obtain ⟨_, _, ⟨T2, L2, k2, n2⟩, -, X2, ⟨Lc2, hQ2, l2, y2, z2⟩, st2⟩ := X1.virtualBack hx (y := (⟨"com/example/punctual_proof/punctualproof/network/Comparison", "holds", "(JJ)Z"⟩ : MethodName)) (z := (⟨"com/example/punctual_proof/punctualproof/network/Comparison", "holds", "(JJ)Z"⟩ : MethodName)) hown (mvT hZ (hw _ (List.mem_of_getElem? (i := 4) rfl))) (mvT hZ (hw _ (List.mem_of_getElem? (i := 5) rfl))) (notFace_of_selects (args := #[]) (mvT hZ (hw _ (List.mem_of_getElem? (i := 7) rfl)))) (mvT hZ (hw _ (List.mem_of_getElem? (i := 7) rfl))) (mvT hZ (hw _ (List.mem_of_getElem? (i := 6) rfl))) (by decide) (backOf (W := 0) (rm1_w4_0 l Z a0 hw [] v b hl w h0 n0 Z0 P) hZ (hw _ (List.mem_of_getElem? (i := 8) rfl)) (hw _ (List.mem_of_getElem? (i := 2) rfl)) (by decide) (by decide)) q2a q2c (g := (mkF m 189 #[.val (.int p1), .val (.long v), .second, .val (.long b0), .second, .val (.int p4), .val (.int (4 : Int32)), .val (.int i7), .val (.long b), .second, .val (.ref (w 4)), .val (.int (0 : Int32))] [(.long b), (.long v), (.ref (w 4))])) rfl (by rw [hml]; rfl) (Steps.refl _) (argsL := [(.long v), (.long b)]) (rest := []) (lenOf pd_0 rfl) rfl (by show 2 * 0 + _ ≤ _; exact Nat.le_of_eq rfl) (hb hby at_189) (fun _ _ => ⟨rfl, e1, (by decide : 0 + 0 ≤ _), (by decide : 0 + 0 ≤ _)⟩)
  dsimp only [Pt.U, Pt.locs, Pt.cells, Pt.slots] at X2 l2 y2 z2 st2 hQ2
  subst l2 y2 z2
  obtain ⟨rfl, N2q, e2⟩ := hQ2
  have N2 := Fr.app N0 N2q
  refine own_step (W' := T2.setTop (mkF m 192 #[.val (.int p1), .val (.long v), .second, .val (.long b0), .second, .val (.int p4), .val (.int (4 : Int32)), .val (.int i7), .val (.long b), .second, .val (.ref (w 4)), .val (.int (0 : Int32))] [(.int (0 : Int32))])) (fun _ k => st2.trans k) ?_
  refine own_step (W' := T2.setTop (mkF m 194 #[.val (.int p1), .val (.long v), .second, .val (.long b0), .second, .val (.int p4), .val (.int (4 : Int32)), .val (.int i7), .val (.long b), .second, .val (.ref (w 4)), .val (.int (0 : Int32))] [(.int (0 : Int32)), (.int (0 : Int32))])) (fun _ k => XS.iload X2.here hx rfl (hb hby at_192) rfl k) ?_
  refine own_step (W' := T2.setTop (mkF m 197 #[.val (.int p1), .val (.long v), .second, .val (.long b0), .second, .val (.int p4), .val (.int (4 : Int32)), .val (.int i7), .val (.long b), .second, .val (.ref (w 4)), .val (.int (0 : Int32))] [])) (fun _ k => XS.icmpNo X2.here hx rfl (hb hby at_194) rfl (by decide) k) ?_
  refine own_step (W' := T2.setTop (mkF m 198 #[.val (.int p1), .val (.long v), .second, .val (.long b0), .second, .val (.int p4), .val (.int (4 : Int32)), .val (.int i7), .val (.long b), .second, .val (.ref (w 4)), .val (.int (0 : Int32))] [(.int (1 : Int32))])) (fun _ k => XS.iconst X2.here hx rfl (hb hby at_197) k) ?_
  refine own_step (W' := T2.setTop (mkF m 202 #[.val (.int p1), .val (.long v), .second, .val (.long b0), .second, .val (.int p4), .val (.int (4 : Int32)), .val (.int i7), .val (.long b), .second, .val (.ref (w 4)), .val (.int (0 : Int32))] [(.int (1 : Int32))])) (fun _ k => XS.goto X2.here hx rfl (pc0 := 198) (pc' := 202) rfl (hb hby at_198) (by decide) (by decide) k) ?_
  exact own_ret X2 hlk hret (v := (.int (1 : Int32))) (fun fs hr => retN X2 hx (t := .boolean) hret (by simp) (hb hby at_202) hr) ⟨rfl, N2⟩ (by decide) (by decide)
set_option maxRecDepth 65536 in
set_option maxHeartbeats 40000000 in
theorem rm1_w4_1 (l : Launch) (Z : State) (a0 : Array Value) (hw : ∀ d ∈ tables_1, d.before a0 Z = true) (ws : List Jvm.Cond) (v b : Int64) (hl : lcmpW v b = (1 : Int32)) (w : Nat → Addr) (h0 : Heap) (n0 : Nat) (Z0 : n0 ≤ h0.size) (P : Pins Z h0 w) :
    MetFree l (⟨"com/example/punctual_proof/punctualproof/network/Comparison", "holds", "(JJ)Z"⟩ : MethodName) (head1 (Jvm.Cond.code (⟨"com/example/punctual_proof/punctualproof/network/Comparison", "holds", "(JJ)Z"⟩ : MethodName) prog_62_method_9_code 5 (some .boolean) :: ws) ({ frames := 0, cells := 0, slots := 0, locals := 0 } : Room)) (fun a U => a = #[(.ref (w 4)), (.long v), (.long b)] ∧ Z.Warmed39 U.vm ∧ U.heap = h0) (fun _ _ _ _ _ => True) (fun _ U o U' => ∃ v L, o = .returned v ∧ own_QK (some (.int (1 : Int32))) h0 n0 v U'.heap L ∧ FrameEnd U o U' L ({ frames := 0, cells := 0, slots := 0, locals := 0 } : Room).cells ({ frames := 0, cells := 0, slots := 0, locals := 0 } : Room).slots) := by
  refine MetFree.of_bodySF (plainFor_of_name pn_com_example_punctual_proof_punctualproof_network_Comparison) hisR ?_
  intro p e s m args below meth c s₁ Bd hml0 hP hK
  obtain ⟨rfl, hZ, hh⟩ := hP
  have hx := Bd.exec
  have hby := Bd.bytes
  have hml : c.maxLocals = 5 := hml0
  have hown : s.vm.findClass "com/example/punctual_proof/punctualproof/network/Comparison" = some m.cls := findClass_of_methodNamed Bd.named
  have hnm := (name_of_methodNamed Bd.named Bd.method).1
  have X0 : Stand p l e ({ frames := 0, cells := 0, slots := 0, locals := 0 } : Room) s m #[(.ref (w 4)), (.long v), (.long b)] below meth c s₁ [] 0 0 := Stand.of_body Bd
  have e0 : s₁.heap = h0 := by rw [← hh, Bd.state]; rfl
  have N0 := Fr.nil n0
  refine own_enter (ef_1_RJJ m (w 4) v b) ?_
  refine own_step (W' := s₁.setTop (mkF m 1 #[.val (.ref (w 4)), .val (.long v), .second, .val (.long b), .second] [(.long v)])) (fun _ k => XS.lloadN X0.here hx rfl (hb hby d1_0) rfl k) ?_
  refine own_step (W' := s₁.setTop (mkF m 2 #[.val (.ref (w 4)), .val (.long v), .second, .val (.long b), .second] [(.long b), (.long v)])) (fun _ k => XS.lloadN X0.here hx rfl (hb hby d1_1) rfl k) ?_
  refine own_step (W' := s₁.setTop (mkF m 3 #[.val (.ref (w 4)), .val (.long v), .second, .val (.long b), .second] [(.int (lcmpW v b))])) (fun _ k => XS.lcmp X0.here hx rfl (hb hby d1_2) rfl k) ?_
  rw [hl]
  refine own_step (W' := s₁.setTop (mkF m 19 #[.val (.ref (w 4)), .val (.long v), .second, .val (.long b), .second] [])) (fun _ k => XS.ifYes X0.here hx rfl (pc0 := 3) (pc' := 19) rfl (hb hby d1_3) rfl (by decide) (by decide) (by decide) k) ?_
  refine own_step (W' := s₁.setTop (mkF m 20 #[.val (.ref (w 4)), .val (.long v), .second, .val (.long b), .second] [(.long v)])) (fun _ k => XS.lloadN X0.here hx rfl (hb hby d1_19) rfl k) ?_
  refine own_step (W' := s₁.setTop (mkF m 21 #[.val (.ref (w 4)), .val (.long v), .second, .val (.long b), .second] [(.long b), (.long v)])) (fun _ k => XS.lloadN X0.here hx rfl (hb hby d1_20) rfl k) ?_
  refine own_step (W' := s₁.setTop (mkF m 22 #[.val (.ref (w 4)), .val (.long v), .second, .val (.long b), .second] [(.int (lcmpW v b))])) (fun _ k => XS.lcmp X0.here hx rfl (hb hby d1_21) rfl k) ?_
  rw [hl]
  refine own_step (W' := s₁.setTop (mkF m 40 #[.val (.ref (w 4)), .val (.long v), .second, .val (.long b), .second] [])) (fun _ k => XS.ifYes X0.here hx rfl (pc0 := 22) (pc' := 40) rfl (hb hby d1_22) rfl (by decide) (by decide) (by decide) k) ?_
  refine own_step (W' := s₁.setTop (mkF m 41 #[.val (.ref (w 4)), .val (.long v), .second, .val (.long b), .second] [(.ref (w 4))])) (fun _ k => XS.aloadN X0.here hx rfl (hb hby d1_40) rfl rfl k) ?_
  obtain ⟨T1, X1, e1, st1⟩ := getF X0 hx hZ hown (host := "") (Or.inl (hw _ (List.mem_of_getElem? (i := 9) rfl))) Via.refl e0 (pin_F4_boundsAbove P) (g := (mkF m 41 #[.val (.ref (w 4)), .val (.long v), .second, .val (.long b), .second] [(.ref (w 4))])) rfl rfl (hb hby d1_41)
  refine own_step (W' := T1.setTop (mkF m 44 #[.val (.ref (w 4)), .val (.long v), .second, .val (.long b), .second] [(.int (0 : Int32))])) (fun _ k => st1 _ k) ?_
  refine own_step (W' := T1.setTop (mkF m 47 #[.val (.ref (w 4)), .val (.long v), .second, .val (.long b), .second] [])) (fun _ k => XS.ifNo X1.here hx rfl (hb hby d1_44) rfl (by decide) k) ?_
  refine own_step (W' := T1.setTop (mkF m 48 #[.val (.ref (w 4)), .val (.long v), .second, .val (.long b), .second] [(.int (1 : Int32))])) (fun _ k => XS.iconst X1.here hx rfl (hb hby d1_47) k) ?_
  refine own_step (W' := T1.setTop (mkF m 52 #[.val (.ref (w 4)), .val (.long v), .second, .val (.long b), .second] [(.int (1 : Int32))])) (fun _ k => XS.goto X1.here hx rfl (pc0 := 48) (pc' := 52) rfl (hb hby d1_48) (by decide) (by decide) k) ?_
  exact own_ret X1 Bd.notSynchronized Bd.returns (v := (.int (1 : Int32))) (fun fs hr => retN X1 hx (t := .boolean) Bd.returns (by simp) (hb hby d1_52) hr) ⟨rfl, N0, e1⟩ (by decide) (by decide)
set_option maxRecDepth 65536 in
set_option maxHeartbeats 40000000 in
theorem own_tail_4_1 {p : Program} {l : Launch} {e : Env} {s : State} {m : MethodId} {args : Array Value} {below : List Frame} {meth : Method} {c : Code} {s₁ : State} {Z : State} {a0 : Array Value} {h0 : Heap} {n0 : Nat} {w : Nat → Addr} (p1 p4 i7 : Int32) (v b0 b : Int64) (hl : lcmpW v b = (1 : Int32))
    (X0 : Stand p l e room_1 s m args below meth c s₁ [] 0 0) (hx : p.tables.exec = Jvm.exec) (hZ : Z.Warmed39 s.vm) (hw : ∀ d ∈ tables_1, d.before a0 Z = true) (hby : c.code = code) (hml : c.maxLocals = 12) (hown : s.vm.findClass "com/example/punctual_proof/punctualproof/network/ComparisonHoldsPinLaw" = some m.cls) (e0 : s₁.heap = h0) (N0 : Fr n0 []) (Z0 : n0 ≤ h0.size) (P : Pins Z h0 w) (hlk : meth.locks = false) (hret : meth.sig.returnType = ret) :
    own_Done p e below (s₁.setTop (mkF m 54 #[.val (.int p1), .val (.long v), .second, .val (.long b0), .second, .val (.int p4), .val (.int (4 : Int32)), .val (.int i7), .val (.long b), .second, .unset, .unset] [])) (fun o U' => ∃ v L, o = .returned v ∧ own_Q0 n0 v U'.heap L ∧ FrameEnd s o U' L room_1.cells room_1.slots) := by
  refine own_step (W' := s₁.setTop (mkF m 56 #[.val (.int p1), .val (.long v), .second, .val (.long b0), .second, .val (.int p4), .val (.int (4 : Int32)), .val (.int i7), .val (.long b), .second, .unset, .unset] [(.int (4 : Int32))])) (fun _ k => XS.iload X0.here hx rfl (hb hby at_54) rfl k) ?_
  refine own_step (W' := s₁.setTop (mkF m 81 #[.val (.int p1), .val (.long v), .second, .val (.long b0), .second, .val (.int p4), .val (.int (4 : Int32)), .val (.int i7), .val (.long b), .second, .unset, .unset] [])) (fun _ k => XS.ifYes X0.here hx rfl (pc0 := 56) (pc' := 81) rfl (hb hby at_56) rfl (by decide) (by decide) (by decide) k) ?_
  refine own_step (W' := s₁.setTop (mkF m 83 #[.val (.int p1), .val (.long v), .second, .val (.long b0), .second, .val (.int p4), .val (.int (4 : Int32)), .val (.int i7), .val (.long b), .second, .unset, .unset] [(.int (4 : Int32))])) (fun _ k => XS.iload X0.here hx rfl (hb hby at_81) rfl k) ?_
  refine own_step (W' := s₁.setTop (mkF m 84 #[.val (.int p1), .val (.long v), .second, .val (.long b0), .second, .val (.int p4), .val (.int (4 : Int32)), .val (.int i7), .val (.long b), .second, .unset, .unset] [(.int (1 : Int32)), (.int (4 : Int32))])) (fun _ k => XS.iconst X0.here hx rfl (hb hby at_83) k) ?_
  refine own_step (W' := s₁.setTop (mkF m 109 #[.val (.int p1), .val (.long v), .second, .val (.long b0), .second, .val (.int p4), .val (.int (4 : Int32)), .val (.int i7), .val (.long b), .second, .unset, .unset] [])) (fun _ k => XS.icmpYes X0.here hx rfl (pc0 := 84) (pc' := 109) rfl (hb hby at_84) rfl (by decide) (by decide) (by decide) k) ?_
  refine own_step (W' := s₁.setTop (mkF m 111 #[.val (.int p1), .val (.long v), .second, .val (.long b0), .second, .val (.int p4), .val (.int (4 : Int32)), .val (.int i7), .val (.long b), .second, .unset, .unset] [(.int (4 : Int32))])) (fun _ k => XS.iload X0.here hx rfl (hb hby at_109) rfl k) ?_
  refine own_step (W' := s₁.setTop (mkF m 112 #[.val (.int p1), .val (.long v), .second, .val (.long b0), .second, .val (.int p4), .val (.int (4 : Int32)), .val (.int i7), .val (.long b), .second, .unset, .unset] [(.int (2 : Int32)), (.int (4 : Int32))])) (fun _ k => XS.iconst X0.here hx rfl (hb hby at_111) k) ?_
  refine own_step (W' := s₁.setTop (mkF m 137 #[.val (.int p1), .val (.long v), .second, .val (.long b0), .second, .val (.int p4), .val (.int (4 : Int32)), .val (.int i7), .val (.long b), .second, .unset, .unset] [])) (fun _ k => XS.icmpYes X0.here hx rfl (pc0 := 112) (pc' := 137) rfl (hb hby at_112) rfl (by decide) (by decide) (by decide) k) ?_
  refine own_step (W' := s₁.setTop (mkF m 139 #[.val (.int p1), .val (.long v), .second, .val (.long b0), .second, .val (.int p4), .val (.int (4 : Int32)), .val (.int i7), .val (.long b), .second, .unset, .unset] [(.int (4 : Int32))])) (fun _ k => XS.iload X0.here hx rfl (hb hby at_137) rfl k) ?_
  refine own_step (W' := s₁.setTop (mkF m 140 #[.val (.int p1), .val (.long v), .second, .val (.long b0), .second, .val (.int p4), .val (.int (4 : Int32)), .val (.int i7), .val (.long b), .second, .unset, .unset] [(.int (3 : Int32)), (.int (4 : Int32))])) (fun _ k => XS.iconst X0.here hx rfl (hb hby at_139) k) ?_
  refine own_step (W' := s₁.setTop (mkF m 165 #[.val (.int p1), .val (.long v), .second, .val (.long b0), .second, .val (.int p4), .val (.int (4 : Int32)), .val (.int i7), .val (.long b), .second, .unset, .unset] [])) (fun _ k => XS.icmpYes X0.here hx rfl (pc0 := 140) (pc' := 165) rfl (hb hby at_140) rfl (by decide) (by decide) (by decide) k) ?_
  obtain ⟨T1, X1, e1, st1⟩ := getS2 X0 hx hZ hown (host := "") (Or.inl (hw _ (List.mem_of_getElem? (i := 21) rfl))) Via.refl e0 (pin_S4 P) (g := (mkF m 165 #[.val (.int p1), .val (.long v), .second, .val (.long b0), .second, .val (.int p4), .val (.int (4 : Int32)), .val (.int i7), .val (.long b), .second, .unset, .unset] [])) rfl (hb hby at_165)
  refine own_step (W' := T1.setTop (mkF m 168 #[.val (.int p1), .val (.long v), .second, .val (.long b0), .second, .val (.int p4), .val (.int (4 : Int32)), .val (.int i7), .val (.long b), .second, .unset, .unset] [(.ref (w 4))])) (fun _ k => st1 _ k) ?_
  refine own_step (W' := T1.setTop (mkF m 170 #[.val (.int p1), .val (.long v), .second, .val (.long b0), .second, .val (.int p4), .val (.int (4 : Int32)), .val (.int i7), .val (.long b), .second, .val (.ref (w 4)), .unset] [])) (fun _ k => XS.astore X1.here hx rfl (hb hby at_168) rfl rfl (l' := #[.val (.int p1), .val (.long v), .second, .val (.long b0), .second, .val (.int p4), .val (.int (4 : Int32)), .val (.int i7), .val (.long b), .second, .val (.ref (w 4)), .unset]) rfl k) ?_
  refine own_step (W' := T1.setTop (mkF m 171 #[.val (.int p1), .val (.long v), .second, .val (.long b0), .second, .val (.int p4), .val (.int (4 : Int32)), .val (.int i7), .val (.long b), .second, .val (.ref (w 4)), .unset] [(.long v)])) (fun _ k => XS.lloadN X1.here hx rfl (hb hby at_170) rfl k) ?_
  refine own_step (W' := T1.setTop (mkF m 173 #[.val (.int p1), .val (.long v), .second, .val (.long b0), .second, .val (.int p4), .val (.int (4 : Int32)), .val (.int i7), .val (.long b), .second, .val (.ref (w 4)), .unset] [(.long b), (.long v)])) (fun _ k => XS.lload X1.here hx rfl (hb hby at_171) rfl k) ?_
  refine own_step (W' := T1.setTop (mkF m 174 #[.val (.int p1), .val (.long v), .second, .val (.long b0), .second, .val (.int p4), .val (.int (4 : Int32)), .val (.int i7), .val (.long b), .second, .val (.ref (w 4)), .unset] [(.int (lcmpW v b))])) (fun _ k => XS.lcmp X1.here hx rfl (hb hby at_173) rfl k) ?_
  rw [hl]
  refine own_step (W' := T1.setTop (mkF m 177 #[.val (.int p1), .val (.long v), .second, .val (.long b0), .second, .val (.int p4), .val (.int (4 : Int32)), .val (.int i7), .val (.long b), .second, .val (.ref (w 4)), .unset] [])) (fun _ k => XS.ifNo X1.here hx rfl (hb hby at_174) rfl (by decide) k) ?_
  refine own_step (W' := T1.setTop (mkF m 178 #[.val (.int p1), .val (.long v), .second, .val (.long b0), .second, .val (.int p4), .val (.int (4 : Int32)), .val (.int i7), .val (.long b), .second, .val (.ref (w 4)), .unset] [(.int (1 : Int32))])) (fun _ k => XS.iconst X1.here hx rfl (hb hby at_177) k) ?_
  refine own_step (W' := T1.setTop (mkF m 182 #[.val (.int p1), .val (.long v), .second, .val (.long b0), .second, .val (.int p4), .val (.int (4 : Int32)), .val (.int i7), .val (.long b), .second, .val (.ref (w 4)), .unset] [(.int (1 : Int32))])) (fun _ k => XS.goto X1.here hx rfl (pc0 := 178) (pc' := 182) rfl (hb hby at_178) (by decide) (by decide) k) ?_
  refine own_step (W' := T1.setTop (mkF m 184 #[.val (.int p1), .val (.long v), .second, .val (.long b0), .second, .val (.int p4), .val (.int (4 : Int32)), .val (.int i7), .val (.long b), .second, .val (.ref (w 4)), .val (.int (1 : Int32))] [])) (fun _ k => XS.istore X1.here hx rfl (hb hby at_182) rfl (l' := #[.val (.int p1), .val (.long v), .second, .val (.long b0), .second, .val (.int p4), .val (.int (4 : Int32)), .val (.int i7), .val (.long b), .second, .val (.ref (w 4)), .val (.int (1 : Int32))]) rfl k) ?_
  refine own_step (W' := T1.setTop (mkF m 186 #[.val (.int p1), .val (.long v), .second, .val (.long b0), .second, .val (.int p4), .val (.int (4 : Int32)), .val (.int i7), .val (.long b), .second, .val (.ref (w 4)), .val (.int (1 : Int32))] [(.ref (w 4))])) (fun _ k => XS.aload X1.here hx rfl (hb hby at_184) rfl rfl k) ?_
  refine own_step (W' := T1.setTop (mkF m 187 #[.val (.int p1), .val (.long v), .second, .val (.long b0), .second, .val (.int p4), .val (.int (4 : Int32)), .val (.int i7), .val (.long b), .second, .val (.ref (w 4)), .val (.int (1 : Int32))] [(.long v), (.ref (w 4))])) (fun _ k => XS.lloadN X1.here hx rfl (hb hby at_186) rfl k) ?_
  refine own_step (W' := T1.setTop (mkF m 189 #[.val (.int p1), .val (.long v), .second, .val (.long b0), .second, .val (.int p4), .val (.int (4 : Int32)), .val (.int i7), .val (.long b), .second, .val (.ref (w 4)), .val (.int (1 : Int32))] [(.long b), (.long v), (.ref (w 4))])) (fun _ k => XS.lload X1.here hx rfl (hb hby at_187) rfl k) ?_
  obtain ⟨cq2, kq2, q2a, q2b, q2c⟩ := isOf hZ e1 (pin_E4 P)
  obtain ⟨_, _, ⟨T2, L2, k2, n2⟩, -, X2, ⟨Lc2, hQ2, l2, y2, z2⟩, st2⟩ := X1.virtualBack hx (y := (⟨"com/example/punctual_proof/punctualproof/network/Comparison", "holds", "(JJ)Z"⟩ : MethodName)) (z := (⟨"com/example/punctual_proof/punctualproof/network/Comparison", "holds", "(JJ)Z"⟩ : MethodName)) hown (mvT hZ (hw _ (List.mem_of_getElem? (i := 4) rfl))) (mvT hZ (hw _ (List.mem_of_getElem? (i := 5) rfl))) (notFace_of_selects (args := #[]) (mvT hZ (hw _ (List.mem_of_getElem? (i := 7) rfl)))) (mvT hZ (hw _ (List.mem_of_getElem? (i := 7) rfl))) (mvT hZ (hw _ (List.mem_of_getElem? (i := 6) rfl))) (by decide) (backOf (W := 0) (rm1_w4_1 l Z a0 hw [] v b hl w h0 n0 Z0 P) hZ (hw _ (List.mem_of_getElem? (i := 8) rfl)) (hw _ (List.mem_of_getElem? (i := 2) rfl)) (by decide) (by decide)) q2a q2c (g := (mkF m 189 #[.val (.int p1), .val (.long v), .second, .val (.long b0), .second, .val (.int p4), .val (.int (4 : Int32)), .val (.int i7), .val (.long b), .second, .val (.ref (w 4)), .val (.int (1 : Int32))] [(.long b), (.long v), (.ref (w 4))])) rfl (by rw [hml]; rfl) (Steps.refl _) (argsL := [(.long v), (.long b)]) (rest := []) (lenOf pd_0 rfl) rfl (by show 2 * 0 + _ ≤ _; exact Nat.le_of_eq rfl) (hb hby at_189) (fun _ _ => ⟨rfl, e1, (by decide : 0 + 0 ≤ _), (by decide : 0 + 0 ≤ _)⟩)
  dsimp only [Pt.U, Pt.locs, Pt.cells, Pt.slots] at X2 l2 y2 z2 st2 hQ2
  subst l2 y2 z2
  obtain ⟨rfl, N2q, e2⟩ := hQ2
  have N2 := Fr.app N0 N2q
  refine own_step (W' := T2.setTop (mkF m 192 #[.val (.int p1), .val (.long v), .second, .val (.long b0), .second, .val (.int p4), .val (.int (4 : Int32)), .val (.int i7), .val (.long b), .second, .val (.ref (w 4)), .val (.int (1 : Int32))] [(.int (1 : Int32))])) (fun _ k => st2.trans k) ?_
  refine own_step (W' := T2.setTop (mkF m 194 #[.val (.int p1), .val (.long v), .second, .val (.long b0), .second, .val (.int p4), .val (.int (4 : Int32)), .val (.int i7), .val (.long b), .second, .val (.ref (w 4)), .val (.int (1 : Int32))] [(.int (1 : Int32)), (.int (1 : Int32))])) (fun _ k => XS.iload X2.here hx rfl (hb hby at_192) rfl k) ?_
  refine own_step (W' := T2.setTop (mkF m 197 #[.val (.int p1), .val (.long v), .second, .val (.long b0), .second, .val (.int p4), .val (.int (4 : Int32)), .val (.int i7), .val (.long b), .second, .val (.ref (w 4)), .val (.int (1 : Int32))] [])) (fun _ k => XS.icmpNo X2.here hx rfl (hb hby at_194) rfl (by decide) k) ?_
  refine own_step (W' := T2.setTop (mkF m 198 #[.val (.int p1), .val (.long v), .second, .val (.long b0), .second, .val (.int p4), .val (.int (4 : Int32)), .val (.int i7), .val (.long b), .second, .val (.ref (w 4)), .val (.int (1 : Int32))] [(.int (1 : Int32))])) (fun _ k => XS.iconst X2.here hx rfl (hb hby at_197) k) ?_
  refine own_step (W' := T2.setTop (mkF m 202 #[.val (.int p1), .val (.long v), .second, .val (.long b0), .second, .val (.int p4), .val (.int (4 : Int32)), .val (.int i7), .val (.long b), .second, .val (.ref (w 4)), .val (.int (1 : Int32))] [(.int (1 : Int32))])) (fun _ k => XS.goto X2.here hx rfl (pc0 := 198) (pc' := 202) rfl (hb hby at_198) (by decide) (by decide) k) ?_
  exact own_ret X2 hlk hret (v := (.int (1 : Int32))) (fun fs hr => retN X2 hx (t := .boolean) hret (by simp) (hb hby at_202) hr) ⟨rfl, N2⟩ (by decide) (by decide)
set_option maxRecDepth 65536 in
set_option maxHeartbeats 40000000 in
theorem rm0_0 (l : Launch) (Z : State) (a0 : Array Value) (hw : ∀ d ∈ tables_1, d.before a0 Z = true) (ws : List Jvm.Cond) (p1 : Int32) (v b0 : Int64) (p4 : Int32) (hm : (p4 &&& (3 : Int32)) = (0 : Int32)) (w : Nat → Addr) (h0 : Heap) (n0 : Nat) (Z0 : n0 ≤ h0.size) (P : Pins Z h0 w) :
    MetFree l x (head1 (Jvm.Cond.code x code maxLocals ret :: ws) room_1) (fun a U => a = #[(.int p1), (.long v), (.long b0), (.int p4)] ∧ Z.Warmed39 U.vm ∧ U.heap = h0) (fun _ _ _ _ _ => True) (fun _ U o U' => ∃ v L, o = .returned v ∧ own_Q0 n0 v U'.heap L ∧ FrameEnd U o U' L room_1.cells room_1.slots) := by
  refine MetFree.of_bodySF (plainFor_of_name pn_com_example_punctual_proof_punctualproof_network_ComparisonHoldsPinLaw) hisR ?_
  intro p e s m args below meth c s₁ Bd hml0 hP hK
  obtain ⟨rfl, hZ, hh⟩ := hP
  have hx := Bd.exec
  have hby := Bd.bytes
  have hml : c.maxLocals = 12 := hml0
  have hown : s.vm.findClass "com/example/punctual_proof/punctualproof/network/ComparisonHoldsPinLaw" = some m.cls := findClass_of_methodNamed Bd.named
  have hnm := (name_of_methodNamed Bd.named Bd.method).1
  have X0 : Stand p l e room_1 s m #[(.int p1), (.long v), (.long b0), (.int p4)] below meth c s₁ [] 0 0 := Stand.of_body Bd
  have e0 : s₁.heap = h0 := by rw [← hh, Bd.state]; rfl
  have N0 := Fr.nil n0
  refine own_enter (ef_0_IJJI m p1 v b0 p4) ?_
  refine own_step (W' := s₁.setTop (mkF m 1 #[.val (.int p1), .val (.long v), .second, .val (.long b0), .second, .val (.int p4), .unset, .unset, .unset, .unset, .unset, .unset] [(.int p1)])) (fun _ k => XS.iloadN X0.here hx rfl (hb hby at_0) rfl k) ?_
  refine own_step (W' := s₁.setTop (mkF m 3 #[.val (.int p1), .val (.long v), .second, .val (.long b0), .second, .val (.int p4), .unset, .unset, .unset, .unset, .unset, .unset] [(.int (2147483647 : Int32)), (.int p1)])) (fun _ k => X0.ldcInt hx hown (mvT hZ (hw _ (List.mem_of_getElem? (i := 0) rfl))) (g := (mkF m 1 #[.val (.int p1), .val (.long v), .second, .val (.long b0), .second, .val (.int p4), .unset, .unset, .unset, .unset, .unset, .unset] [(.int p1)])) rfl (hb hby at_1) _ k) ?_
  refine own_step (W' := s₁.setTop (mkF m 4 #[.val (.int p1), .val (.long v), .second, .val (.long b0), .second, .val (.int p4), .unset, .unset, .unset, .unset, .unset, .unset] [(.int (p1 &&& (2147483647 : Int32)))])) (fun _ k => XS.iand X0.here hx rfl (hb hby at_3) rfl k) ?_
  refine own_step (W' := s₁.setTop (mkF m 5 #[.val (.int p1), .val (.long v), .second, .val (.long b0), .second, .val (.int p4), .unset, .unset, .unset, .unset, .unset, .unset] [(.int (5 : Int32)), (.int (p1 &&& (2147483647 : Int32)))])) (fun _ k => XS.iconst X0.here hx rfl (hb hby at_4) k) ?_
  refine own_step (W' := s₁.setTop (mkF m 6 #[.val (.int p1), .val (.long v), .second, .val (.long b0), .second, .val (.int p4), .unset, .unset, .unset, .unset, .unset, .unset] [(.int ((p1 &&& (2147483647 : Int32)) % (5 : Int32)))])) (fun _ k => iremM X0 hx rfl (hb hby at_5) rfl (by decide) k) ?_
  refine own_step (W' := s₁.setTop (mkF m 8 #[.val (.int p1), .val (.long v), .second, .val (.long b0), .second, .val (.int p4), .val (.int ((p1 &&& (2147483647 : Int32)) % (5 : Int32))), .unset, .unset, .unset, .unset, .unset] [])) (fun _ k => XS.istore X0.here hx rfl (hb hby at_6) rfl (l' := #[.val (.int p1), .val (.long v), .second, .val (.long b0), .second, .val (.int p4), .val (.int ((p1 &&& (2147483647 : Int32)) % (5 : Int32))), .unset, .unset, .unset, .unset, .unset]) rfl k) ?_
  refine own_step (W' := s₁.setTop (mkF m 10 #[.val (.int p1), .val (.long v), .second, .val (.long b0), .second, .val (.int p4), .val (.int ((p1 &&& (2147483647 : Int32)) % (5 : Int32))), .unset, .unset, .unset, .unset, .unset] [(.int p4)])) (fun _ k => XS.iload X0.here hx rfl (hb hby at_8) rfl k) ?_
  refine own_step (W' := s₁.setTop (mkF m 11 #[.val (.int p1), .val (.long v), .second, .val (.long b0), .second, .val (.int p4), .val (.int ((p1 &&& (2147483647 : Int32)) % (5 : Int32))), .unset, .unset, .unset, .unset, .unset] [(.int (3 : Int32)), (.int p4)])) (fun _ k => XS.iconst X0.here hx rfl (hb hby at_10) k) ?_
  refine own_step (W' := s₁.setTop (mkF m 12 #[.val (.int p1), .val (.long v), .second, .val (.long b0), .second, .val (.int p4), .val (.int ((p1 &&& (2147483647 : Int32)) % (5 : Int32))), .unset, .unset, .unset, .unset, .unset] [(.int (p4 &&& (3 : Int32)))])) (fun _ k => XS.iand X0.here hx rfl (hb hby at_11) rfl k) ?_
  rw [hm]
  refine own_step (W' := s₁.setTop (mkF m 14 #[.val (.int p1), .val (.long v), .second, .val (.long b0), .second, .val (.int p4), .val (.int ((p1 &&& (2147483647 : Int32)) % (5 : Int32))), .val (.int (0 : Int32)), .unset, .unset, .unset, .unset] [])) (fun _ k => XS.istore X0.here hx rfl (hb hby at_12) rfl (l' := #[.val (.int p1), .val (.long v), .second, .val (.long b0), .second, .val (.int p4), .val (.int ((p1 &&& (2147483647 : Int32)) % (5 : Int32))), .val (.int (0 : Int32)), .unset, .unset, .unset, .unset]) rfl k) ?_
  refine own_step (W' := s₁.setTop (mkF m 15 #[.val (.int p1), .val (.long v), .second, .val (.long b0), .second, .val (.int p4), .val (.int ((p1 &&& (2147483647 : Int32)) % (5 : Int32))), .val (.int (0 : Int32)), .unset, .unset, .unset, .unset] [(.long b0)])) (fun _ k => XS.lloadN X0.here hx rfl (hb hby at_14) rfl k) ?_
  refine own_step (W' := s₁.setTop (mkF m 17 #[.val (.int p1), .val (.long v), .second, .val (.long b0), .second, .val (.int p4), .val (.int ((p1 &&& (2147483647 : Int32)) % (5 : Int32))), .val (.int (0 : Int32)), .val (.long b0), .second, .unset, .unset] [])) (fun _ k => XS.lstore X0.here hx rfl (hb hby at_15) rfl (l' := #[.val (.int p1), .val (.long v), .second, .val (.long b0), .second, .val (.int p4), .val (.int ((p1 &&& (2147483647 : Int32)) % (5 : Int32))), .val (.int (0 : Int32)), .val (.long b0), .second, .unset, .unset]) rfl k) ?_
  refine own_step (W' := s₁.setTop (mkF m 19 #[.val (.int p1), .val (.long v), .second, .val (.long b0), .second, .val (.int p4), .val (.int ((p1 &&& (2147483647 : Int32)) % (5 : Int32))), .val (.int (0 : Int32)), .val (.long b0), .second, .unset, .unset] [(.int (0 : Int32))])) (fun _ k => XS.iload X0.here hx rfl (hb hby at_17) rfl k) ?_
  refine own_step (W' := s₁.setTop (mkF m 20 #[.val (.int p1), .val (.long v), .second, .val (.long b0), .second, .val (.int p4), .val (.int ((p1 &&& (2147483647 : Int32)) % (5 : Int32))), .val (.int (0 : Int32)), .val (.long b0), .second, .unset, .unset] [(.int (1 : Int32)), (.int (0 : Int32))])) (fun _ k => XS.iconst X0.here hx rfl (hb hby at_19) k) ?_
  refine own_step (W' := s₁.setTop (mkF m 29 #[.val (.int p1), .val (.long v), .second, .val (.long b0), .second, .val (.int p4), .val (.int ((p1 &&& (2147483647 : Int32)) % (5 : Int32))), .val (.int (0 : Int32)), .val (.long b0), .second, .unset, .unset] [])) (fun _ k => XS.icmpYes X0.here hx rfl (pc0 := 20) (pc' := 29) rfl (hb hby at_20) rfl (by decide) (by decide) (by decide) k) ?_
  refine own_step (W' := s₁.setTop (mkF m 31 #[.val (.int p1), .val (.long v), .second, .val (.long b0), .second, .val (.int p4), .val (.int ((p1 &&& (2147483647 : Int32)) % (5 : Int32))), .val (.int (0 : Int32)), .val (.long b0), .second, .unset, .unset] [(.int (0 : Int32))])) (fun _ k => XS.iload X0.here hx rfl (hb hby at_29) rfl k) ?_
  refine own_step (W' := s₁.setTop (mkF m 32 #[.val (.int p1), .val (.long v), .second, .val (.long b0), .second, .val (.int p4), .val (.int ((p1 &&& (2147483647 : Int32)) % (5 : Int32))), .val (.int (0 : Int32)), .val (.long b0), .second, .unset, .unset] [(.int (2 : Int32)), (.int (0 : Int32))])) (fun _ k => XS.iconst X0.here hx rfl (hb hby at_31) k) ?_
  refine own_step (W' := s₁.setTop (mkF m 43 #[.val (.int p1), .val (.long v), .second, .val (.long b0), .second, .val (.int p4), .val (.int ((p1 &&& (2147483647 : Int32)) % (5 : Int32))), .val (.int (0 : Int32)), .val (.long b0), .second, .unset, .unset] [])) (fun _ k => XS.icmpYes X0.here hx rfl (pc0 := 32) (pc' := 43) rfl (hb hby at_32) rfl (by decide) (by decide) (by decide) k) ?_
  refine own_step (W' := s₁.setTop (mkF m 45 #[.val (.int p1), .val (.long v), .second, .val (.long b0), .second, .val (.int p4), .val (.int ((p1 &&& (2147483647 : Int32)) % (5 : Int32))), .val (.int (0 : Int32)), .val (.long b0), .second, .unset, .unset] [(.int (0 : Int32))])) (fun _ k => XS.iload X0.here hx rfl (hb hby at_43) rfl k) ?_
  refine own_step (W' := s₁.setTop (mkF m 46 #[.val (.int p1), .val (.long v), .second, .val (.long b0), .second, .val (.int p4), .val (.int ((p1 &&& (2147483647 : Int32)) % (5 : Int32))), .val (.int (0 : Int32)), .val (.long b0), .second, .unset, .unset] [(.int (3 : Int32)), (.int (0 : Int32))])) (fun _ k => XS.iconst X0.here hx rfl (hb hby at_45) k) ?_
  refine own_step (W' := s₁.setTop (mkF m 54 #[.val (.int p1), .val (.long v), .second, .val (.long b0), .second, .val (.int p4), .val (.int ((p1 &&& (2147483647 : Int32)) % (5 : Int32))), .val (.int (0 : Int32)), .val (.long b0), .second, .unset, .unset] [])) (fun _ k => XS.icmpYes X0.here hx rfl (pc0 := 46) (pc' := 54) rfl (hb hby at_46) rfl (by decide) (by decide) (by decide) k) ?_
  rcases own_m5 p1 with hk | hk | hk | hk | hk <;> rcases own_lcmp v b0 with hl | hl | hl <;> rw [hk]
  · exact own_tail_0_m p1 p4 (0 : Int32) v b0 b0 hl X0 hx hZ hw hby hml hown e0 N0 Z0 P Bd.notSynchronized Bd.returns
  · exact own_tail_0_0 p1 p4 (0 : Int32) v b0 b0 hl X0 hx hZ hw hby hml hown e0 N0 Z0 P Bd.notSynchronized Bd.returns
  · exact own_tail_0_1 p1 p4 (0 : Int32) v b0 b0 hl X0 hx hZ hw hby hml hown e0 N0 Z0 P Bd.notSynchronized Bd.returns
  · exact own_tail_1_m p1 p4 (0 : Int32) v b0 b0 hl X0 hx hZ hw hby hml hown e0 N0 Z0 P Bd.notSynchronized Bd.returns
  · exact own_tail_1_0 p1 p4 (0 : Int32) v b0 b0 hl X0 hx hZ hw hby hml hown e0 N0 Z0 P Bd.notSynchronized Bd.returns
  · exact own_tail_1_1 p1 p4 (0 : Int32) v b0 b0 hl X0 hx hZ hw hby hml hown e0 N0 Z0 P Bd.notSynchronized Bd.returns
  · exact own_tail_2_m p1 p4 (0 : Int32) v b0 b0 hl X0 hx hZ hw hby hml hown e0 N0 Z0 P Bd.notSynchronized Bd.returns
  · exact own_tail_2_0 p1 p4 (0 : Int32) v b0 b0 hl X0 hx hZ hw hby hml hown e0 N0 Z0 P Bd.notSynchronized Bd.returns
  · exact own_tail_2_1 p1 p4 (0 : Int32) v b0 b0 hl X0 hx hZ hw hby hml hown e0 N0 Z0 P Bd.notSynchronized Bd.returns
  · exact own_tail_3_m p1 p4 (0 : Int32) v b0 b0 hl X0 hx hZ hw hby hml hown e0 N0 Z0 P Bd.notSynchronized Bd.returns
  · exact own_tail_3_0 p1 p4 (0 : Int32) v b0 b0 hl X0 hx hZ hw hby hml hown e0 N0 Z0 P Bd.notSynchronized Bd.returns
  · exact own_tail_3_1 p1 p4 (0 : Int32) v b0 b0 hl X0 hx hZ hw hby hml hown e0 N0 Z0 P Bd.notSynchronized Bd.returns
  · exact own_tail_4_m p1 p4 (0 : Int32) v b0 b0 hl X0 hx hZ hw hby hml hown e0 N0 Z0 P Bd.notSynchronized Bd.returns
  · exact own_tail_4_0 p1 p4 (0 : Int32) v b0 b0 hl X0 hx hZ hw hby hml hown e0 N0 Z0 P Bd.notSynchronized Bd.returns
  · exact own_tail_4_1 p1 p4 (0 : Int32) v b0 b0 hl X0 hx hZ hw hby hml hown e0 N0 Z0 P Bd.notSynchronized Bd.returns
set_option maxRecDepth 65536 in
set_option maxHeartbeats 40000000 in
theorem rm0_1 (l : Launch) (Z : State) (a0 : Array Value) (hw : ∀ d ∈ tables_1, d.before a0 Z = true) (ws : List Jvm.Cond) (p1 : Int32) (v b0 : Int64) (p4 : Int32) (hm : (p4 &&& (3 : Int32)) = (1 : Int32)) (w : Nat → Addr) (h0 : Heap) (n0 : Nat) (Z0 : n0 ≤ h0.size) (P : Pins Z h0 w) :
    MetFree l x (head1 (Jvm.Cond.code x code maxLocals ret :: ws) room_1) (fun a U => a = #[(.int p1), (.long v), (.long b0), (.int p4)] ∧ Z.Warmed39 U.vm ∧ U.heap = h0) (fun _ _ _ _ _ => True) (fun _ U o U' => ∃ v L, o = .returned v ∧ own_Q0 n0 v U'.heap L ∧ FrameEnd U o U' L room_1.cells room_1.slots) := by
  refine MetFree.of_bodySF (plainFor_of_name pn_com_example_punctual_proof_punctualproof_network_ComparisonHoldsPinLaw) hisR ?_
  intro p e s m args below meth c s₁ Bd hml0 hP hK
  obtain ⟨rfl, hZ, hh⟩ := hP
  have hx := Bd.exec
  have hby := Bd.bytes
  have hml : c.maxLocals = 12 := hml0
  have hown : s.vm.findClass "com/example/punctual_proof/punctualproof/network/ComparisonHoldsPinLaw" = some m.cls := findClass_of_methodNamed Bd.named
  have hnm := (name_of_methodNamed Bd.named Bd.method).1
  have X0 : Stand p l e room_1 s m #[(.int p1), (.long v), (.long b0), (.int p4)] below meth c s₁ [] 0 0 := Stand.of_body Bd
  have e0 : s₁.heap = h0 := by rw [← hh, Bd.state]; rfl
  have N0 := Fr.nil n0
  refine own_enter (ef_0_IJJI m p1 v b0 p4) ?_
  refine own_step (W' := s₁.setTop (mkF m 1 #[.val (.int p1), .val (.long v), .second, .val (.long b0), .second, .val (.int p4), .unset, .unset, .unset, .unset, .unset, .unset] [(.int p1)])) (fun _ k => XS.iloadN X0.here hx rfl (hb hby at_0) rfl k) ?_
  refine own_step (W' := s₁.setTop (mkF m 3 #[.val (.int p1), .val (.long v), .second, .val (.long b0), .second, .val (.int p4), .unset, .unset, .unset, .unset, .unset, .unset] [(.int (2147483647 : Int32)), (.int p1)])) (fun _ k => X0.ldcInt hx hown (mvT hZ (hw _ (List.mem_of_getElem? (i := 0) rfl))) (g := (mkF m 1 #[.val (.int p1), .val (.long v), .second, .val (.long b0), .second, .val (.int p4), .unset, .unset, .unset, .unset, .unset, .unset] [(.int p1)])) rfl (hb hby at_1) _ k) ?_
  refine own_step (W' := s₁.setTop (mkF m 4 #[.val (.int p1), .val (.long v), .second, .val (.long b0), .second, .val (.int p4), .unset, .unset, .unset, .unset, .unset, .unset] [(.int (p1 &&& (2147483647 : Int32)))])) (fun _ k => XS.iand X0.here hx rfl (hb hby at_3) rfl k) ?_
  refine own_step (W' := s₁.setTop (mkF m 5 #[.val (.int p1), .val (.long v), .second, .val (.long b0), .second, .val (.int p4), .unset, .unset, .unset, .unset, .unset, .unset] [(.int (5 : Int32)), (.int (p1 &&& (2147483647 : Int32)))])) (fun _ k => XS.iconst X0.here hx rfl (hb hby at_4) k) ?_
  refine own_step (W' := s₁.setTop (mkF m 6 #[.val (.int p1), .val (.long v), .second, .val (.long b0), .second, .val (.int p4), .unset, .unset, .unset, .unset, .unset, .unset] [(.int ((p1 &&& (2147483647 : Int32)) % (5 : Int32)))])) (fun _ k => iremM X0 hx rfl (hb hby at_5) rfl (by decide) k) ?_
  refine own_step (W' := s₁.setTop (mkF m 8 #[.val (.int p1), .val (.long v), .second, .val (.long b0), .second, .val (.int p4), .val (.int ((p1 &&& (2147483647 : Int32)) % (5 : Int32))), .unset, .unset, .unset, .unset, .unset] [])) (fun _ k => XS.istore X0.here hx rfl (hb hby at_6) rfl (l' := #[.val (.int p1), .val (.long v), .second, .val (.long b0), .second, .val (.int p4), .val (.int ((p1 &&& (2147483647 : Int32)) % (5 : Int32))), .unset, .unset, .unset, .unset, .unset]) rfl k) ?_
  refine own_step (W' := s₁.setTop (mkF m 10 #[.val (.int p1), .val (.long v), .second, .val (.long b0), .second, .val (.int p4), .val (.int ((p1 &&& (2147483647 : Int32)) % (5 : Int32))), .unset, .unset, .unset, .unset, .unset] [(.int p4)])) (fun _ k => XS.iload X0.here hx rfl (hb hby at_8) rfl k) ?_
  refine own_step (W' := s₁.setTop (mkF m 11 #[.val (.int p1), .val (.long v), .second, .val (.long b0), .second, .val (.int p4), .val (.int ((p1 &&& (2147483647 : Int32)) % (5 : Int32))), .unset, .unset, .unset, .unset, .unset] [(.int (3 : Int32)), (.int p4)])) (fun _ k => XS.iconst X0.here hx rfl (hb hby at_10) k) ?_
  refine own_step (W' := s₁.setTop (mkF m 12 #[.val (.int p1), .val (.long v), .second, .val (.long b0), .second, .val (.int p4), .val (.int ((p1 &&& (2147483647 : Int32)) % (5 : Int32))), .unset, .unset, .unset, .unset, .unset] [(.int (p4 &&& (3 : Int32)))])) (fun _ k => XS.iand X0.here hx rfl (hb hby at_11) rfl k) ?_
  rw [hm]
  refine own_step (W' := s₁.setTop (mkF m 14 #[.val (.int p1), .val (.long v), .second, .val (.long b0), .second, .val (.int p4), .val (.int ((p1 &&& (2147483647 : Int32)) % (5 : Int32))), .val (.int (1 : Int32)), .unset, .unset, .unset, .unset] [])) (fun _ k => XS.istore X0.here hx rfl (hb hby at_12) rfl (l' := #[.val (.int p1), .val (.long v), .second, .val (.long b0), .second, .val (.int p4), .val (.int ((p1 &&& (2147483647 : Int32)) % (5 : Int32))), .val (.int (1 : Int32)), .unset, .unset, .unset, .unset]) rfl k) ?_
  refine own_step (W' := s₁.setTop (mkF m 15 #[.val (.int p1), .val (.long v), .second, .val (.long b0), .second, .val (.int p4), .val (.int ((p1 &&& (2147483647 : Int32)) % (5 : Int32))), .val (.int (1 : Int32)), .unset, .unset, .unset, .unset] [(.long b0)])) (fun _ k => XS.lloadN X0.here hx rfl (hb hby at_14) rfl k) ?_
  refine own_step (W' := s₁.setTop (mkF m 17 #[.val (.int p1), .val (.long v), .second, .val (.long b0), .second, .val (.int p4), .val (.int ((p1 &&& (2147483647 : Int32)) % (5 : Int32))), .val (.int (1 : Int32)), .val (.long b0), .second, .unset, .unset] [])) (fun _ k => XS.lstore X0.here hx rfl (hb hby at_15) rfl (l' := #[.val (.int p1), .val (.long v), .second, .val (.long b0), .second, .val (.int p4), .val (.int ((p1 &&& (2147483647 : Int32)) % (5 : Int32))), .val (.int (1 : Int32)), .val (.long b0), .second, .unset, .unset]) rfl k) ?_
  refine own_step (W' := s₁.setTop (mkF m 19 #[.val (.int p1), .val (.long v), .second, .val (.long b0), .second, .val (.int p4), .val (.int ((p1 &&& (2147483647 : Int32)) % (5 : Int32))), .val (.int (1 : Int32)), .val (.long b0), .second, .unset, .unset] [(.int (1 : Int32))])) (fun _ k => XS.iload X0.here hx rfl (hb hby at_17) rfl k) ?_
  refine own_step (W' := s₁.setTop (mkF m 20 #[.val (.int p1), .val (.long v), .second, .val (.long b0), .second, .val (.int p4), .val (.int ((p1 &&& (2147483647 : Int32)) % (5 : Int32))), .val (.int (1 : Int32)), .val (.long b0), .second, .unset, .unset] [(.int (1 : Int32)), (.int (1 : Int32))])) (fun _ k => XS.iconst X0.here hx rfl (hb hby at_19) k) ?_
  refine own_step (W' := s₁.setTop (mkF m 23 #[.val (.int p1), .val (.long v), .second, .val (.long b0), .second, .val (.int p4), .val (.int ((p1 &&& (2147483647 : Int32)) % (5 : Int32))), .val (.int (1 : Int32)), .val (.long b0), .second, .unset, .unset] [])) (fun _ k => XS.icmpNo X0.here hx rfl (hb hby at_20) rfl (by decide) k) ?_
  refine own_step (W' := s₁.setTop (mkF m 24 #[.val (.int p1), .val (.long v), .second, .val (.long b0), .second, .val (.int p4), .val (.int ((p1 &&& (2147483647 : Int32)) % (5 : Int32))), .val (.int (1 : Int32)), .val (.long b0), .second, .unset, .unset] [(.long v)])) (fun _ k => XS.lloadN X0.here hx rfl (hb hby at_23) rfl k) ?_
  refine own_step (W' := s₁.setTop (mkF m 26 #[.val (.int p1), .val (.long v), .second, .val (.long b0), .second, .val (.int p4), .val (.int ((p1 &&& (2147483647 : Int32)) % (5 : Int32))), .val (.int (1 : Int32)), .val (.long v), .second, .unset, .unset] [])) (fun _ k => XS.lstore X0.here hx rfl (hb hby at_24) rfl (l' := #[.val (.int p1), .val (.long v), .second, .val (.long b0), .second, .val (.int p4), .val (.int ((p1 &&& (2147483647 : Int32)) % (5 : Int32))), .val (.int (1 : Int32)), .val (.long v), .second, .unset, .unset]) rfl k) ?_
  refine own_step (W' := s₁.setTop (mkF m 54 #[.val (.int p1), .val (.long v), .second, .val (.long b0), .second, .val (.int p4), .val (.int ((p1 &&& (2147483647 : Int32)) % (5 : Int32))), .val (.int (1 : Int32)), .val (.long v), .second, .unset, .unset] [])) (fun _ k => XS.goto X0.here hx rfl (pc0 := 26) (pc' := 54) rfl (hb hby at_26) (by decide) (by decide) k) ?_
  rcases own_m5 p1 with hk | hk | hk | hk | hk <;> rcases own_lcmp v v with hl | hl | hl <;> rw [hk]
  · exact own_tail_0_m p1 p4 (1 : Int32) v b0 v hl X0 hx hZ hw hby hml hown e0 N0 Z0 P Bd.notSynchronized Bd.returns
  · exact own_tail_0_0 p1 p4 (1 : Int32) v b0 v hl X0 hx hZ hw hby hml hown e0 N0 Z0 P Bd.notSynchronized Bd.returns
  · exact own_tail_0_1 p1 p4 (1 : Int32) v b0 v hl X0 hx hZ hw hby hml hown e0 N0 Z0 P Bd.notSynchronized Bd.returns
  · exact own_tail_1_m p1 p4 (1 : Int32) v b0 v hl X0 hx hZ hw hby hml hown e0 N0 Z0 P Bd.notSynchronized Bd.returns
  · exact own_tail_1_0 p1 p4 (1 : Int32) v b0 v hl X0 hx hZ hw hby hml hown e0 N0 Z0 P Bd.notSynchronized Bd.returns
  · exact own_tail_1_1 p1 p4 (1 : Int32) v b0 v hl X0 hx hZ hw hby hml hown e0 N0 Z0 P Bd.notSynchronized Bd.returns
  · exact own_tail_2_m p1 p4 (1 : Int32) v b0 v hl X0 hx hZ hw hby hml hown e0 N0 Z0 P Bd.notSynchronized Bd.returns
  · exact own_tail_2_0 p1 p4 (1 : Int32) v b0 v hl X0 hx hZ hw hby hml hown e0 N0 Z0 P Bd.notSynchronized Bd.returns
  · exact own_tail_2_1 p1 p4 (1 : Int32) v b0 v hl X0 hx hZ hw hby hml hown e0 N0 Z0 P Bd.notSynchronized Bd.returns
  · exact own_tail_3_m p1 p4 (1 : Int32) v b0 v hl X0 hx hZ hw hby hml hown e0 N0 Z0 P Bd.notSynchronized Bd.returns
  · exact own_tail_3_0 p1 p4 (1 : Int32) v b0 v hl X0 hx hZ hw hby hml hown e0 N0 Z0 P Bd.notSynchronized Bd.returns
  · exact own_tail_3_1 p1 p4 (1 : Int32) v b0 v hl X0 hx hZ hw hby hml hown e0 N0 Z0 P Bd.notSynchronized Bd.returns
  · exact own_tail_4_m p1 p4 (1 : Int32) v b0 v hl X0 hx hZ hw hby hml hown e0 N0 Z0 P Bd.notSynchronized Bd.returns
  · exact own_tail_4_0 p1 p4 (1 : Int32) v b0 v hl X0 hx hZ hw hby hml hown e0 N0 Z0 P Bd.notSynchronized Bd.returns
  · exact own_tail_4_1 p1 p4 (1 : Int32) v b0 v hl X0 hx hZ hw hby hml hown e0 N0 Z0 P Bd.notSynchronized Bd.returns
set_option maxRecDepth 65536 in
set_option maxHeartbeats 40000000 in
theorem rm0_2 (l : Launch) (Z : State) (a0 : Array Value) (hw : ∀ d ∈ tables_1, d.before a0 Z = true) (ws : List Jvm.Cond) (p1 : Int32) (v b0 : Int64) (p4 : Int32) (hm : (p4 &&& (3 : Int32)) = (2 : Int32)) (w : Nat → Addr) (h0 : Heap) (n0 : Nat) (Z0 : n0 ≤ h0.size) (P : Pins Z h0 w) :
    MetFree l x (head1 (Jvm.Cond.code x code maxLocals ret :: ws) room_1) (fun a U => a = #[(.int p1), (.long v), (.long b0), (.int p4)] ∧ Z.Warmed39 U.vm ∧ U.heap = h0) (fun _ _ _ _ _ => True) (fun _ U o U' => ∃ v L, o = .returned v ∧ own_Q0 n0 v U'.heap L ∧ FrameEnd U o U' L room_1.cells room_1.slots) := by
  refine MetFree.of_bodySF (plainFor_of_name pn_com_example_punctual_proof_punctualproof_network_ComparisonHoldsPinLaw) hisR ?_
  intro p e s m args below meth c s₁ Bd hml0 hP hK
  obtain ⟨rfl, hZ, hh⟩ := hP
  have hx := Bd.exec
  have hby := Bd.bytes
  have hml : c.maxLocals = 12 := hml0
  have hown : s.vm.findClass "com/example/punctual_proof/punctualproof/network/ComparisonHoldsPinLaw" = some m.cls := findClass_of_methodNamed Bd.named
  have hnm := (name_of_methodNamed Bd.named Bd.method).1
  have X0 : Stand p l e room_1 s m #[(.int p1), (.long v), (.long b0), (.int p4)] below meth c s₁ [] 0 0 := Stand.of_body Bd
  have e0 : s₁.heap = h0 := by rw [← hh, Bd.state]; rfl
  have N0 := Fr.nil n0
  refine own_enter (ef_0_IJJI m p1 v b0 p4) ?_
  refine own_step (W' := s₁.setTop (mkF m 1 #[.val (.int p1), .val (.long v), .second, .val (.long b0), .second, .val (.int p4), .unset, .unset, .unset, .unset, .unset, .unset] [(.int p1)])) (fun _ k => XS.iloadN X0.here hx rfl (hb hby at_0) rfl k) ?_
  refine own_step (W' := s₁.setTop (mkF m 3 #[.val (.int p1), .val (.long v), .second, .val (.long b0), .second, .val (.int p4), .unset, .unset, .unset, .unset, .unset, .unset] [(.int (2147483647 : Int32)), (.int p1)])) (fun _ k => X0.ldcInt hx hown (mvT hZ (hw _ (List.mem_of_getElem? (i := 0) rfl))) (g := (mkF m 1 #[.val (.int p1), .val (.long v), .second, .val (.long b0), .second, .val (.int p4), .unset, .unset, .unset, .unset, .unset, .unset] [(.int p1)])) rfl (hb hby at_1) _ k) ?_
  refine own_step (W' := s₁.setTop (mkF m 4 #[.val (.int p1), .val (.long v), .second, .val (.long b0), .second, .val (.int p4), .unset, .unset, .unset, .unset, .unset, .unset] [(.int (p1 &&& (2147483647 : Int32)))])) (fun _ k => XS.iand X0.here hx rfl (hb hby at_3) rfl k) ?_
  refine own_step (W' := s₁.setTop (mkF m 5 #[.val (.int p1), .val (.long v), .second, .val (.long b0), .second, .val (.int p4), .unset, .unset, .unset, .unset, .unset, .unset] [(.int (5 : Int32)), (.int (p1 &&& (2147483647 : Int32)))])) (fun _ k => XS.iconst X0.here hx rfl (hb hby at_4) k) ?_
  refine own_step (W' := s₁.setTop (mkF m 6 #[.val (.int p1), .val (.long v), .second, .val (.long b0), .second, .val (.int p4), .unset, .unset, .unset, .unset, .unset, .unset] [(.int ((p1 &&& (2147483647 : Int32)) % (5 : Int32)))])) (fun _ k => iremM X0 hx rfl (hb hby at_5) rfl (by decide) k) ?_
  refine own_step (W' := s₁.setTop (mkF m 8 #[.val (.int p1), .val (.long v), .second, .val (.long b0), .second, .val (.int p4), .val (.int ((p1 &&& (2147483647 : Int32)) % (5 : Int32))), .unset, .unset, .unset, .unset, .unset] [])) (fun _ k => XS.istore X0.here hx rfl (hb hby at_6) rfl (l' := #[.val (.int p1), .val (.long v), .second, .val (.long b0), .second, .val (.int p4), .val (.int ((p1 &&& (2147483647 : Int32)) % (5 : Int32))), .unset, .unset, .unset, .unset, .unset]) rfl k) ?_
  refine own_step (W' := s₁.setTop (mkF m 10 #[.val (.int p1), .val (.long v), .second, .val (.long b0), .second, .val (.int p4), .val (.int ((p1 &&& (2147483647 : Int32)) % (5 : Int32))), .unset, .unset, .unset, .unset, .unset] [(.int p4)])) (fun _ k => XS.iload X0.here hx rfl (hb hby at_8) rfl k) ?_
  refine own_step (W' := s₁.setTop (mkF m 11 #[.val (.int p1), .val (.long v), .second, .val (.long b0), .second, .val (.int p4), .val (.int ((p1 &&& (2147483647 : Int32)) % (5 : Int32))), .unset, .unset, .unset, .unset, .unset] [(.int (3 : Int32)), (.int p4)])) (fun _ k => XS.iconst X0.here hx rfl (hb hby at_10) k) ?_
  refine own_step (W' := s₁.setTop (mkF m 12 #[.val (.int p1), .val (.long v), .second, .val (.long b0), .second, .val (.int p4), .val (.int ((p1 &&& (2147483647 : Int32)) % (5 : Int32))), .unset, .unset, .unset, .unset, .unset] [(.int (p4 &&& (3 : Int32)))])) (fun _ k => XS.iand X0.here hx rfl (hb hby at_11) rfl k) ?_
  rw [hm]
  refine own_step (W' := s₁.setTop (mkF m 14 #[.val (.int p1), .val (.long v), .second, .val (.long b0), .second, .val (.int p4), .val (.int ((p1 &&& (2147483647 : Int32)) % (5 : Int32))), .val (.int (2 : Int32)), .unset, .unset, .unset, .unset] [])) (fun _ k => XS.istore X0.here hx rfl (hb hby at_12) rfl (l' := #[.val (.int p1), .val (.long v), .second, .val (.long b0), .second, .val (.int p4), .val (.int ((p1 &&& (2147483647 : Int32)) % (5 : Int32))), .val (.int (2 : Int32)), .unset, .unset, .unset, .unset]) rfl k) ?_
  refine own_step (W' := s₁.setTop (mkF m 15 #[.val (.int p1), .val (.long v), .second, .val (.long b0), .second, .val (.int p4), .val (.int ((p1 &&& (2147483647 : Int32)) % (5 : Int32))), .val (.int (2 : Int32)), .unset, .unset, .unset, .unset] [(.long b0)])) (fun _ k => XS.lloadN X0.here hx rfl (hb hby at_14) rfl k) ?_
  refine own_step (W' := s₁.setTop (mkF m 17 #[.val (.int p1), .val (.long v), .second, .val (.long b0), .second, .val (.int p4), .val (.int ((p1 &&& (2147483647 : Int32)) % (5 : Int32))), .val (.int (2 : Int32)), .val (.long b0), .second, .unset, .unset] [])) (fun _ k => XS.lstore X0.here hx rfl (hb hby at_15) rfl (l' := #[.val (.int p1), .val (.long v), .second, .val (.long b0), .second, .val (.int p4), .val (.int ((p1 &&& (2147483647 : Int32)) % (5 : Int32))), .val (.int (2 : Int32)), .val (.long b0), .second, .unset, .unset]) rfl k) ?_
  refine own_step (W' := s₁.setTop (mkF m 19 #[.val (.int p1), .val (.long v), .second, .val (.long b0), .second, .val (.int p4), .val (.int ((p1 &&& (2147483647 : Int32)) % (5 : Int32))), .val (.int (2 : Int32)), .val (.long b0), .second, .unset, .unset] [(.int (2 : Int32))])) (fun _ k => XS.iload X0.here hx rfl (hb hby at_17) rfl k) ?_
  refine own_step (W' := s₁.setTop (mkF m 20 #[.val (.int p1), .val (.long v), .second, .val (.long b0), .second, .val (.int p4), .val (.int ((p1 &&& (2147483647 : Int32)) % (5 : Int32))), .val (.int (2 : Int32)), .val (.long b0), .second, .unset, .unset] [(.int (1 : Int32)), (.int (2 : Int32))])) (fun _ k => XS.iconst X0.here hx rfl (hb hby at_19) k) ?_
  refine own_step (W' := s₁.setTop (mkF m 29 #[.val (.int p1), .val (.long v), .second, .val (.long b0), .second, .val (.int p4), .val (.int ((p1 &&& (2147483647 : Int32)) % (5 : Int32))), .val (.int (2 : Int32)), .val (.long b0), .second, .unset, .unset] [])) (fun _ k => XS.icmpYes X0.here hx rfl (pc0 := 20) (pc' := 29) rfl (hb hby at_20) rfl (by decide) (by decide) (by decide) k) ?_
  refine own_step (W' := s₁.setTop (mkF m 31 #[.val (.int p1), .val (.long v), .second, .val (.long b0), .second, .val (.int p4), .val (.int ((p1 &&& (2147483647 : Int32)) % (5 : Int32))), .val (.int (2 : Int32)), .val (.long b0), .second, .unset, .unset] [(.int (2 : Int32))])) (fun _ k => XS.iload X0.here hx rfl (hb hby at_29) rfl k) ?_
  refine own_step (W' := s₁.setTop (mkF m 32 #[.val (.int p1), .val (.long v), .second, .val (.long b0), .second, .val (.int p4), .val (.int ((p1 &&& (2147483647 : Int32)) % (5 : Int32))), .val (.int (2 : Int32)), .val (.long b0), .second, .unset, .unset] [(.int (2 : Int32)), (.int (2 : Int32))])) (fun _ k => XS.iconst X0.here hx rfl (hb hby at_31) k) ?_
  refine own_step (W' := s₁.setTop (mkF m 35 #[.val (.int p1), .val (.long v), .second, .val (.long b0), .second, .val (.int p4), .val (.int ((p1 &&& (2147483647 : Int32)) % (5 : Int32))), .val (.int (2 : Int32)), .val (.long b0), .second, .unset, .unset] [])) (fun _ k => XS.icmpNo X0.here hx rfl (hb hby at_32) rfl (by decide) k) ?_
  refine own_step (W' := s₁.setTop (mkF m 36 #[.val (.int p1), .val (.long v), .second, .val (.long b0), .second, .val (.int p4), .val (.int ((p1 &&& (2147483647 : Int32)) % (5 : Int32))), .val (.int (2 : Int32)), .val (.long b0), .second, .unset, .unset] [(.long v)])) (fun _ k => XS.lloadN X0.here hx rfl (hb hby at_35) rfl k) ?_
  refine own_step (W' := s₁.setTop (mkF m 37 #[.val (.int p1), .val (.long v), .second, .val (.long b0), .second, .val (.int p4), .val (.int ((p1 &&& (2147483647 : Int32)) % (5 : Int32))), .val (.int (2 : Int32)), .val (.long b0), .second, .unset, .unset] [(.long (1 : Int64)), (.long v)])) (fun _ k => XS.lconst X0.here hx rfl (hb hby at_36) k) ?_
  refine own_step (W' := s₁.setTop (mkF m 38 #[.val (.int p1), .val (.long v), .second, .val (.long b0), .second, .val (.int p4), .val (.int ((p1 &&& (2147483647 : Int32)) % (5 : Int32))), .val (.int (2 : Int32)), .val (.long b0), .second, .unset, .unset] [(.long (v + (1 : Int64)))])) (fun _ k => XS.ladd X0.here hx rfl (hb hby at_37) rfl k) ?_
  refine own_step (W' := s₁.setTop (mkF m 40 #[.val (.int p1), .val (.long v), .second, .val (.long b0), .second, .val (.int p4), .val (.int ((p1 &&& (2147483647 : Int32)) % (5 : Int32))), .val (.int (2 : Int32)), .val (.long (v + (1 : Int64))), .second, .unset, .unset] [])) (fun _ k => XS.lstore X0.here hx rfl (hb hby at_38) rfl (l' := #[.val (.int p1), .val (.long v), .second, .val (.long b0), .second, .val (.int p4), .val (.int ((p1 &&& (2147483647 : Int32)) % (5 : Int32))), .val (.int (2 : Int32)), .val (.long (v + (1 : Int64))), .second, .unset, .unset]) rfl k) ?_
  refine own_step (W' := s₁.setTop (mkF m 54 #[.val (.int p1), .val (.long v), .second, .val (.long b0), .second, .val (.int p4), .val (.int ((p1 &&& (2147483647 : Int32)) % (5 : Int32))), .val (.int (2 : Int32)), .val (.long (v + (1 : Int64))), .second, .unset, .unset] [])) (fun _ k => XS.goto X0.here hx rfl (pc0 := 40) (pc' := 54) rfl (hb hby at_40) (by decide) (by decide) k) ?_
  rcases own_m5 p1 with hk | hk | hk | hk | hk <;> rcases own_lcmp v (v + (1 : Int64)) with hl | hl | hl <;> rw [hk]
  · exact own_tail_0_m p1 p4 (2 : Int32) v b0 (v + (1 : Int64)) hl X0 hx hZ hw hby hml hown e0 N0 Z0 P Bd.notSynchronized Bd.returns
  · exact own_tail_0_0 p1 p4 (2 : Int32) v b0 (v + (1 : Int64)) hl X0 hx hZ hw hby hml hown e0 N0 Z0 P Bd.notSynchronized Bd.returns
  · exact own_tail_0_1 p1 p4 (2 : Int32) v b0 (v + (1 : Int64)) hl X0 hx hZ hw hby hml hown e0 N0 Z0 P Bd.notSynchronized Bd.returns
  · exact own_tail_1_m p1 p4 (2 : Int32) v b0 (v + (1 : Int64)) hl X0 hx hZ hw hby hml hown e0 N0 Z0 P Bd.notSynchronized Bd.returns
  · exact own_tail_1_0 p1 p4 (2 : Int32) v b0 (v + (1 : Int64)) hl X0 hx hZ hw hby hml hown e0 N0 Z0 P Bd.notSynchronized Bd.returns
  · exact own_tail_1_1 p1 p4 (2 : Int32) v b0 (v + (1 : Int64)) hl X0 hx hZ hw hby hml hown e0 N0 Z0 P Bd.notSynchronized Bd.returns
  · exact own_tail_2_m p1 p4 (2 : Int32) v b0 (v + (1 : Int64)) hl X0 hx hZ hw hby hml hown e0 N0 Z0 P Bd.notSynchronized Bd.returns
  · exact own_tail_2_0 p1 p4 (2 : Int32) v b0 (v + (1 : Int64)) hl X0 hx hZ hw hby hml hown e0 N0 Z0 P Bd.notSynchronized Bd.returns
  · exact own_tail_2_1 p1 p4 (2 : Int32) v b0 (v + (1 : Int64)) hl X0 hx hZ hw hby hml hown e0 N0 Z0 P Bd.notSynchronized Bd.returns
  · exact own_tail_3_m p1 p4 (2 : Int32) v b0 (v + (1 : Int64)) hl X0 hx hZ hw hby hml hown e0 N0 Z0 P Bd.notSynchronized Bd.returns
  · exact own_tail_3_0 p1 p4 (2 : Int32) v b0 (v + (1 : Int64)) hl X0 hx hZ hw hby hml hown e0 N0 Z0 P Bd.notSynchronized Bd.returns
  · exact own_tail_3_1 p1 p4 (2 : Int32) v b0 (v + (1 : Int64)) hl X0 hx hZ hw hby hml hown e0 N0 Z0 P Bd.notSynchronized Bd.returns
  · exact own_tail_4_m p1 p4 (2 : Int32) v b0 (v + (1 : Int64)) hl X0 hx hZ hw hby hml hown e0 N0 Z0 P Bd.notSynchronized Bd.returns
  · exact own_tail_4_0 p1 p4 (2 : Int32) v b0 (v + (1 : Int64)) hl X0 hx hZ hw hby hml hown e0 N0 Z0 P Bd.notSynchronized Bd.returns
  · exact own_tail_4_1 p1 p4 (2 : Int32) v b0 (v + (1 : Int64)) hl X0 hx hZ hw hby hml hown e0 N0 Z0 P Bd.notSynchronized Bd.returns
set_option maxRecDepth 65536 in
set_option maxHeartbeats 40000000 in
theorem rm0_3 (l : Launch) (Z : State) (a0 : Array Value) (hw : ∀ d ∈ tables_1, d.before a0 Z = true) (ws : List Jvm.Cond) (p1 : Int32) (v b0 : Int64) (p4 : Int32) (hm : (p4 &&& (3 : Int32)) = (3 : Int32)) (w : Nat → Addr) (h0 : Heap) (n0 : Nat) (Z0 : n0 ≤ h0.size) (P : Pins Z h0 w) :
    MetFree l x (head1 (Jvm.Cond.code x code maxLocals ret :: ws) room_1) (fun a U => a = #[(.int p1), (.long v), (.long b0), (.int p4)] ∧ Z.Warmed39 U.vm ∧ U.heap = h0) (fun _ _ _ _ _ => True) (fun _ U o U' => ∃ v L, o = .returned v ∧ own_Q0 n0 v U'.heap L ∧ FrameEnd U o U' L room_1.cells room_1.slots) := by
  refine MetFree.of_bodySF (plainFor_of_name pn_com_example_punctual_proof_punctualproof_network_ComparisonHoldsPinLaw) hisR ?_
  intro p e s m args below meth c s₁ Bd hml0 hP hK
  obtain ⟨rfl, hZ, hh⟩ := hP
  have hx := Bd.exec
  have hby := Bd.bytes
  have hml : c.maxLocals = 12 := hml0
  have hown : s.vm.findClass "com/example/punctual_proof/punctualproof/network/ComparisonHoldsPinLaw" = some m.cls := findClass_of_methodNamed Bd.named
  have hnm := (name_of_methodNamed Bd.named Bd.method).1
  have X0 : Stand p l e room_1 s m #[(.int p1), (.long v), (.long b0), (.int p4)] below meth c s₁ [] 0 0 := Stand.of_body Bd
  have e0 : s₁.heap = h0 := by rw [← hh, Bd.state]; rfl
  have N0 := Fr.nil n0
  refine own_enter (ef_0_IJJI m p1 v b0 p4) ?_
  refine own_step (W' := s₁.setTop (mkF m 1 #[.val (.int p1), .val (.long v), .second, .val (.long b0), .second, .val (.int p4), .unset, .unset, .unset, .unset, .unset, .unset] [(.int p1)])) (fun _ k => XS.iloadN X0.here hx rfl (hb hby at_0) rfl k) ?_
  refine own_step (W' := s₁.setTop (mkF m 3 #[.val (.int p1), .val (.long v), .second, .val (.long b0), .second, .val (.int p4), .unset, .unset, .unset, .unset, .unset, .unset] [(.int (2147483647 : Int32)), (.int p1)])) (fun _ k => X0.ldcInt hx hown (mvT hZ (hw _ (List.mem_of_getElem? (i := 0) rfl))) (g := (mkF m 1 #[.val (.int p1), .val (.long v), .second, .val (.long b0), .second, .val (.int p4), .unset, .unset, .unset, .unset, .unset, .unset] [(.int p1)])) rfl (hb hby at_1) _ k) ?_
  refine own_step (W' := s₁.setTop (mkF m 4 #[.val (.int p1), .val (.long v), .second, .val (.long b0), .second, .val (.int p4), .unset, .unset, .unset, .unset, .unset, .unset] [(.int (p1 &&& (2147483647 : Int32)))])) (fun _ k => XS.iand X0.here hx rfl (hb hby at_3) rfl k) ?_
  refine own_step (W' := s₁.setTop (mkF m 5 #[.val (.int p1), .val (.long v), .second, .val (.long b0), .second, .val (.int p4), .unset, .unset, .unset, .unset, .unset, .unset] [(.int (5 : Int32)), (.int (p1 &&& (2147483647 : Int32)))])) (fun _ k => XS.iconst X0.here hx rfl (hb hby at_4) k) ?_
  refine own_step (W' := s₁.setTop (mkF m 6 #[.val (.int p1), .val (.long v), .second, .val (.long b0), .second, .val (.int p4), .unset, .unset, .unset, .unset, .unset, .unset] [(.int ((p1 &&& (2147483647 : Int32)) % (5 : Int32)))])) (fun _ k => iremM X0 hx rfl (hb hby at_5) rfl (by decide) k) ?_
  refine own_step (W' := s₁.setTop (mkF m 8 #[.val (.int p1), .val (.long v), .second, .val (.long b0), .second, .val (.int p4), .val (.int ((p1 &&& (2147483647 : Int32)) % (5 : Int32))), .unset, .unset, .unset, .unset, .unset] [])) (fun _ k => XS.istore X0.here hx rfl (hb hby at_6) rfl (l' := #[.val (.int p1), .val (.long v), .second, .val (.long b0), .second, .val (.int p4), .val (.int ((p1 &&& (2147483647 : Int32)) % (5 : Int32))), .unset, .unset, .unset, .unset, .unset]) rfl k) ?_
  refine own_step (W' := s₁.setTop (mkF m 10 #[.val (.int p1), .val (.long v), .second, .val (.long b0), .second, .val (.int p4), .val (.int ((p1 &&& (2147483647 : Int32)) % (5 : Int32))), .unset, .unset, .unset, .unset, .unset] [(.int p4)])) (fun _ k => XS.iload X0.here hx rfl (hb hby at_8) rfl k) ?_
  refine own_step (W' := s₁.setTop (mkF m 11 #[.val (.int p1), .val (.long v), .second, .val (.long b0), .second, .val (.int p4), .val (.int ((p1 &&& (2147483647 : Int32)) % (5 : Int32))), .unset, .unset, .unset, .unset, .unset] [(.int (3 : Int32)), (.int p4)])) (fun _ k => XS.iconst X0.here hx rfl (hb hby at_10) k) ?_
  refine own_step (W' := s₁.setTop (mkF m 12 #[.val (.int p1), .val (.long v), .second, .val (.long b0), .second, .val (.int p4), .val (.int ((p1 &&& (2147483647 : Int32)) % (5 : Int32))), .unset, .unset, .unset, .unset, .unset] [(.int (p4 &&& (3 : Int32)))])) (fun _ k => XS.iand X0.here hx rfl (hb hby at_11) rfl k) ?_
  rw [hm]
  refine own_step (W' := s₁.setTop (mkF m 14 #[.val (.int p1), .val (.long v), .second, .val (.long b0), .second, .val (.int p4), .val (.int ((p1 &&& (2147483647 : Int32)) % (5 : Int32))), .val (.int (3 : Int32)), .unset, .unset, .unset, .unset] [])) (fun _ k => XS.istore X0.here hx rfl (hb hby at_12) rfl (l' := #[.val (.int p1), .val (.long v), .second, .val (.long b0), .second, .val (.int p4), .val (.int ((p1 &&& (2147483647 : Int32)) % (5 : Int32))), .val (.int (3 : Int32)), .unset, .unset, .unset, .unset]) rfl k) ?_
  refine own_step (W' := s₁.setTop (mkF m 15 #[.val (.int p1), .val (.long v), .second, .val (.long b0), .second, .val (.int p4), .val (.int ((p1 &&& (2147483647 : Int32)) % (5 : Int32))), .val (.int (3 : Int32)), .unset, .unset, .unset, .unset] [(.long b0)])) (fun _ k => XS.lloadN X0.here hx rfl (hb hby at_14) rfl k) ?_
  refine own_step (W' := s₁.setTop (mkF m 17 #[.val (.int p1), .val (.long v), .second, .val (.long b0), .second, .val (.int p4), .val (.int ((p1 &&& (2147483647 : Int32)) % (5 : Int32))), .val (.int (3 : Int32)), .val (.long b0), .second, .unset, .unset] [])) (fun _ k => XS.lstore X0.here hx rfl (hb hby at_15) rfl (l' := #[.val (.int p1), .val (.long v), .second, .val (.long b0), .second, .val (.int p4), .val (.int ((p1 &&& (2147483647 : Int32)) % (5 : Int32))), .val (.int (3 : Int32)), .val (.long b0), .second, .unset, .unset]) rfl k) ?_
  refine own_step (W' := s₁.setTop (mkF m 19 #[.val (.int p1), .val (.long v), .second, .val (.long b0), .second, .val (.int p4), .val (.int ((p1 &&& (2147483647 : Int32)) % (5 : Int32))), .val (.int (3 : Int32)), .val (.long b0), .second, .unset, .unset] [(.int (3 : Int32))])) (fun _ k => XS.iload X0.here hx rfl (hb hby at_17) rfl k) ?_
  refine own_step (W' := s₁.setTop (mkF m 20 #[.val (.int p1), .val (.long v), .second, .val (.long b0), .second, .val (.int p4), .val (.int ((p1 &&& (2147483647 : Int32)) % (5 : Int32))), .val (.int (3 : Int32)), .val (.long b0), .second, .unset, .unset] [(.int (1 : Int32)), (.int (3 : Int32))])) (fun _ k => XS.iconst X0.here hx rfl (hb hby at_19) k) ?_
  refine own_step (W' := s₁.setTop (mkF m 29 #[.val (.int p1), .val (.long v), .second, .val (.long b0), .second, .val (.int p4), .val (.int ((p1 &&& (2147483647 : Int32)) % (5 : Int32))), .val (.int (3 : Int32)), .val (.long b0), .second, .unset, .unset] [])) (fun _ k => XS.icmpYes X0.here hx rfl (pc0 := 20) (pc' := 29) rfl (hb hby at_20) rfl (by decide) (by decide) (by decide) k) ?_
  refine own_step (W' := s₁.setTop (mkF m 31 #[.val (.int p1), .val (.long v), .second, .val (.long b0), .second, .val (.int p4), .val (.int ((p1 &&& (2147483647 : Int32)) % (5 : Int32))), .val (.int (3 : Int32)), .val (.long b0), .second, .unset, .unset] [(.int (3 : Int32))])) (fun _ k => XS.iload X0.here hx rfl (hb hby at_29) rfl k) ?_
  refine own_step (W' := s₁.setTop (mkF m 32 #[.val (.int p1), .val (.long v), .second, .val (.long b0), .second, .val (.int p4), .val (.int ((p1 &&& (2147483647 : Int32)) % (5 : Int32))), .val (.int (3 : Int32)), .val (.long b0), .second, .unset, .unset] [(.int (2 : Int32)), (.int (3 : Int32))])) (fun _ k => XS.iconst X0.here hx rfl (hb hby at_31) k) ?_
  refine own_step (W' := s₁.setTop (mkF m 43 #[.val (.int p1), .val (.long v), .second, .val (.long b0), .second, .val (.int p4), .val (.int ((p1 &&& (2147483647 : Int32)) % (5 : Int32))), .val (.int (3 : Int32)), .val (.long b0), .second, .unset, .unset] [])) (fun _ k => XS.icmpYes X0.here hx rfl (pc0 := 32) (pc' := 43) rfl (hb hby at_32) rfl (by decide) (by decide) (by decide) k) ?_
  refine own_step (W' := s₁.setTop (mkF m 45 #[.val (.int p1), .val (.long v), .second, .val (.long b0), .second, .val (.int p4), .val (.int ((p1 &&& (2147483647 : Int32)) % (5 : Int32))), .val (.int (3 : Int32)), .val (.long b0), .second, .unset, .unset] [(.int (3 : Int32))])) (fun _ k => XS.iload X0.here hx rfl (hb hby at_43) rfl k) ?_
  refine own_step (W' := s₁.setTop (mkF m 46 #[.val (.int p1), .val (.long v), .second, .val (.long b0), .second, .val (.int p4), .val (.int ((p1 &&& (2147483647 : Int32)) % (5 : Int32))), .val (.int (3 : Int32)), .val (.long b0), .second, .unset, .unset] [(.int (3 : Int32)), (.int (3 : Int32))])) (fun _ k => XS.iconst X0.here hx rfl (hb hby at_45) k) ?_
  refine own_step (W' := s₁.setTop (mkF m 49 #[.val (.int p1), .val (.long v), .second, .val (.long b0), .second, .val (.int p4), .val (.int ((p1 &&& (2147483647 : Int32)) % (5 : Int32))), .val (.int (3 : Int32)), .val (.long b0), .second, .unset, .unset] [])) (fun _ k => XS.icmpNo X0.here hx rfl (hb hby at_46) rfl (by decide) k) ?_
  refine own_step (W' := s₁.setTop (mkF m 50 #[.val (.int p1), .val (.long v), .second, .val (.long b0), .second, .val (.int p4), .val (.int ((p1 &&& (2147483647 : Int32)) % (5 : Int32))), .val (.int (3 : Int32)), .val (.long b0), .second, .unset, .unset] [(.long v)])) (fun _ k => XS.lloadN X0.here hx rfl (hb hby at_49) rfl k) ?_
  refine own_step (W' := s₁.setTop (mkF m 51 #[.val (.int p1), .val (.long v), .second, .val (.long b0), .second, .val (.int p4), .val (.int ((p1 &&& (2147483647 : Int32)) % (5 : Int32))), .val (.int (3 : Int32)), .val (.long b0), .second, .unset, .unset] [(.long (1 : Int64)), (.long v)])) (fun _ k => XS.lconst X0.here hx rfl (hb hby at_50) k) ?_
  refine own_step (W' := s₁.setTop (mkF m 52 #[.val (.int p1), .val (.long v), .second, .val (.long b0), .second, .val (.int p4), .val (.int ((p1 &&& (2147483647 : Int32)) % (5 : Int32))), .val (.int (3 : Int32)), .val (.long b0), .second, .unset, .unset] [(.long (v - (1 : Int64)))])) (fun _ k => XS.lsub X0.here hx rfl (hb hby at_51) rfl k) ?_
  refine own_step (W' := s₁.setTop (mkF m 54 #[.val (.int p1), .val (.long v), .second, .val (.long b0), .second, .val (.int p4), .val (.int ((p1 &&& (2147483647 : Int32)) % (5 : Int32))), .val (.int (3 : Int32)), .val (.long (v - (1 : Int64))), .second, .unset, .unset] [])) (fun _ k => XS.lstore X0.here hx rfl (hb hby at_52) rfl (l' := #[.val (.int p1), .val (.long v), .second, .val (.long b0), .second, .val (.int p4), .val (.int ((p1 &&& (2147483647 : Int32)) % (5 : Int32))), .val (.int (3 : Int32)), .val (.long (v - (1 : Int64))), .second, .unset, .unset]) rfl k) ?_
  rcases own_m5 p1 with hk | hk | hk | hk | hk <;> rcases own_lcmp v (v - (1 : Int64)) with hl | hl | hl <;> rw [hk]
  · exact own_tail_0_m p1 p4 (3 : Int32) v b0 (v - (1 : Int64)) hl X0 hx hZ hw hby hml hown e0 N0 Z0 P Bd.notSynchronized Bd.returns
  · exact own_tail_0_0 p1 p4 (3 : Int32) v b0 (v - (1 : Int64)) hl X0 hx hZ hw hby hml hown e0 N0 Z0 P Bd.notSynchronized Bd.returns
  · exact own_tail_0_1 p1 p4 (3 : Int32) v b0 (v - (1 : Int64)) hl X0 hx hZ hw hby hml hown e0 N0 Z0 P Bd.notSynchronized Bd.returns
  · exact own_tail_1_m p1 p4 (3 : Int32) v b0 (v - (1 : Int64)) hl X0 hx hZ hw hby hml hown e0 N0 Z0 P Bd.notSynchronized Bd.returns
  · exact own_tail_1_0 p1 p4 (3 : Int32) v b0 (v - (1 : Int64)) hl X0 hx hZ hw hby hml hown e0 N0 Z0 P Bd.notSynchronized Bd.returns
  · exact own_tail_1_1 p1 p4 (3 : Int32) v b0 (v - (1 : Int64)) hl X0 hx hZ hw hby hml hown e0 N0 Z0 P Bd.notSynchronized Bd.returns
  · exact own_tail_2_m p1 p4 (3 : Int32) v b0 (v - (1 : Int64)) hl X0 hx hZ hw hby hml hown e0 N0 Z0 P Bd.notSynchronized Bd.returns
  · exact own_tail_2_0 p1 p4 (3 : Int32) v b0 (v - (1 : Int64)) hl X0 hx hZ hw hby hml hown e0 N0 Z0 P Bd.notSynchronized Bd.returns
  · exact own_tail_2_1 p1 p4 (3 : Int32) v b0 (v - (1 : Int64)) hl X0 hx hZ hw hby hml hown e0 N0 Z0 P Bd.notSynchronized Bd.returns
  · exact own_tail_3_m p1 p4 (3 : Int32) v b0 (v - (1 : Int64)) hl X0 hx hZ hw hby hml hown e0 N0 Z0 P Bd.notSynchronized Bd.returns
  · exact own_tail_3_0 p1 p4 (3 : Int32) v b0 (v - (1 : Int64)) hl X0 hx hZ hw hby hml hown e0 N0 Z0 P Bd.notSynchronized Bd.returns
  · exact own_tail_3_1 p1 p4 (3 : Int32) v b0 (v - (1 : Int64)) hl X0 hx hZ hw hby hml hown e0 N0 Z0 P Bd.notSynchronized Bd.returns
  · exact own_tail_4_m p1 p4 (3 : Int32) v b0 (v - (1 : Int64)) hl X0 hx hZ hw hby hml hown e0 N0 Z0 P Bd.notSynchronized Bd.returns
  · exact own_tail_4_0 p1 p4 (3 : Int32) v b0 (v - (1 : Int64)) hl X0 hx hZ hw hby hml hown e0 N0 Z0 P Bd.notSynchronized Bd.returns
  · exact own_tail_4_1 p1 p4 (3 : Int32) v b0 (v - (1 : Int64)) hl X0 hx hZ hw hby hml hown e0 N0 Z0 P Bd.notSynchronized Bd.returns
theorem rm0 (l : Launch) (Z : State) (a0 : Array Value) (hw : ∀ d ∈ tables_1, d.before a0 Z = true) (ws : List Jvm.Cond) (p1 : Int32) (v b0 : Int64) (p4 : Int32) (w : Nat → Addr) (h0 : Heap) (n0 : Nat) (Z0 : n0 ≤ h0.size) (P : Pins Z h0 w) :
    MetFree l x (head1 (Jvm.Cond.code x code maxLocals ret :: ws) room_1) (fun a U => a = #[(.int p1), (.long v), (.long b0), (.int p4)] ∧ Z.Warmed39 U.vm ∧ U.heap = h0) (fun _ _ _ _ _ => True) (fun _ U o U' => ∃ v L, o = .returned v ∧ own_Q0 n0 v U'.heap L ∧ FrameEnd U o U' L room_1.cells room_1.slots) := by
  rcases own_a4 p4 with hm | hm | hm | hm
  · exact rm0_0 l Z a0 hw ws p1 v b0 p4 hm w h0 n0 Z0 P
  · exact rm0_1 l Z a0 hw ws p1 v b0 p4 hm w h0 n0 Z0 P
  · exact rm0_2 l Z a0 hw ws p1 v b0 p4 hm w h0 n0 Z0 P
  · exact rm0_3 l Z a0 hw ws p1 v b0 p4 hm w h0 n0 Z0 P
set_option maxRecDepth 65536 in
set_option maxHeartbeats 40000000 in
theorem comes_1 {Post : Tables → Env → Array Value → State → Outcome → State → Prop} (hpost : ∀ tb e args s v u, (limb_1_1.after args s (.returned v) u = true ∧ limb_1_2.after args s (.returned v) u = true ∧ True) → FrameEnd s (.returned v) u (Jvm.fieldLocs frame_1_writes args s ++ Jvm.arrayLocs frame_1_arrays args s ++ Jvm.staticLocs frame_1_statics s) 0 0 → Post tb e args s (.returned v) u) :
    ArmFor flags0 classFile x code maxLocals ret World_1 tables_1 room_1 Calls_1 rest_1 Pre_1 Post := by
  intro l hfl _ _ p e ha hc hk s m args below hf hA hF happ hP
  obtain ⟨hcalls, hrest, hpre⟩ := hP
  obtain ⟨-, -, -, hnamed, -, -, -, hat⟩ := (Spec.applies_iff hf).mp happ
  obtain ⟨hg, hn⟩ := and_e (Cond.before_iff.mp (show (Jvm.Cond.and given_1 narrow_1).before args s = true from hpre))
  obtain ⟨gc, hg⟩ := and_e hg
  obtain ⟨w0, w1, w2, w3, rfl⟩ : ∃ w0 w1 w2 w3 : Value, args = #[w0, w1, w2, w3] := by
    have hs : args.size = 4 := by simpa [Cond.value, given_1] using gc
    obtain ⟨L⟩ := args
    match L, hs with
    | [w0, w1, w2, w3], _ => exact ⟨w0, w1, w2, w3, rfl⟩
  have hw := fun d (hd : d ∈ tables_1) => atoms_spec (ws := Jvm.Cond.code x code maxLocals ret :: tables_1) hat d (List.mem_cons_of_mem _ hd)
  obtain ⟨g0, hg⟩ := and_e hg
  obtain ⟨i0, ei0⟩ := is_v g0
  obtain rfl : w0 = (.int i0) := Option.some.inj ei0
  obtain ⟨g1, hg⟩ := and_e hg
  obtain ⟨i1, ei1⟩ := isL_v g1
  obtain rfl : w1 = (.long i1) := Option.some.inj ei1
  obtain ⟨g2, hg⟩ := and_e hg
  obtain ⟨i2, ei2⟩ := isL_v g2
  obtain rfl : w2 = (.long i2) := Option.some.inj ei2
  obtain ⟨i3, ei3⟩ := is_v hg
  obtain rfl : w3 = (.int i3) := Option.some.inj ei3
  obtain ⟨w, P⟩ := own_pins hw hn
  obtain ⟨n, o, h1, h2, h3, _, L, rfl, ⟨rfl, N⟩, hq⟩ := rm0 l s _ hw tables_1 i0 i1 i2 i3 w s.heap s.heap.size (Nat.le_refl _) P p e ha hc hk s m _ below hf ((Spec.applies_iff_loose hf).mp happ).1 ⟨rfl, State.Warmed39.refl s, rfl⟩ trivial
  refine ⟨n, _, h1, h2, h3, hpost _ _ _ _ _ _ ⟨Cond.after_iff.mpr rfl, Cond.after_iff.mpr (eq_i res_at (Term.int_eval (1)) rfl), trivial⟩ ⟨hq.1, hq.2.1, (hq.2.2.sift fun y hy => Or.inr (N y hy)).mono (by decide) (by decide)⟩⟩
theorem main_1_1 : Claimed_1_1 := comes_1 fun _ _ _ _ _ _ h hF => ⟨h.1, hF⟩
theorem main_1_2 : Claimed_1_2 := comes_1 fun _ _ _ _ _ _ h hF => ⟨h.2.1, hF⟩
end Jvm.Pilot.@@N@@
namespace Jvm.Pilot.@@N@@
open Jvm Jvm.ClassFile Sem Op Lib Jvm.Free Jvm.Stand Jvm.Pilot.@@N@@.Jvm.D
/-! MADE BY PROGRAM (witnessworld.py) out of the Statement's table words and the real class files: 12 classes; the members and pool entries that the words name. The judged class is class 1, her method 1. -/
namespace start1
open Jvm.ClassFile
def u (s : String) : CpInfo := .utf8 (stringToUtf16 s)
/-- a pool by its gaps: so many unusable entries, then the entry; so many at the end -/
def gap : Nat → List CpInfo → List CpInfo
  | 0, r => r
  | n + 1, r => .unusable :: gap n r
def poolList (es : List (Nat × CpInfo)) (last : Nat) : List CpInfo := es.foldr (fun e r => gap e.1 (e.2 :: r)) (gap last [])
def pool (es : List (Nat × CpInfo)) (last : Nat) : Array CpInfo := ⟨poolList es last⟩
def fileOf (pool : Array CpInfo) (this : Nat) (attrs : Array Attribute := #[]) (ms : Array MethodInfo := #[]) (fl : Nat := 33) (sup : Nat := 0) (ifs : Array Nat := #[]) (fds : Array FieldInfo := #[]) : ClassFile where
  minorVersion := 0
  majorVersion := 65
  constantPool := pool
  accessFlags := fl
  thisClass := this
  superClass := sup
  interfaces := ifs
  fields := fds
  methods := ms
  attributes := attrs
def plain (name : String) (sup : Option ClassId) : Class where
  name := name
  kind := .ordinary
  loader := none
  accessFlags := 33
  super := sup
  interfaces := #[]
  cf := none
  fields := #[]
  methods := #[]
  instanceTypes := #[]
  staticTypes := #[]
  resolved := #[]
  callSites := []
  init := .initialized
  statics := none
  mirror := none

def pool0 : Array CpInfo := pool [(5, u "<init>"), (0, u "()V"), (1, .class_ 10), (1, u "java/lang/Object")] 113

def k0m0 : Method := { name := "<init>", desc := "()V", sig := { parameters := [], returnType := none }, accessFlags := 1, code := none }
/-- java/lang/Object -/
def k0 : Class := { plain "java/lang/Object" none with
  accessFlags := 33
  interfaces := #[]
  cf := some (fileOf pool0 8 #[] #[{ accessFlags := 1, nameIndex := 5, descriptorIndex := 6, attributes := #[] }] 33 0 #[] #[])
  fields := #[]
  methods := #[k0m0]
  instanceTypes := #[]
  staticTypes := #[]
  resolved := Array.replicate 124 none
  statics := none }

def pool1 : Array CpInfo := pool [(2, .class_ 4), (1, u "java/lang/Object"), (0, u "<init>"), (0, u "()V"), (0, .integer 2147483647), (0, .fieldref 9 10), (0, .class_ 11), (0, .nameAndType 12 13), (0, u "com/example/punctual_proof/punctualproof/network/Comparison"), (0, u "LESS"), (0, u "Lcom/example/punctual_proof/punctualproof/network/Comparison;"), (0, .fieldref 9 15), (0, .nameAndType 16 13), (0, u "LESS_EQUAL"), (0, .fieldref 9 18), (0, .nameAndType 19 13), (0, u "EQUAL"), (0, .fieldref 9 21), (0, .nameAndType 22 13), (0, u "GREATER_EQUAL"), (0, .fieldref 9 24), (0, .nameAndType 25 13), (0, u "GREATER"), (0, .methodref 9 27), (0, .nameAndType 28 29), (0, u "holds"), (0, u "(JJ)Z"), (0, .class_ 31), (0, u "com/example/punctual_proof/punctualproof/network/ComparisonHoldsPinLaw"), (2, u "law"), (0, u "(IJJI)Z")] 3

def k1m0 : Method := { name := "<init>", desc := "()V", sig := { parameters := [], returnType := none }, accessFlags := 1, code := none }
def k1c1 : Code := { maxStack := 5, maxLocals := 12, code := code, exceptionTable := #[], attributes := #[] }
def k1m1 : Method := { name := "law", desc := "(IJJI)Z", sig := { parameters := [.int, .long, .long, .int], returnType := some .boolean }, accessFlags := 9, code := some k1c1 }
/-- com/example/punctual_proof/punctualproof/network/ComparisonHoldsPinLaw -/
def k1 : Class := { plain "com/example/punctual_proof/punctualproof/network/ComparisonHoldsPinLaw" (some 0) with
  accessFlags := 49
  interfaces := #[]
  cf := some (fileOf pool1 30 #[] #[{ accessFlags := 1, nameIndex := 5, descriptorIndex := 6, attributes := #[] }, { accessFlags := 9, nameIndex := 34, descriptorIndex := 35, attributes := #[] }] 49 2 #[] #[])
  fields := #[]
  methods := #[k1m0, k1m1]
  instanceTypes := #[]
  staticTypes := #[]
  resolved := Array.replicate 39 none
  statics := none }

def pool2 : Array CpInfo := pool [(1, .class_ 2), (0, u "java/lang/constant/Constable"), (0, .class_ 4), (0, u "java/lang/Object")] 6

/-- java/lang/constant/Constable -/
def k2 : Class := { plain "java/lang/constant/Constable" (some 0) with
  accessFlags := 1537
  interfaces := #[]
  cf := some (fileOf pool2 1 #[] #[] 1537 3 #[] #[])
  fields := #[]
  methods := #[]
  instanceTypes := #[]
  staticTypes := #[]
  resolved := Array.replicate 11 none
  statics := none }

def pool3 : Array CpInfo := pool [(1, .class_ 2), (0, u "java/lang/Comparable"), (0, .class_ 4), (0, u "java/lang/Object")] 7

/-- java/lang/Comparable -/
def k3 : Class := { plain "java/lang/Comparable" (some 0) with
  accessFlags := 1537
  interfaces := #[]
  cf := some (fileOf pool3 1 #[] #[] 1537 3 #[] #[])
  fields := #[]
  methods := #[]
  instanceTypes := #[]
  staticTypes := #[]
  resolved := Array.replicate 12 none
  statics := none }

def pool4 : Array CpInfo := pool [(1, .class_ 2), (0, u "java/io/Serializable"), (0, .class_ 4), (0, u "java/lang/Object")] 2

/-- java/io/Serializable -/
def k4 : Class := { plain "java/io/Serializable" (some 0) with
  accessFlags := 1537
  interfaces := #[]
  cf := some (fileOf pool4 1 #[] #[] 1537 3 #[] #[])
  fields := #[]
  methods := #[]
  instanceTypes := #[]
  staticTypes := #[]
  resolved := Array.replicate 7 none
  statics := none }

def pool5 : Array CpInfo := pool [(2, .class_ 4), (1, u "java/lang/Enum"), (0, u "name"), (0, u "Ljava/lang/String;"), (2, u "ordinal"), (0, u "I"), (1, .class_ 14), (1, u "java/lang/Object"), (4, u "hash"), (86, .class_ 108), (1, u "java/lang/Enum$EnumDesc"), (2, .class_ 112), (0, u "java/lang/constant/Constable"), (0, .class_ 114), (0, u "java/lang/Comparable"), (0, .class_ 116), (0, u "java/io/Serializable")] 87

/-- java/lang/Enum -/
def k5 : Class := { plain "java/lang/Enum" (some 0) with
  accessFlags := 1057
  interfaces := #[2, 3, 4]
  cf := some (fileOf pool5 2 #[.nestMembers #[106]] #[] 1057 12 #[111, 113, 115] #[{ accessFlags := 18, nameIndex := 5, descriptorIndex := 6, attributes := #[] }, { accessFlags := 18, nameIndex := 9, descriptorIndex := 10, attributes := #[] }, { accessFlags := 2, nameIndex := 19, descriptorIndex := 10, attributes := #[] }])
  fields := #[{ name := "name", type := (.object "java/lang/String"), accessFlags := 18, slot := 0, constantValue := 0 }, { name := "ordinal", type := .int, accessFlags := 18, slot := 1, constantValue := 0 }, { name := "hash", type := .int, accessFlags := 2, slot := 2, constantValue := 0 }]
  methods := #[]
  instanceTypes := #[(.object "java/lang/String"), .int, .int]
  staticTypes := #[]
  resolved := Array.replicate 204 none
  statics := none }

def pool6 : Array CpInfo := pool [(1, .class_ 2), (0, u "com/example/punctual_proof/punctualproof/network/Comparison"), (2, u "LESS"), (0, u "Lcom/example/punctual_proof/punctualproof/network/Comparison;"), (2, u "LESS_EQUAL"), (2, u "EQUAL"), (2, u "GREATER_EQUAL"), (2, u "GREATER"), (2, u "$VALUES"), (0, u "[Lcom/example/punctual_proof/punctualproof/network/Comparison;"), (6, .class_ 31), (1, u "java/lang/Enum"), (8, u "symbol"), (0, u "Ljava/lang/String;"), (0, .fieldref 1 43), (0, .nameAndType 44 45), (0, u "boundsAbove"), (0, u "Z"), (0, .fieldref 1 47), (0, .nameAndType 48 45), (0, u "boundsBelow"), (0, .fieldref 1 50), (0, .nameAndType 51 45), (0, u "strict"), (54, u "holds"), (0, u "(JJ)Z")] 5

def k6c0 : Code := { maxStack := 4, maxLocals := 5, code := prog_62_method_9_code, exceptionTable := #[], attributes := #[] }
def k6m0 : Method := { name := "holds", desc := "(JJ)Z", sig := { parameters := [.long, .long], returnType := some .boolean }, accessFlags := 1, code := some k6c0 }
/-- com/example/punctual_proof/punctualproof/network/Comparison -/
def k6 : Class := { plain "com/example/punctual_proof/punctualproof/network/Comparison" (some 5) with
  accessFlags := 16433
  interfaces := #[]
  cf := some (fileOf pool6 1 #[] #[{ accessFlags := 1, nameIndex := 106, descriptorIndex := 107, attributes := #[] }] 16433 29 #[] #[{ accessFlags := 16409, nameIndex := 5, descriptorIndex := 6, attributes := #[] }, { accessFlags := 16409, nameIndex := 9, descriptorIndex := 6, attributes := #[] }, { accessFlags := 16409, nameIndex := 12, descriptorIndex := 6, attributes := #[] }, { accessFlags := 16409, nameIndex := 15, descriptorIndex := 6, attributes := #[] }, { accessFlags := 16409, nameIndex := 18, descriptorIndex := 6, attributes := #[] }, { accessFlags := 18, nameIndex := 40, descriptorIndex := 41, attributes := #[] }, { accessFlags := 18, nameIndex := 44, descriptorIndex := 45, attributes := #[] }, { accessFlags := 18, nameIndex := 48, descriptorIndex := 45, attributes := #[] }, { accessFlags := 18, nameIndex := 51, descriptorIndex := 45, attributes := #[] }, { accessFlags := 4122, nameIndex := 21, descriptorIndex := 22, attributes := #[] }])
  fields := #[{ name := "LESS", type := (.object "com/example/punctual_proof/punctualproof/network/Comparison"), accessFlags := 16409, slot := 0, constantValue := 0 }, { name := "LESS_EQUAL", type := (.object "com/example/punctual_proof/punctualproof/network/Comparison"), accessFlags := 16409, slot := 1, constantValue := 0 }, { name := "EQUAL", type := (.object "com/example/punctual_proof/punctualproof/network/Comparison"), accessFlags := 16409, slot := 2, constantValue := 0 }, { name := "GREATER_EQUAL", type := (.object "com/example/punctual_proof/punctualproof/network/Comparison"), accessFlags := 16409, slot := 3, constantValue := 0 }, { name := "GREATER", type := (.object "com/example/punctual_proof/punctualproof/network/Comparison"), accessFlags := 16409, slot := 4, constantValue := 0 }, { name := "symbol", type := (.object "java/lang/String"), accessFlags := 18, slot := 3, constantValue := 0 }, { name := "boundsAbove", type := .boolean, accessFlags := 18, slot := 4, constantValue := 0 }, { name := "boundsBelow", type := .boolean, accessFlags := 18, slot := 5, constantValue := 0 }, { name := "strict", type := .boolean, accessFlags := 18, slot := 6, constantValue := 0 }, { name := "$VALUES", type := (.array (.object "com/example/punctual_proof/punctualproof/network/Comparison")), accessFlags := 4122, slot := 5, constantValue := 0 }]
  methods := #[k6m0]
  instanceTypes := #[(.object "java/lang/String"), .int, .int, (.object "java/lang/String"), .boolean, .boolean, .boolean]
  staticTypes := #[(.object "com/example/punctual_proof/punctualproof/network/Comparison"), (.object "com/example/punctual_proof/punctualproof/network/Comparison"), (.object "com/example/punctual_proof/punctualproof/network/Comparison"), (.object "com/example/punctual_proof/punctualproof/network/Comparison"), (.object "com/example/punctual_proof/punctualproof/network/Comparison"), (.array (.object "com/example/punctual_proof/punctualproof/network/Comparison"))]
  resolved := Array.replicate 113 none
  statics := some 0 }

def pool7 : Array CpInfo := pool [(1, u "java/lang/Cloneable"), (0, .class_ 1), (0, u "java/lang/Object"), (0, .class_ 3)] 3

/-- java/lang/Cloneable -/
def k7 : Class := { plain "java/lang/Cloneable" (some 0) with
  accessFlags := 1537
  interfaces := #[]
  cf := some (fileOf pool7 2 #[] #[] 1537 4 #[] #[])
  fields := #[]
  methods := #[]
  instanceTypes := #[]
  staticTypes := #[]
  resolved := Array.replicate 8 none
  statics := none }

/-- the primitive byte -/
def k8 : Class := { plain "byte" none with kind := .primitive 'B', accessFlags := 0x411 }
/-- [B -/
def k9 : Class := { plain "[B" (some 0) with kind := .array 8 .byte, interfaces := #[7, 4], accessFlags := 1041 }

/-- the primitive int -/
def k10 : Class := { plain "int" none with kind := .primitive 'I', accessFlags := 0x411 }
/-- [I -/
def k11 : Class := { plain "[I" (some 0) with kind := .array 10 .int, interfaces := #[7, 4], accessFlags := 1041 }

def heap : Heap := #[{ cls := 6, slots := #[.ref 1, .ref 2, .ref 3, .ref 4, .ref 5, .null], vm := .statics 6 },
  { cls := 6, slots := #[.null, .int 0, .int 0, .null, .int 1, .int 0, .int 1], vm := .none },
  { cls := 6, slots := #[.null, .int 0, .int 0, .null, .int 1, .int 0, .int 0], vm := .none },
  { cls := 6, slots := #[.null, .int 0, .int 0, .null, .int 1, .int 1, .int 0], vm := .none },
  { cls := 6, slots := #[.null, .int 0, .int 0, .null, .int 0, .int 1, .int 0], vm := .none },
  { cls := 6, slots := #[.null, .int 0, .int 0, .null, .int 0, .int 1, .int 1], vm := .none }]
def classes : Array Class := #[k0, k1, k2, k3, k4, k5, k6, k7, k8, k9, k10, k11]
def interned : List (Array UInt16 × Addr) := []
def slotsUsed : Nat := 41
def theMethod : MethodId := ⟨1, 1⟩
def args0 : Array Value := #[.int 5, .long 7, .long 9, .int 2]
def aboutOver (below : List Frame) : State where
  vm := { classes := classes, interned := interned.toArray }
  heap := heap
  slotsUsed := slotsUsed
  threads := #[{ frames := .invoking theMethod args0 :: below }]
def below0 : List Frame := [.native { method := ⟨0, 0⟩, args := #[] }]
def about1 : State := aboutOver below0
def p0 : Program := .bare "" "" ""
def e0 : Env := launch0.env 0 0 0
theorem w_frames : about1.frames = Frame.invoking theMethod args0 :: below0 := rfl
set_option maxRecDepth 65536 in
theorem w_args : argsFit about1.vm theMethod args0 = true := by decide +kernel
set_option maxRecDepth 65536 in
theorem w_heap : heapFits about1 = true := by decide +kernel
set_option maxRecDepth 65536 in
theorem w_runnable : about1.curStatus? = some .runnable := by decide +kernel
set_option maxRecDepth 65536 in
theorem w_alone : about1.alone = true := by decide +kernel
set_option maxRecDepth 65536 in
theorem w_named : about1.methodNamed? x = some theMethod := by decide +kernel
set_option maxRecDepth 65536 in
theorem w_hears : about1.hears theMethod below0 = true := by decide +kernel
set_option maxRecDepth 65536 in
theorem w_ripe : about1.ripe theMethod args0 below0 = true := by decide +kernel
theorem w_running : about1.status = .running := rfl
set_option maxRecDepth 65536 in
theorem w_room : about1.hasRoom e0.platform room_1 = true :=
  launch0.hasRoom_least _ room_1 (by decide +kernel) (by decide +kernel) (by decide +kernel) (by decide +kernel) (by decide +kernel) (by decide +kernel)
theorem allAtoms_all (ts : List Jvm.Cond) (a : Array Jvm.Value) (st : Jvm.State) : (allAtoms ts).before a st = ts.all (fun c => c.before a st) := by
  induction ts with
  | nil => rfl
  | cons c t ih =>
    show (Jvm.Cond.and c (allAtoms t)).before a st = _
    rw [Jvm.Cond.before_and, ih, List.all_cons]
def words1 : List Jvm.Cond := Jvm.Cond.code x code maxLocals ret :: tables_1
/-- a 'code' word, met by the world's own term for the bytes: nothing is compared byte by byte -/
theorem code_word {y : MethodName} {bytes : ByteArray} {mx : Nat} {rt : Option FieldType} {a : Array Value} {s : State} {m : MethodId} {meth : Method} {c : Code} (h1 : s.methodNamed? y = some m) (h2 : s.vm.method? m = some meth) (h3 : meth.code = some c) (h4 : c.code = bytes)
    (h5 : (c.maxLocals == mx && c.exceptionTable.isEmpty && decide (c.maxStack ≤ mostOperands) && decide (meth.sig.returnType = rt) && !meth.locks && decide (parseMethodDescriptor y.desc = some meth.sig)) = true) : (Jvm.Cond.code y bytes mx rt).before a s = true := by
  simp only [Bool.and_eq_true, beq_iff_eq, Bool.not_eq_true', decide_eq_true_eq] at h5
  obtain ⟨⟨⟨⟨⟨g1, g2⟩, g3⟩, g4⟩, g5⟩, g6⟩ := h5
  simp [Cond.before, Cond.holds, Cond.value, h1, h2, h3, h4, g1, g2, g3, g4, g5, g6]
def isCode : Jvm.Cond → Bool
  | .code _ _ _ _ => true
  | _ => false
theorem all_split {L : List Jvm.Cond} {P : Jvm.Cond → Bool} (h1 : L.all (fun c => isCode c || P c) = true) (h2 : ∀ c ∈ L.filter isCode, P c = true) : L.all P = true := by
  refine List.all_eq_true.mpr fun c hc => ?_
  have h := List.all_eq_true.mp h1 c hc
  rcases Bool.eq_false_or_eq_true (isCode c) with hi | hi
  · exact h2 c (List.mem_filter.mpr ⟨hc, hi⟩)
  · simpa [hi] using h
set_option maxRecDepth 65536 in
theorem w_c0 : (Jvm.Cond.code x code maxLocals ret).before args0 about1 = true := code_word (m := ⟨1, 1⟩) (meth := k1m1) (c := k1c1) (by decide +kernel) rfl rfl rfl (by decide +kernel)
set_option maxRecDepth 65536 in
theorem w_c1 : (Jvm.Cond.code ({ cls := "com/example/punctual_proof/punctualproof/network/Comparison", name := "holds", desc := "(JJ)Z" } : Jvm.MethodName) prog_62_method_9_code (5 : Nat) (Option.some Jvm.ClassFile.FieldType.boolean)).before args0 about1 = true := code_word (m := ⟨6, 0⟩) (meth := k6m0) (c := k6c0) (by decide +kernel) rfl rfl rfl (by decide +kernel)
def codes1 : List Jvm.Cond := [Jvm.Cond.code x code maxLocals ret, Jvm.Cond.code ({ cls := "com/example/punctual_proof/punctualproof/network/Comparison", name := "holds", desc := "(JJ)Z" } : Jvm.MethodName) prog_62_method_9_code (5 : Nat) (Option.some Jvm.ClassFile.FieldType.boolean)]
set_option maxRecDepth 65536 in
theorem codes_eq : words1.filter isCode = codes1 := rfl
theorem w_codes : ∀ c ∈ words1.filter isCode, c.before args0 about1 = true := by
  rw [codes_eq]
  intro c hc
  simp only [codes1, List.mem_cons, List.not_mem_nil, or_false] at hc
  rcases hc with rfl | rfl
  · exact w_c0
  · exact w_c1
set_option maxRecDepth 65536 in
theorem w_t1 : words1.all (fun c => isCode c || c.before args0 about1) = true := by decide +kernel
theorem w_tables : (allAtoms (Jvm.Cond.code x code maxLocals ret :: tables_1)).before args0 about1 = true := by
  rw [allAtoms_all]
  show words1.all (fun c => c.before args0 about1) = true
  refine all_split ?_ w_codes
  rw [w_t1]
set_option maxRecDepth 65536 in
theorem w_case : (Jvm.Cond.and given_1 narrow_1).before args0 about1 = true := by decide +kernel
theorem w_applies : (headSpec (Jvm.Cond.code x code maxLocals ret :: tables_1) room_1).applies x e0.platform about1 = true :=
  (Spec.applies_iff w_frames).mpr ⟨w_running, w_runnable, w_alone, w_named, w_hears, w_ripe, w_room, w_tables⟩
theorem atStart : AtStart classFile x code maxLocals ret World_1 tables_1 room_1 Calls_1 rest_1 Pre_1 launch0 p0 e0 about1 theMethod args0 below0 :=
  ⟨lists_1, trivial, launch0.admits_env _ _ _, launch0.least_env, fairChoices_fair.cas, fairChoices_fair.clock, w_frames, w_args, w_heap, w_applies, trivial, trivial, w_case⟩
end start1
theorem witness_1 : WitnessClaimed_1 := ⟨start1.p0, start1.e0, start1.about1, start1.theMethod, start1.args0, start1.below0, start1.atStart⟩
end Jvm.Pilot.@@N@@
