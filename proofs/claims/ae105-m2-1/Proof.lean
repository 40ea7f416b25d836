import JvmDerived
import JvmDerived.Pilot.@@N@@Statement
import JvmDerived.Pilot.@@N@@Code
set_option linter.unusedVariables false
set_option linter.unusedSimpArgs false
@@BLOCK:NumsL.lean.txt@@
namespace Jvm.Pilot.@@N@@
open Jvm Jvm.ClassFile Sem Op Lib Jvm.Free Jvm.Stand Jvm.LawKit Jvm.RoadKit Bundle Jvm.Pilot.@@N@@.Jvm.D

/-! the walk's goal, read backwards: from here the run comes to its end -/
def own_Done (p : Program) (e : Env) (below : List Frame) (W : State) (Q : Outcome → State → Prop) : Prop := ∃ s₂ o, Steps p.tables e below W s₂ ∧ s₂.status = .running ∧ Ended s₂ below o ∧ Q o s₂
theorem own_step {p : Program} {e : Env} {below : List Frame} {W W' : State} {Q : Outcome → State → Prop} (st : ∀ t, Steps p.tables e below W' t → Steps p.tables e below W t) (h : own_Done p e below W' Q) : own_Done p e below W Q := by
  obtain ⟨s2, o, h1, r⟩ := h
  exact ⟨s2, o, st _ h1, r⟩
theorem own_enter {p : Program} {e : Env} {below : List Frame} {T : State} {g g' : JFrame} {Q : Outcome → State → Prop} (q : g = g') (h : own_Done p e below (T.setTop g') Q) : ∃ s₂ o, Steps p.tables e below (T.setTop g) s₂ ∧ s₂.status = .running ∧ Ended s₂ below o ∧ Q o s₂ := by
  subst q; exact h
theorem own_ret {p : Program} {l : Launch} {e : Env} {R : Room} {s : State} {m : MethodId} {args : Array Value} {below : List Frame} {meth : Method} {c : Code} {T W : State} {locs : List Loc} {cells slots k n : Nat} {r : Option Value → Heap → List Loc → Prop} {v : Value} {t : FieldType}
    (X : Stand p l e R s m args below meth c T locs cells slots) (hlocks : meth.locks = false) (hret : meth.sig.returnType = some t)
    (hs : ∀ fs : List Frame, (∀ (f : JFrame) (acts : List Action), f.method = m → f.locked = none → f.entered = [] → (doReturn e (T.setTop f) acts (some v)).1 = T.setFrames fs) → Steps p.tables e below W (T.setFrames fs))
    (hq : r (some v) T.heap locs) (hk : cells ≤ k) (hn : slots ≤ n) : own_Done p e below W (fun o U' => ∃ v L, o = .returned v ∧ r v U'.heap L ∧ FrameEnd s o U' L k n) := by
  obtain ⟨fs, hr, hrun, hended, hW, hsame⟩ := X.leave (v := some v) (fun h => by rw [hret] at h; cases h) hlocks
  exact ⟨_, _, hs fs hr, hrun, hended, _, _, rfl, hq, ⟨_, rfl⟩, hW, hsame.mono hk hn⟩
theorem own_ret0 {p : Program} {l : Launch} {e : Env} {R : Room} {s : State} {m : MethodId} {args : Array Value} {below : List Frame} {meth : Method} {c : Code} {T W : State} {locs : List Loc} {cells slots k n : Nat} {r : Option Value → Heap → List Loc → Prop}
    (X : Stand p l e R s m args below meth c T locs cells slots) (hlocks : meth.locks = false) (hret : meth.sig.returnType = none)
    (hs : ∀ fs : List Frame, (∀ (f : JFrame) (acts : List Action), f.method = m → f.locked = none → f.entered = [] → (doReturn e (T.setTop f) acts none).1 = T.setFrames fs) → Steps p.tables e below W (T.setFrames fs))
    (hq : r none T.heap locs) (hk : cells ≤ k) (hn : slots ≤ n) : own_Done p e below W (fun o U' => ∃ v L, o = .returned v ∧ r v U'.heap L ∧ FrameEnd s o U' L k n) := by
  obtain ⟨fs, hr, hrun, hended, hW, hsame⟩ := X.leave (v := none) (fun _ => rfl) hlocks
  exact ⟨_, _, hs fs hr, hrun, hended, _, _, rfl, hq, ⟨_, rfl⟩, hW, hsame.mono hk hn⟩
/-- a body that writes nothing and returns r -/
def own_QK (r : Option Value) (h0 : Heap) (n0 : Nat) (v : Option Value) (h : Heap) (L : List Loc) : Prop := v = r ∧ Fr n0 L ∧ h = h0
/-- the law itself -/
def own_Q0 (n0 : Nat) (v : Option Value) (h : Heap) (L : List Loc) : Prop := v = some (.int (1 : Int32)) ∧ Fr n0 L

theorem own_eqJ {args : Array Value} {first s : State} {o : Option Outcome} {idx : List Nat} {t : Term} {k : Int64} (h : (Cond.eq t (.long k)).value args first o s idx = some true) : t.eval args first o idx s = some (.long k) := by
  obtain ⟨u, w, e1, e2, -, k2⟩ := cmp_v (Or.inl h)
  have e3 : (Term.long k).eval args first o idx s = some (.long k) := rfl
  cases e3.symm.trans e2
  obtain ⟨z, rfl⟩ := k2
  rw [e1]
  have := gotT (eq_L e1 e3) h
  rw [this]
theorem own_fldI {Z : State} {args : Array Value} {t : Term} {a : Addr} {C n d : String} {k : Int32} (ev : t.eval args Z none [] Z = some (.ref a)) (h : (Cond.eq (.field t C n d) (.int k)).value args Z none Z [] = some true) : Fld Z Z.heap a C n d (.int k) := by
  refine Fld.start ?_
  rw [← fld_at (C := C) (n := n) (dd := d) ev]
  obtain ⟨u, w, e1, e2, -, k2⟩ := cmp_v (Or.inl h)
  cases (Term.int_eval k).symm.trans e2
  obtain ⟨z, rfl⟩ := k2
  rw [e1]
  simp [Cond.value, e1, Term.int_eval] at h
  rw [h]
theorem own_fldN {Z : State} {args : Array Value} {t : Term} {a : Addr} {C n d : String} (ev : t.eval args Z none [] Z = some (.ref a)) (h : (Cond.eq (.field t C n d) .null).value args Z none Z [] = some true) : Fld Z Z.heap a C n d .null := by
  refine Fld.start ?_
  rw [← fld_at (C := C) (n := n) (dd := d) ev]
  exact null_v h
theorem own_fldR {Z : State} {args : Array Value} {t u : Term} {a b : Addr} {C n d : String} (ev : t.eval args Z none [] Z = some (.ref a)) (eu : u.eval args Z none [] Z = some (.ref b)) (h : (Cond.eq (.field t C n d) u).value args Z none Z [] = some true) : Fld Z Z.heap a C n d (.ref b) := by
  refine Fld.start ?_
  rw [← fld_at (C := C) (n := n) (dd := d) ev]
  obtain ⟨x, w, e1, e2, k1, k2⟩ := cmp_v (Or.inl h)
  cases eu.symm.trans e2
  obtain ⟨-, hx⟩ := k2
  rw [e1]
  have := gotT (eq_R e1 eu hx rfl) h
  rw [this]

theorem own_mask (p : Int32) : 0 ≤ (p &&& (2147483647 : Int32)).toInt := by
  have e1 : (p &&& (2147483647 : Int32)).toInt = p.toInt % 2 ^ 31 := Jvm.Kit.i32_mask p 2147483647 (k := 31) (by decide) (by decide)
  omega
theorem own_rem (p q : Int32) (h : 0 < q.toInt) : 0 ≤ ((p &&& (2147483647 : Int32)) % q).toInt ∧ ((p &&& (2147483647 : Int32)) % q).toInt < q.toInt := by
  have h0 := own_mask p
  rw [Int32.toInt_mod]
  exact ⟨Int.tmod_nonneg _ h0, Int.tmod_lt_of_pos _ h⟩
theorem own_m14 (p : Int32) : ((p &&& (2147483647 : Int32)) % (14 : Int32)) = (0 : Int32) ∨ ((p &&& (2147483647 : Int32)) % (14 : Int32)) = (1 : Int32) ∨ ((p &&& (2147483647 : Int32)) % (14 : Int32)) = (2 : Int32) ∨ ((p &&& (2147483647 : Int32)) % (14 : Int32)) = (3 : Int32) ∨ ((p &&& (2147483647 : Int32)) % (14 : Int32)) = (4 : Int32) ∨ ((p &&& (2147483647 : Int32)) % (14 : Int32)) = (5 : Int32) ∨ ((p &&& (2147483647 : Int32)) % (14 : Int32)) = (6 : Int32) ∨ ((p &&& (2147483647 : Int32)) % (14 : Int32)) = (7 : Int32) ∨ ((p &&& (2147483647 : Int32)) % (14 : Int32)) = (8 : Int32) ∨ ((p &&& (2147483647 : Int32)) % (14 : Int32)) = (9 : Int32) ∨ ((p &&& (2147483647 : Int32)) % (14 : Int32)) = (10 : Int32) ∨ ((p &&& (2147483647 : Int32)) % (14 : Int32)) = (11 : Int32) ∨ ((p &&& (2147483647 : Int32)) % (14 : Int32)) = (12 : Int32) ∨ ((p &&& (2147483647 : Int32)) % (14 : Int32)) = (13 : Int32) := by
  have h := own_rem p (14 : Int32) (by decide)
  have hq : (14 : Int32).toInt = 14 := by decide
  rw [hq] at h
  generalize ((p &&& (2147483647 : Int32)) % (14 : Int32)) = z at h
  have hz : z.toInt = 0 ∨ z.toInt = 1 ∨ z.toInt = 2 ∨ z.toInt = 3 ∨ z.toInt = 4 ∨ z.toInt = 5 ∨ z.toInt = 6 ∨ z.toInt = 7 ∨ z.toInt = 8 ∨ z.toInt = 9 ∨ z.toInt = 10 ∨ z.toInt = 11 ∨ z.toInt = 12 ∨ z.toInt = 13 := by omega
  rcases hz with hz | hz | hz | hz | hz | hz | hz | hz | hz | hz | hz | hz | hz | hz
  · exact Or.inl (Int32.toInt_inj.mp (hz.trans (by decide)))
  · exact Or.inr (Or.inl (Int32.toInt_inj.mp (hz.trans (by decide))))
  · exact Or.inr (Or.inr (Or.inl (Int32.toInt_inj.mp (hz.trans (by decide)))))
  · exact Or.inr (Or.inr (Or.inr (Or.inl (Int32.toInt_inj.mp (hz.trans (by decide))))))
  · exact Or.inr (Or.inr (Or.inr (Or.inr (Or.inl (Int32.toInt_inj.mp (hz.trans (by decide)))))))
  · exact Or.inr (Or.inr (Or.inr (Or.inr (Or.inr (Or.inl (Int32.toInt_inj.mp (hz.trans (by decide))))))))
  · exact Or.inr (Or.inr (Or.inr (Or.inr (Or.inr (Or.inr (Or.inl (Int32.toInt_inj.mp (hz.trans (by decide)))))))))
  · exact Or.inr (Or.inr (Or.inr (Or.inr (Or.inr (Or.inr (Or.inr (Or.inl (Int32.toInt_inj.mp (hz.trans (by decide))))))))))
  · exact Or.inr (Or.inr (Or.inr (Or.inr (Or.inr (Or.inr (Or.inr (Or.inr (Or.inl (Int32.toInt_inj.mp (hz.trans (by decide)))))))))))
  · exact Or.inr (Or.inr (Or.inr (Or.inr (Or.inr (Or.inr (Or.inr (Or.inr (Or.inr (Or.inl (Int32.toInt_inj.mp (hz.trans (by decide))))))))))))
  · exact Or.inr (Or.inr (Or.inr (Or.inr (Or.inr (Or.inr (Or.inr (Or.inr (Or.inr (Or.inr (Or.inl (Int32.toInt_inj.mp (hz.trans (by decide)))))))))))))
  · exact Or.inr (Or.inr (Or.inr (Or.inr (Or.inr (Or.inr (Or.inr (Or.inr (Or.inr (Or.inr (Or.inr (Or.inl (Int32.toInt_inj.mp (hz.trans (by decide))))))))))))))
  · exact Or.inr (Or.inr (Or.inr (Or.inr (Or.inr (Or.inr (Or.inr (Or.inr (Or.inr (Or.inr (Or.inr (Or.inr (Or.inl (Int32.toInt_inj.mp (hz.trans (by decide)))))))))))))))
  · exact Or.inr (Or.inr (Or.inr (Or.inr (Or.inr (Or.inr (Or.inr (Or.inr (Or.inr (Or.inr (Or.inr (Or.inr (Or.inr ((Int32.toInt_inj.mp (hz.trans (by decide))))))))))))))))
theorem d1_0 : decode method_3_code 0 = .ok (.iload_n 0, 1) := by decide +kernel
theorem d1_1 : decode method_3_code 1 = .ok (.ifCond .ne 7, 3) := by decide +kernel
theorem d1_4 : decode method_3_code 4 = .ok (.getstatic 20, 3) := by decide +kernel
theorem d1_7 : decode method_3_code 7 = .ok (.areturn, 1) := by decide +kernel
theorem ef_1_I (m : MethodId) (x0 : Int32) : entryFrame m #[(.int x0)] 1 = mkF m 0 #[.val (.int x0)] [] := by first | (simp [entryFrame, mkF, argsToLocals, Value.category]; done) | rfl
theorem pn_com_example_punctual_proof_punctualproof_network_BinaryOperatorIsComparisonPinLaw : plainName "com/example/punctual_proof/punctualproof/network/BinaryOperatorIsComparisonPinLaw" = true := by first | (simp [plainName, overriddenIn]; done) | decide +kernel
theorem pd_0 : parseMethodDescriptor "(I)Lcom/example/punctual_proof/punctualproof/network/BinaryOperator;" = some ⟨[.int], some (.object "com/example/punctual_proof/punctualproof/network/BinaryOperator")⟩ := by decide +kernel
theorem d2_0 : decode prog_59_method_8_code 0 = .ok (.aload_n 0, 1) := by decide +kernel
theorem d2_1 : decode prog_59_method_8_code 1 = .ok (.getfield 72, 3) := by decide +kernel
theorem d2_4 : decode prog_59_method_8_code 4 = .ok (.iconst 5, 1) := by decide +kernel
theorem d2_5 : decode prog_59_method_8_code 5 = .ok (.if_icmp .ne 7, 3) := by decide +kernel
theorem d2_12 : decode prog_59_method_8_code 12 = .ok (.iconst 0, 1) := by decide +kernel
theorem d2_13 : decode prog_59_method_8_code 13 = .ok (.ireturn, 1) := by decide +kernel
theorem ef_2_R (m : MethodId) (x0 : Addr) : entryFrame m #[(.ref x0)] 1 = mkF m 0 #[.val (.ref x0)] [] := by first | (simp [entryFrame, mkF, argsToLocals, Value.category]; done) | rfl
theorem pn_com_example_punctual_proof_punctualproof_network_BinaryOperator : plainName "com/example/punctual_proof/punctualproof/network/BinaryOperator" = true := by first | (simp [plainName, overriddenIn]; done) | decide +kernel
theorem pd_1 : parseMethodDescriptor "()Z" = some ⟨[], some .boolean⟩ := by decide +kernel
theorem ef_0_I (m : MethodId) (x0 : Int32) : entryFrame m #[(.int x0)] maxLocals = mkF m 0 #[.val (.int x0), .unset, .unset, .unset] [] := by first | (simp [entryFrame, mkF, argsToLocals, Value.category, maxLocals]; done) | rfl
theorem d1_8 : decode method_3_code 8 = .ok (.iload_n 0, 1) := by decide +kernel
theorem d1_9 : decode method_3_code 9 = .ok (.iconst 1, 1) := by decide +kernel
theorem d1_10 : decode method_3_code 10 = .ok (.if_icmp .ne 7, 3) := by decide +kernel
theorem d1_13 : decode method_3_code 13 = .ok (.getstatic 24, 3) := by decide +kernel
theorem d1_16 : decode method_3_code 16 = .ok (.areturn, 1) := by decide +kernel
theorem d1_17 : decode method_3_code 17 = .ok (.iload_n 0, 1) := by decide +kernel
theorem d1_18 : decode method_3_code 18 = .ok (.iconst 2, 1) := by decide +kernel
theorem d1_19 : decode method_3_code 19 = .ok (.if_icmp .ne 7, 3) := by decide +kernel
theorem d1_22 : decode method_3_code 22 = .ok (.getstatic 27, 3) := by decide +kernel
theorem d1_25 : decode method_3_code 25 = .ok (.areturn, 1) := by decide +kernel
theorem d1_26 : decode method_3_code 26 = .ok (.iload_n 0, 1) := by decide +kernel
theorem d1_27 : decode method_3_code 27 = .ok (.iconst 3, 1) := by decide +kernel
theorem d1_28 : decode method_3_code 28 = .ok (.if_icmp .ne 7, 3) := by decide +kernel
theorem d1_31 : decode method_3_code 31 = .ok (.getstatic 30, 3) := by decide +kernel
theorem d1_34 : decode method_3_code 34 = .ok (.areturn, 1) := by decide +kernel
theorem d2_8 : decode prog_59_method_8_code 8 = .ok (.iconst 1, 1) := by decide +kernel
theorem d2_9 : decode prog_59_method_8_code 9 = .ok (.goto 4, 3) := by decide +kernel
theorem d1_35 : decode method_3_code 35 = .ok (.iload_n 0, 1) := by decide +kernel
theorem d1_36 : decode method_3_code 36 = .ok (.iconst 4, 1) := by decide +kernel
theorem d1_37 : decode method_3_code 37 = .ok (.if_icmp .ne 7, 3) := by decide +kernel
theorem d1_40 : decode method_3_code 40 = .ok (.getstatic 33, 3) := by decide +kernel
theorem d1_43 : decode method_3_code 43 = .ok (.areturn, 1) := by decide +kernel
theorem d1_44 : decode method_3_code 44 = .ok (.iload_n 0, 1) := by decide +kernel
theorem d1_45 : decode method_3_code 45 = .ok (.iconst 5, 1) := by decide +kernel
theorem d1_46 : decode method_3_code 46 = .ok (.if_icmp .ne 7, 3) := by decide +kernel
theorem d1_49 : decode method_3_code 49 = .ok (.getstatic 36, 3) := by decide +kernel
theorem d1_52 : decode method_3_code 52 = .ok (.areturn, 1) := by decide +kernel
theorem d1_53 : decode method_3_code 53 = .ok (.iload_n 0, 1) := by decide +kernel
theorem d1_54 : decode method_3_code 54 = .ok (.bipush 6, 2) := by decide +kernel
theorem d1_56 : decode method_3_code 56 = .ok (.if_icmp .ne 7, 3) := by decide +kernel
theorem d1_59 : decode method_3_code 59 = .ok (.getstatic 39, 3) := by decide +kernel
theorem d1_62 : decode method_3_code 62 = .ok (.areturn, 1) := by decide +kernel
theorem d1_63 : decode method_3_code 63 = .ok (.iload_n 0, 1) := by decide +kernel
theorem d1_64 : decode method_3_code 64 = .ok (.bipush 7, 2) := by decide +kernel
theorem d1_66 : decode method_3_code 66 = .ok (.if_icmp .ne 7, 3) := by decide +kernel
theorem d1_69 : decode method_3_code 69 = .ok (.getstatic 42, 3) := by decide +kernel
theorem d1_72 : decode method_3_code 72 = .ok (.areturn, 1) := by decide +kernel
theorem d1_73 : decode method_3_code 73 = .ok (.iload_n 0, 1) := by decide +kernel
theorem d1_74 : decode method_3_code 74 = .ok (.bipush 8, 2) := by decide +kernel
theorem d1_76 : decode method_3_code 76 = .ok (.if_icmp .ne 7, 3) := by decide +kernel
theorem d1_79 : decode method_3_code 79 = .ok (.getstatic 45, 3) := by decide +kernel
theorem d1_82 : decode method_3_code 82 = .ok (.areturn, 1) := by decide +kernel
theorem d1_83 : decode method_3_code 83 = .ok (.iload_n 0, 1) := by decide +kernel
theorem d1_84 : decode method_3_code 84 = .ok (.bipush 9, 2) := by decide +kernel
theorem d1_86 : decode method_3_code 86 = .ok (.if_icmp .ne 7, 3) := by decide +kernel
theorem d1_89 : decode method_3_code 89 = .ok (.getstatic 48, 3) := by decide +kernel
theorem d1_92 : decode method_3_code 92 = .ok (.areturn, 1) := by decide +kernel
theorem d1_93 : decode method_3_code 93 = .ok (.iload_n 0, 1) := by decide +kernel
theorem d1_94 : decode method_3_code 94 = .ok (.bipush 10, 2) := by decide +kernel
theorem d1_96 : decode method_3_code 96 = .ok (.if_icmp .ne 7, 3) := by decide +kernel
theorem d1_99 : decode method_3_code 99 = .ok (.getstatic 51, 3) := by decide +kernel
theorem d1_102 : decode method_3_code 102 = .ok (.areturn, 1) := by decide +kernel
theorem d1_103 : decode method_3_code 103 = .ok (.iload_n 0, 1) := by decide +kernel
theorem d1_104 : decode method_3_code 104 = .ok (.bipush 11, 2) := by decide +kernel
theorem d1_106 : decode method_3_code 106 = .ok (.if_icmp .ne 7, 3) := by decide +kernel
theorem d1_109 : decode method_3_code 109 = .ok (.getstatic 54, 3) := by decide +kernel
theorem d1_112 : decode method_3_code 112 = .ok (.areturn, 1) := by decide +kernel
theorem d1_113 : decode method_3_code 113 = .ok (.iload_n 0, 1) := by decide +kernel
theorem d1_114 : decode method_3_code 114 = .ok (.bipush 12, 2) := by decide +kernel
theorem d1_116 : decode method_3_code 116 = .ok (.if_icmp .ne 7, 3) := by decide +kernel
theorem d1_119 : decode method_3_code 119 = .ok (.getstatic 57, 3) := by decide +kernel
theorem d1_122 : decode method_3_code 122 = .ok (.areturn, 1) := by decide +kernel
theorem d1_123 : decode method_3_code 123 = .ok (.getstatic 60, 3) := by decide +kernel
theorem d1_126 : decode method_3_code 126 = .ok (.areturn, 1) := by decide +kernel
/-- what the case pins of the constants -/
def Pins (Z : State) (h : Heap) (w : Nat → Addr) : Prop := Exa Z h (w 0) "com/example/punctual_proof/punctualproof/network/BinaryOperator" ∧ Sta Z h "com/example/punctual_proof/punctualproof/network/BinaryOperator" "IMPLY" "Lcom/example/punctual_proof/punctualproof/network/BinaryOperator;" (.ref (w 0)) ∧ Fld Z h (w 0) "com/example/punctual_proof/punctualproof/network/BinaryOperator" "precedence" "I" (.int (1 : Int32)) ∧ Exa Z h (w 1) "com/example/punctual_proof/punctualproof/network/BinaryOperator" ∧ Sta Z h "com/example/punctual_proof/punctualproof/network/BinaryOperator" "EQUAL" "Lcom/example/punctual_proof/punctualproof/network/BinaryOperator;" (.ref (w 1)) ∧ Fld Z h (w 1) "com/example/punctual_proof/punctualproof/network/BinaryOperator" "precedence" "I" (.int (5 : Int32)) ∧ Exa Z h (w 2) "com/example/punctual_proof/punctualproof/network/BinaryOperator" ∧ Sta Z h "com/example/punctual_proof/punctualproof/network/BinaryOperator" "DIVIDE" "Lcom/example/punctual_proof/punctualproof/network/BinaryOperator;" (.ref (w 2)) ∧ Fld Z h (w 2) "com/example/punctual_proof/punctualproof/network/BinaryOperator" "precedence" "I" (.int (7 : Int32)) ∧ Exa Z h (w 3) "com/example/punctual_proof/punctualproof/network/BinaryOperator" ∧ Sta Z h "com/example/punctual_proof/punctualproof/network/BinaryOperator" "REMAINDER" "Lcom/example/punctual_proof/punctualproof/network/BinaryOperator;" (.ref (w 3)) ∧ Fld Z h (w 3) "com/example/punctual_proof/punctualproof/network/BinaryOperator" "precedence" "I" (.int (7 : Int32)) ∧ Exa Z h (w 4) "com/example/punctual_proof/punctualproof/network/BinaryOperator" ∧ Sta Z h "com/example/punctual_proof/punctualproof/network/BinaryOperator" "NOT_EQUAL" "Lcom/example/punctual_proof/punctualproof/network/BinaryOperator;" (.ref (w 4)) ∧ Fld Z h (w 4) "com/example/punctual_proof/punctualproof/network/BinaryOperator" "precedence" "I" (.int (5 : Int32)) ∧ Exa Z h (w 5) "com/example/punctual_proof/punctualproof/network/BinaryOperator" ∧ Sta Z h "com/example/punctual_proof/punctualproof/network/BinaryOperator" "GREATER_EQUAL" "Lcom/example/punctual_proof/punctualproof/network/BinaryOperator;" (.ref (w 5)) ∧ Fld Z h (w 5) "com/example/punctual_proof/punctualproof/network/BinaryOperator" "precedence" "I" (.int (5 : Int32)) ∧ Exa Z h (w 6) "com/example/punctual_proof/punctualproof/network/BinaryOperator" ∧ Sta Z h "com/example/punctual_proof/punctualproof/network/BinaryOperator" "AND" "Lcom/example/punctual_proof/punctualproof/network/BinaryOperator;" (.ref (w 6)) ∧ Fld Z h (w 6) "com/example/punctual_proof/punctualproof/network/BinaryOperator" "precedence" "I" (.int (3 : Int32)) ∧ Exa Z h (w 7) "com/example/punctual_proof/punctualproof/network/BinaryOperator" ∧ Sta Z h "com/example/punctual_proof/punctualproof/network/BinaryOperator" "MULTIPLY" "Lcom/example/punctual_proof/punctualproof/network/BinaryOperator;" (.ref (w 7)) ∧ Fld Z h (w 7) "com/example/punctual_proof/punctualproof/network/BinaryOperator" "precedence" "I" (.int (7 : Int32)) ∧ Exa Z h (w 8) "com/example/punctual_proof/punctualproof/network/BinaryOperator" ∧ Sta Z h "com/example/punctual_proof/punctualproof/network/BinaryOperator" "SUBTRACT" "Lcom/example/punctual_proof/punctualproof/network/BinaryOperator;" (.ref (w 8)) ∧ Fld Z h (w 8) "com/example/punctual_proof/punctualproof/network/BinaryOperator" "precedence" "I" (.int (6 : Int32)) ∧ Exa Z h (w 9) "com/example/punctual_proof/punctualproof/network/BinaryOperator" ∧ Sta Z h "com/example/punctual_proof/punctualproof/network/BinaryOperator" "GREATER" "Lcom/example/punctual_proof/punctualproof/network/BinaryOperator;" (.ref (w 9)) ∧ Fld Z h (w 9) "com/example/punctual_proof/punctualproof/network/BinaryOperator" "precedence" "I" (.int (5 : Int32)) ∧ Exa Z h (w 10) "com/example/punctual_proof/punctualproof/network/BinaryOperator" ∧ Sta Z h "com/example/punctual_proof/punctualproof/network/BinaryOperator" "OR" "Lcom/example/punctual_proof/punctualproof/network/BinaryOperator;" (.ref (w 10)) ∧ Fld Z h (w 10) "com/example/punctual_proof/punctualproof/network/BinaryOperator" "precedence" "I" (.int (2 : Int32)) ∧ Exa Z h (w 11) "com/example/punctual_proof/punctualproof/network/BinaryOperator" ∧ Sta Z h "com/example/punctual_proof/punctualproof/network/BinaryOperator" "ADD" "Lcom/example/punctual_proof/punctualproof/network/BinaryOperator;" (.ref (w 11)) ∧ Fld Z h (w 11) "com/example/punctual_proof/punctualproof/network/BinaryOperator" "precedence" "I" (.int (6 : Int32)) ∧ Exa Z h (w 12) "com/example/punctual_proof/punctualproof/network/BinaryOperator" ∧ Sta Z h "com/example/punctual_proof/punctualproof/network/BinaryOperator" "LESS" "Lcom/example/punctual_proof/punctualproof/network/BinaryOperator;" (.ref (w 12)) ∧ Fld Z h (w 12) "com/example/punctual_proof/punctualproof/network/BinaryOperator" "precedence" "I" (.int (5 : Int32)) ∧ Exa Z h (w 13) "com/example/punctual_proof/punctualproof/network/BinaryOperator" ∧ Sta Z h "com/example/punctual_proof/punctualproof/network/BinaryOperator" "LESS_EQUAL" "Lcom/example/punctual_proof/punctualproof/network/BinaryOperator;" (.ref (w 13)) ∧ Fld Z h (w 13) "com/example/punctual_proof/punctualproof/network/BinaryOperator" "precedence" "I" (.int (5 : Int32))
theorem pin_E0 {Z : State} {h : Heap} {w : Nat → Addr} (P : Pins Z h w) : Exa Z h (w 0) "com/example/punctual_proof/punctualproof/network/BinaryOperator" := P.1
theorem pin_S0 {Z : State} {h : Heap} {w : Nat → Addr} (P : Pins Z h w) : Sta Z h "com/example/punctual_proof/punctualproof/network/BinaryOperator" "IMPLY" "Lcom/example/punctual_proof/punctualproof/network/BinaryOperator;" (.ref (w 0)) := P.2.1
theorem pin_F0_precedence {Z : State} {h : Heap} {w : Nat → Addr} (P : Pins Z h w) : Fld Z h (w 0) "com/example/punctual_proof/punctualproof/network/BinaryOperator" "precedence" "I" (.int (1 : Int32)) := P.2.2.1
theorem pin_E1 {Z : State} {h : Heap} {w : Nat → Addr} (P : Pins Z h w) : Exa Z h (w 1) "com/example/punctual_proof/punctualproof/network/BinaryOperator" := P.2.2.2.1
theorem pin_S1 {Z : State} {h : Heap} {w : Nat → Addr} (P : Pins Z h w) : Sta Z h "com/example/punctual_proof/punctualproof/network/BinaryOperator" "EQUAL" "Lcom/example/punctual_proof/punctualproof/network/BinaryOperator;" (.ref (w 1)) := P.2.2.2.2.1
theorem pin_F1_precedence {Z : State} {h : Heap} {w : Nat → Addr} (P : Pins Z h w) : Fld Z h (w 1) "com/example/punctual_proof/punctualproof/network/BinaryOperator" "precedence" "I" (.int (5 : Int32)) := P.2.2.2.2.2.1
theorem pin_E2 {Z : State} {h : Heap} {w : Nat → Addr} (P : Pins Z h w) : Exa Z h (w 2) "com/example/punctual_proof/punctualproof/network/BinaryOperator" := P.2.2.2.2.2.2.1
theorem pin_S2 {Z : State} {h : Heap} {w : Nat → Addr} (P : Pins Z h w) : Sta Z h "com/example/punctual_proof/punctualproof/network/BinaryOperator" "DIVIDE" "Lcom/example/punctual_proof/punctualproof/network/BinaryOperator;" (.ref (w 2)) := P.2.2.2.2.2.2.2.1
theorem pin_F2_precedence {Z : State} {h : Heap} {w : Nat → Addr} (P : Pins Z h w) : Fld Z h (w 2) "com/example/punctual_proof/punctualproof/network/BinaryOperator" "precedence" "I" (.int (7 : Int32)) := P.2.2.2.2.2.2.2.2.1
theorem pin_E3 {Z : State} {h : Heap} {w : Nat → Addr} (P : Pins Z h w) : Exa Z h (w 3) "com/example/punctual_proof/punctualproof/network/BinaryOperator" := P.2.2.2.2.2.2.2.2.2.1
theorem pin_S3 {Z : State} {h : Heap} {w : Nat → Addr} (P : Pins Z h w) : Sta Z h "com/example/punctual_proof/punctualproof/network/BinaryOperator" "REMAINDER" "Lcom/example/punctual_proof/punctualproof/network/BinaryOperator;" (.ref (w 3)) := P.2.2.2.2.2.2.2.2.2.2.1
theorem pin_F3_precedence {Z : State} {h : Heap} {w : Nat → Addr} (P : Pins Z h w) : Fld Z h (w 3) "com/example/punctual_proof/punctualproof/network/BinaryOperator" "precedence" "I" (.int (7 : Int32)) := P.2.2.2.2.2.2.2.2.2.2.2.1
theorem pin_E4 {Z : State} {h : Heap} {w : Nat → Addr} (P : Pins Z h w) : Exa Z h (w 4) "com/example/punctual_proof/punctualproof/network/BinaryOperator" := P.2.2.2.2.2.2.2.2.2.2.2.2.1
theorem pin_S4 {Z : State} {h : Heap} {w : Nat → Addr} (P : Pins Z h w) : Sta Z h "com/example/punctual_proof/punctualproof/network/BinaryOperator" "NOT_EQUAL" "Lcom/example/punctual_proof/punctualproof/network/BinaryOperator;" (.ref (w 4)) := P.2.2.2.2.2.2.2.2.2.2.2.2.2.1
theorem pin_F4_precedence {Z : State} {h : Heap} {w : Nat → Addr} (P : Pins Z h w) : Fld Z h (w 4) "com/example/punctual_proof/punctualproof/network/BinaryOperator" "precedence" "I" (.int (5 : Int32)) := P.2.2.2.2.2.2.2.2.2.2.2.2.2.2.1
theorem pin_E5 {Z : State} {h : Heap} {w : Nat → Addr} (P : Pins Z h w) : Exa Z h (w 5) "com/example/punctual_proof/punctualproof/network/BinaryOperator" := P.2.2.2.2.2.2.2.2.2.2.2.2.2.2.2.1
theorem pin_S5 {Z : State} {h : Heap} {w : Nat → Addr} (P : Pins Z h w) : Sta Z h "com/example/punctual_proof/punctualproof/network/BinaryOperator" "GREATER_EQUAL" "Lcom/example/punctual_proof/punctualproof/network/BinaryOperator;" (.ref (w 5)) := P.2.2.2.2.2.2.2.2.2.2.2.2.2.2.2.2.1
theorem pin_F5_precedence {Z : State} {h : Heap} {w : Nat → Addr} (P : Pins Z h w) : Fld Z h (w 5) "com/example/punctual_proof/punctualproof/network/BinaryOperator" "precedence" "I" (.int (5 : Int32)) := P.2.2.2.2.2.2.2.2.2.2.2.2.2.2.2.2.2.1
theorem pin_E6 {Z : State} {h : Heap} {w : Nat → Addr} (P : Pins Z h w) : Exa Z h (w 6) "com/example/punctual_proof/punctualproof/network/BinaryOperator" := P.2.2.2.2.2.2.2.2.2.2.2.2.2.2.2.2.2.2.1
theorem pin_S6 {Z : State} {h : Heap} {w : Nat → Addr} (P : Pins Z h w) : Sta Z h "com/example/punctual_proof/punctualproof/network/BinaryOperator" "AND" "Lcom/example/punctual_proof/punctualproof/network/BinaryOperator;" (.ref (w 6)) := P.2.2.2.2.2.2.2.2.2.2.2.2.2.2.2.2.2.2.2.1
theorem pin_F6_precedence {Z : State} {h : Heap} {w : Nat → Addr} (P : Pins Z h w) : Fld Z h (w 6) "com/example/punctual_proof/punctualproof/network/BinaryOperator" "precedence" "I" (.int (3 : Int32)) := P.2.2.2.2.2.2.2.2.2.2.2.2.2.2.2.2.2.2.2.2.1
theorem pin_E7 {Z : State} {h : Heap} {w : Nat → Addr} (P : Pins Z h w) : Exa Z h (w 7) "com/example/punctual_proof/punctualproof/network/BinaryOperator" := P.2.2.2.2.2.2.2.2.2.2.2.2.2.2.2.2.2.2.2.2.2.1
theorem pin_S7 {Z : State} {h : Heap} {w : Nat → Addr} (P : Pins Z h w) : Sta Z h "com/example/punctual_proof/punctualproof/network/BinaryOperator" "MULTIPLY" "Lcom/example/punctual_proof/punctualproof/network/BinaryOperator;" (.ref (w 7)) := P.2.2.2.2.2.2.2.2.2.2.2.2.2.2.2.2.2.2.2.2.2.2.1
theorem pin_F7_precedence {Z : State} {h : Heap} {w : Nat → Addr} (P : Pins Z h w) : Fld Z h (w 7) "com/example/punctual_proof/punctualproof/network/BinaryOperator" "precedence" "I" (.int (7 : Int32)) := P.2.2.2.2.2.2.2.2.2.2.2.2.2.2.2.2.2.2.2.2.2.2.2.1
theorem pin_E8 {Z : State} {h : Heap} {w : Nat → Addr} (P : Pins Z h w) : Exa Z h (w 8) "com/example/punctual_proof/punctualproof/network/BinaryOperator" := P.2.2.2.2.2.2.2.2.2.2.2.2.2.2.2.2.2.2.2.2.2.2.2.2.1
theorem pin_S8 {Z : State} {h : Heap} {w : Nat → Addr} (P : Pins Z h w) : Sta Z h "com/example/punctual_proof/punctualproof/network/BinaryOperator" "SUBTRACT" "Lcom/example/punctual_proof/punctualproof/network/BinaryOperator;" (.ref (w 8)) := P.2.2.2.2.2.2.2.2.2.2.2.2.2.2.2.2.2.2.2.2.2.2.2.2.2.1
theorem pin_F8_precedence {Z : State} {h : Heap} {w : Nat → Addr} (P : Pins Z h w) : Fld Z h (w 8) "com/example/punctual_proof/punctualproof/network/BinaryOperator" "precedence" "I" (.int (6 : Int32)) := P.2.2.2.2.2.2.2.2.2.2.2.2.2.2.2.2.2.2.2.2.2.2.2.2.2.2.1
theorem pin_E9 {Z : State} {h : Heap} {w : Nat → Addr} (P : Pins Z h w) : Exa Z h (w 9) "com/example/punctual_proof/punctualproof/network/BinaryOperator" := P.2.2.2.2.2.2.2.2.2.2.2.2.2.2.2.2.2.2.2.2.2.2.2.2.2.2.2.1
theorem pin_S9 {Z : State} {h : Heap} {w : Nat → Addr} (P : Pins Z h w) : Sta Z h "com/example/punctual_proof/punctualproof/network/BinaryOperator" "GREATER" "Lcom/example/punctual_proof/punctualproof/network/BinaryOperator;" (.ref (w 9)) := P.2.2.2.2.2.2.2.2.2.2.2.2.2.2.2.2.2.2.2.2.2.2.2.2.2.2.2.2.1
theorem pin_F9_precedence {Z : State} {h : Heap} {w : Nat → Addr} (P : Pins Z h w) : Fld Z h (w 9) "com/example/punctual_proof/punctualproof/network/BinaryOperator" "precedence" "I" (.int (5 : Int32)) := P.2.2.2.2.2.2.2.2.2.2.2.2.2.2.2.2.2.2.2.2.2.2.2.2.2.2.2.2.2.1
theorem pin_E10 {Z : State} {h : Heap} {w : Nat → Addr} (P : Pins Z h w) : Exa Z h (w 10) "com/example/punctual_proof/punctualproof/network/BinaryOperator" := P.2.2.2.2.2.2.2.2.2.2.2.2.2.2.2.2.2.2.2.2.2.2.2.2.2.2.2.2.2.2.1
theorem pin_S10 {Z : State} {h : Heap} {w : Nat → Addr} (P : Pins Z h w) : Sta Z h "com/example/punctual_proof/punctualproof/network/BinaryOperator" "OR" "Lcom/example/punctual_proof/punctualproof/network/BinaryOperator;" (.ref (w 10)) := P.2.2.2.2.2.2.2.2.2.2.2.2.2.2.2.2.2.2.2.2.2.2.2.2.2.2.2.2.2.2.2.1
theorem pin_F10_precedence {Z : State} {h : Heap} {w : Nat → Addr} (P : Pins Z h w) : Fld Z h (w 10) "com/example/punctual_proof/punctualproof/network/BinaryOperator" "precedence" "I" (.int (2 : Int32)) := P.2.2.2.2.2.2.2.2.2.2.2.2.2.2.2.2.2.2.2.2.2.2.2.2.2.2.2.2.2.2.2.2.1
theorem pin_E11 {Z : State} {h : Heap} {w : Nat → Addr} (P : Pins Z h w) : Exa Z h (w 11) "com/example/punctual_proof/punctualproof/network/BinaryOperator" := P.2.2.2.2.2.2.2.2.2.2.2.2.2.2.2.2.2.2.2.2.2.2.2.2.2.2.2.2.2.2.2.2.2.1
theorem pin_S11 {Z : State} {h : Heap} {w : Nat → Addr} (P : Pins Z h w) : Sta Z h "com/example/punctual_proof/punctualproof/network/BinaryOperator" "ADD" "Lcom/example/punctual_proof/punctualproof/network/BinaryOperator;" (.ref (w 11)) := P.2.2.2.2.2.2.2.2.2.2.2.2.2.2.2.2.2.2.2.2.2.2.2.2.2.2.2.2.2.2.2.2.2.2.1
theorem pin_F11_precedence {Z : State} {h : Heap} {w : Nat → Addr} (P : Pins Z h w) : Fld Z h (w 11) "com/example/punctual_proof/punctualproof/network/BinaryOperator" "precedence" "I" (.int (6 : Int32)) := P.2.2.2.2.2.2.2.2.2.2.2.2.2.2.2.2.2.2.2.2.2.2.2.2.2.2.2.2.2.2.2.2.2.2.2.1
theorem pin_E12 {Z : State} {h : Heap} {w : Nat → Addr} (P : Pins Z h w) : Exa Z h (w 12) "com/example/punctual_proof/punctualproof/network/BinaryOperator" := P.2.2.2.2.2.2.2.2.2.2.2.2.2.2.2.2.2.2.2.2.2.2.2.2.2.2.2.2.2.2.2.2.2.2.2.2.1
theorem pin_S12 {Z : State} {h : Heap} {w : Nat → Addr} (P : Pins Z h w) : Sta Z h "com/example/punctual_proof/punctualproof/network/BinaryOperator" "LESS" "Lcom/example/punctual_proof/punctualproof/network/BinaryOperator;" (.ref (w 12)) := P.2.2.2.2.2.2.2.2.2.2.2.2.2.2.2.2.2.2.2.2.2.2.2.2.2.2.2.2.2.2.2.2.2.2.2.2.2.1
theorem pin_F12_precedence {Z : State} {h : Heap} {w : Nat → Addr} (P : Pins Z h w) : Fld Z h (w 12) "com/example/punctual_proof/punctualproof/network/BinaryOperator" "precedence" "I" (.int (5 : Int32)) := P.2.2.2.2.2.2.2.2.2.2.2.2.2.2.2.2.2.2.2.2.2.2.2.2.2.2.2.2.2.2.2.2.2.2.2.2.2.2.1
theorem pin_E13 {Z : State} {h : Heap} {w : Nat → Addr} (P : Pins Z h w) : Exa Z h (w 13) "com/example/punctual_proof/punctualproof/network/BinaryOperator" := P.2.2.2.2.2.2.2.2.2.2.2.2.2.2.2.2.2.2.2.2.2.2.2.2.2.2.2.2.2.2.2.2.2.2.2.2.2.2.2.1
theorem pin_S13 {Z : State} {h : Heap} {w : Nat → Addr} (P : Pins Z h w) : Sta Z h "com/example/punctual_proof/punctualproof/network/BinaryOperator" "LESS_EQUAL" "Lcom/example/punctual_proof/punctualproof/network/BinaryOperator;" (.ref (w 13)) := P.2.2.2.2.2.2.2.2.2.2.2.2.2.2.2.2.2.2.2.2.2.2.2.2.2.2.2.2.2.2.2.2.2.2.2.2.2.2.2.2.1
theorem pin_F13_precedence {Z : State} {h : Heap} {w : Nat → Addr} (P : Pins Z h w) : Fld Z h (w 13) "com/example/punctual_proof/punctualproof/network/BinaryOperator" "precedence" "I" (.int (5 : Int32)) := P.2.2.2.2.2.2.2.2.2.2.2.2.2.2.2.2.2.2.2.2.2.2.2.2.2.2.2.2.2.2.2.2.2.2.2.2.2.2.2.2.2
theorem Pins.ext {Z : State} {h h' : Heap} {w : Nat → Addr} (E : Ext h h') (P : Pins Z h w) : Pins Z h' w := ⟨Exa.ext E (pin_E0 P), Sta.ext E (pin_S0 P), Fld.ext E (pin_F0_precedence P), Exa.ext E (pin_E1 P), Sta.ext E (pin_S1 P), Fld.ext E (pin_F1_precedence P), Exa.ext E (pin_E2 P), Sta.ext E (pin_S2 P), Fld.ext E (pin_F2_precedence P), Exa.ext E (pin_E3 P), Sta.ext E (pin_S3 P), Fld.ext E (pin_F3_precedence P), Exa.ext E (pin_E4 P), Sta.ext E (pin_S4 P), Fld.ext E (pin_F4_precedence P), Exa.ext E (pin_E5 P), Sta.ext E (pin_S5 P), Fld.ext E (pin_F5_precedence P), Exa.ext E (pin_E6 P), Sta.ext E (pin_S6 P), Fld.ext E (pin_F6_precedence P), Exa.ext E (pin_E7 P), Sta.ext E (pin_S7 P), Fld.ext E (pin_F7_precedence P), Exa.ext E (pin_E8 P), Sta.ext E (pin_S8 P), Fld.ext E (pin_F8_precedence P), Exa.ext E (pin_E9 P), Sta.ext E (pin_S9 P), Fld.ext E (pin_F9_precedence P), Exa.ext E (pin_E10 P), Sta.ext E (pin_S10 P), Fld.ext E (pin_F10_precedence P), Exa.ext E (pin_E11 P), Sta.ext E (pin_S11 P), Fld.ext E (pin_F11_precedence P), Exa.ext E (pin_E12 P), Sta.ext E (pin_S12 P), Fld.ext E (pin_F12_precedence P), Exa.ext E (pin_E13 P), Sta.ext E (pin_S13 P), Fld.ext E (pin_F13_precedence P)⟩
set_option maxRecDepth 65536 in
theorem own_pins {s : State} {args : Array Value} (hw : ∀ d ∈ tables_1, d.before args s = true) (hn : narrow_1.value args s none s [] = some true) : ∃ w, Pins s s.heap w := by
  obtain ⟨c0, hn⟩ := and_e hn
  obtain ⟨c1, hn⟩ := and_e hn
  obtain ⟨c2, hn⟩ := and_e hn
  obtain ⟨c3, hn⟩ := and_e hn
  obtain ⟨c4, hn⟩ := and_e hn
  obtain ⟨c5, hn⟩ := and_e hn
  obtain ⟨c6, hn⟩ := and_e hn
  obtain ⟨c7, hn⟩ := and_e hn
  obtain ⟨c8, hn⟩ := and_e hn
  obtain ⟨c9, hn⟩ := and_e hn
  obtain ⟨c10, hn⟩ := and_e hn
  obtain ⟨c11, hn⟩ := and_e hn
  obtain ⟨c12, hn⟩ := and_e hn
  obtain ⟨c13, hn⟩ := and_e hn
  obtain ⟨c14, hn⟩ := and_e hn
  obtain ⟨c15, hn⟩ := and_e hn
  obtain ⟨c16, hn⟩ := and_e hn
  obtain ⟨c17, hn⟩ := and_e hn
  obtain ⟨c18, hn⟩ := and_e hn
  obtain ⟨c19, hn⟩ := and_e hn
  obtain ⟨c20, hn⟩ := and_e hn
  obtain ⟨c21, hn⟩ := and_e hn
  obtain ⟨c22, hn⟩ := and_e hn
  obtain ⟨c23, hn⟩ := and_e hn
  obtain ⟨c24, hn⟩ := and_e hn
  obtain ⟨c25, hn⟩ := and_e hn
  obtain ⟨c26, hn⟩ := and_e hn
  have c27 := hn
  obtain ⟨a0, ev0⟩ := exa_v c0
  obtain ⟨a1, ev1⟩ := exa_v c2
  obtain ⟨a2, ev2⟩ := exa_v c4
  obtain ⟨a3, ev3⟩ := exa_v c6
  obtain ⟨a4, ev4⟩ := exa_v c8
  obtain ⟨a5, ev5⟩ := exa_v c10
  obtain ⟨a6, ev6⟩ := exa_v c12
  obtain ⟨a7, ev7⟩ := exa_v c14
  obtain ⟨a8, ev8⟩ := exa_v c16
  obtain ⟨a9, ev9⟩ := exa_v c18
  obtain ⟨a10, ev10⟩ := exa_v c20
  obtain ⟨a11, ev11⟩ := exa_v c22
  obtain ⟨a12, ev12⟩ := exa_v c24
  obtain ⟨a13, ev13⟩ := exa_v c26
  have E0 := Exa.start ev0 c0
  have S0 := Sta.start ev0 (Or.inr ⟨(hw _ (List.mem_of_getElem? (i := 6) rfl)), (hw _ (List.mem_of_getElem? (i := 7) rfl))⟩)
  have F0_precedence := own_fldI ev0 c1
  have E1 := Exa.start ev1 c2
  have S1 := Sta.start ev1 (Or.inr ⟨(hw _ (List.mem_of_getElem? (i := 6) rfl)), (hw _ (List.mem_of_getElem? (i := 16) rfl))⟩)
  have F1_precedence := own_fldI ev1 c3
  have E2 := Exa.start ev2 c4
  have S2 := Sta.start ev2 (Or.inr ⟨(hw _ (List.mem_of_getElem? (i := 6) rfl)), (hw _ (List.mem_of_getElem? (i := 18) rfl))⟩)
  have F2_precedence := own_fldI ev2 c5
  have E3 := Exa.start ev3 c6
  have S3 := Sta.start ev3 (Or.inr ⟨(hw _ (List.mem_of_getElem? (i := 6) rfl)), (hw _ (List.mem_of_getElem? (i := 20) rfl))⟩)
  have F3_precedence := own_fldI ev3 c7
  have E4 := Exa.start ev4 c8
  have S4 := Sta.start ev4 (Or.inr ⟨(hw _ (List.mem_of_getElem? (i := 6) rfl)), (hw _ (List.mem_of_getElem? (i := 22) rfl))⟩)
  have F4_precedence := own_fldI ev4 c9
  have E5 := Exa.start ev5 c10
  have S5 := Sta.start ev5 (Or.inr ⟨(hw _ (List.mem_of_getElem? (i := 6) rfl)), (hw _ (List.mem_of_getElem? (i := 24) rfl))⟩)
  have F5_precedence := own_fldI ev5 c11
  have E6 := Exa.start ev6 c12
  have S6 := Sta.start ev6 (Or.inr ⟨(hw _ (List.mem_of_getElem? (i := 6) rfl)), (hw _ (List.mem_of_getElem? (i := 26) rfl))⟩)
  have F6_precedence := own_fldI ev6 c13
  have E7 := Exa.start ev7 c14
  have S7 := Sta.start ev7 (Or.inr ⟨(hw _ (List.mem_of_getElem? (i := 6) rfl)), (hw _ (List.mem_of_getElem? (i := 28) rfl))⟩)
  have F7_precedence := own_fldI ev7 c15
  have E8 := Exa.start ev8 c16
  have S8 := Sta.start ev8 (Or.inr ⟨(hw _ (List.mem_of_getElem? (i := 6) rfl)), (hw _ (List.mem_of_getElem? (i := 30) rfl))⟩)
  have F8_precedence := own_fldI ev8 c17
  have E9 := Exa.start ev9 c18
  have S9 := Sta.start ev9 (Or.inr ⟨(hw _ (List.mem_of_getElem? (i := 6) rfl)), (hw _ (List.mem_of_getElem? (i := 32) rfl))⟩)
  have F9_precedence := own_fldI ev9 c19
  have E10 := Exa.start ev10 c20
  have S10 := Sta.start ev10 (Or.inr ⟨(hw _ (List.mem_of_getElem? (i := 6) rfl)), (hw _ (List.mem_of_getElem? (i := 34) rfl))⟩)
  have F10_precedence := own_fldI ev10 c21
  have E11 := Exa.start ev11 c22
  have S11 := Sta.start ev11 (Or.inr ⟨(hw _ (List.mem_of_getElem? (i := 6) rfl)), (hw _ (List.mem_of_getElem? (i := 36) rfl))⟩)
  have F11_precedence := own_fldI ev11 c23
  have E12 := Exa.start ev12 c24
  have S12 := Sta.start ev12 (Or.inr ⟨(hw _ (List.mem_of_getElem? (i := 6) rfl)), (hw _ (List.mem_of_getElem? (i := 38) rfl))⟩)
  have F12_precedence := own_fldI ev12 c25
  have E13 := Exa.start ev13 c26
  have S13 := Sta.start ev13 (Or.inr ⟨(hw _ (List.mem_of_getElem? (i := 6) rfl)), (hw _ (List.mem_of_getElem? (i := 40) rfl))⟩)
  have F13_precedence := own_fldI ev13 c27
  exact ⟨fun i => [a0, a1, a2, a3, a4, a5, a6, a7, a8, a9, a10, a11, a12, a13].getD i 0, E0, S0, F0_precedence, E1, S1, F1_precedence, E2, S2, F2_precedence, E3, S3, F3_precedence, E4, S4, F4_precedence, E5, S5, F5_precedence, E6, S6, F6_precedence, E7, S7, F7_precedence, E8, S8, F8_precedence, E9, S9, F9_precedence, E10, S10, F10_precedence, E11, S11, F11_precedence, E12, S12, F12_precedence, E13, S13, F13_precedence⟩
set_option maxRecDepth 65536 in
set_option maxHeartbeats 40000000 in
theorem rm1_0 (l : Launch) (Z : State) (a0 : Array Value) (hw : ∀ d ∈ tables_1, d.before a0 Z = true) (ws : List Jvm.Cond) (w : Nat → Addr) (h0 : Heap) (n0 : Nat) (Z0 : n0 ≤ h0.size) (P : Pins Z h0 w) :
    MetFree l (⟨"com/example/punctual_proof/punctualproof/network/BinaryOperatorIsComparisonPinLaw", "pick", "(I)Lcom/example/punctual_proof/punctualproof/network/BinaryOperator;"⟩ : MethodName) (head1 (Jvm.Cond.code (⟨"com/example/punctual_proof/punctualproof/network/BinaryOperatorIsComparisonPinLaw", "pick", "(I)Lcom/example/punctual_proof/punctualproof/network/BinaryOperator;"⟩ : MethodName) method_3_code 1 (some (.object "com/example/punctual_proof/punctualproof/network/BinaryOperator")) :: ws) ({ frames := 0, cells := 0, slots := 0, locals := 0 } : Room)) (fun a U => a = #[(.int (0 : Int32))] ∧ Z.Warmed39 U.vm ∧ U.heap = h0) (fun _ _ _ _ _ => True) (fun _ U o U' => ∃ v L, o = .returned v ∧ own_QK (some (.ref (w 0))) h0 n0 v U'.heap L ∧ FrameEnd U o U' L ({ frames := 0, cells := 0, slots := 0, locals := 0 } : Room).cells ({ frames := 0, cells := 0, slots := 0, locals := 0 } : Room).slots) := by
  refine MetFree.of_bodySF (plainFor_of_name pn_com_example_punctual_proof_punctualproof_network_BinaryOperatorIsComparisonPinLaw) hisR ?_
  intro p e s m args below meth c s₁ Bd hml0 hP hK
  obtain ⟨rfl, hZ, hh⟩ := hP
  have hx := Bd.exec
  have hby := Bd.bytes
  have hml : c.maxLocals = 1 := hml0
  have hown : s.vm.findClass "com/example/punctual_proof/punctualproof/network/BinaryOperatorIsComparisonPinLaw" = some m.cls := findClass_of_methodNamed Bd.named
  have hnm := (name_of_methodNamed Bd.named Bd.method).1
  have X0 : Stand p l e ({ frames := 0, cells := 0, slots := 0, locals := 0 } : Room) s m #[(.int (0 : Int32))] below meth c s₁ [] 0 0 := Stand.of_body Bd
  have e0 : s₁.heap = h0 := by rw [← hh, Bd.state]; rfl
  have N0 := Fr.nil n0
  refine own_enter (ef_1_I m (0 : Int32)) ?_
  refine own_step (W' := s₁.setTop (mkF m 1 #[.val (.int (0 : Int32))] [(.int (0 : Int32))])) (fun _ k => XS.iloadN X0.here hx rfl (hb hby d1_0) rfl k) ?_
  refine own_step (W' := s₁.setTop (mkF m 4 #[.val (.int (0 : Int32))] [])) (fun _ k => XS.ifNo X0.here hx rfl (hb hby d1_1) rfl (by decide) k) ?_
  obtain ⟨T1, X1, e1, st1⟩ := getS2 X0 hx hZ hown (host := "") (Or.inl (hw _ (List.mem_of_getElem? (i := 5) rfl))) Via.refl e0 (pin_S0 P) (g := (mkF m 4 #[.val (.int (0 : Int32))] [])) rfl (hb hby d1_4)
  refine own_step (W' := T1.setTop (mkF m 7 #[.val (.int (0 : Int32))] [(.ref (w 0))])) (fun _ k => st1 _ k) ?_
  exact own_ret X1 Bd.notSynchronized Bd.returns (v := (.ref (w 0))) (fun fs hr => retOut X1 hx Bd.returns rfl (Or.inr (Or.inr (Or.inr (Or.inr ⟨rfl, rfl, rfl⟩)))) (hb hby d1_7) hr) ⟨rfl, N0, e1⟩ (by decide) (by decide)
set_option maxRecDepth 65536 in
set_option maxHeartbeats 40000000 in
theorem rm2_w0 (l : Launch) (Z : State) (a0 : Array Value) (hw : ∀ d ∈ tables_1, d.before a0 Z = true) (ws : List Jvm.Cond) (w : Nat → Addr) (h0 : Heap) (n0 : Nat) (Z0 : n0 ≤ h0.size) (P : Pins Z h0 w) :
    MetFree l (⟨"com/example/punctual_proof/punctualproof/network/BinaryOperator", "isComparison", "()Z"⟩ : MethodName) (head1 (Jvm.Cond.code (⟨"com/example/punctual_proof/punctualproof/network/BinaryOperator", "isComparison", "()Z"⟩ : MethodName) prog_59_method_8_code 1 (some .boolean) :: ws) ({ frames := 0, cells := 0, slots := 0, locals := 0 } : Room)) (fun a U => a = #[(.ref (w 0))] ∧ Z.Warmed39 U.vm ∧ U.heap = h0) (fun _ _ _ _ _ => True) (fun _ U o U' => ∃ v L, o = .returned v ∧ own_QK (some (.int (0 : Int32))) h0 n0 v U'.heap L ∧ FrameEnd U o U' L ({ frames := 0, cells := 0, slots := 0, locals := 0 } : Room).cells ({ frames := 0, cells := 0, slots := 0, locals := 0 } : Room).slots) := by
  refine MetFree.of_bodySF (plainFor_of_name pn_com_example_punctual_proof_punctualproof_network_BinaryOperator) hisR ?_
  intro p e s m args below meth c s₁ Bd hml0 hP hK
  obtain ⟨rfl, hZ, hh⟩ := hP
  have hx := Bd.exec
  have hby := Bd.bytes
  have hml : c.maxLocals = 1 := hml0
  have hown : s.vm.findClass "com/example/punctual_proof/punctualproof/network/BinaryOperator" = some m.cls := findClass_of_methodNamed Bd.named
  have hnm := (name_of_methodNamed Bd.named Bd.method).1
  have X0 : Stand p l e ({ frames := 0, cells := 0, slots := 0, locals := 0 } : Room) s m #[(.ref (w 0))] below meth c s₁ [] 0 0 := Stand.of_body Bd
  have e0 : s₁.heap = h0 := by rw [← hh, Bd.state]; rfl
  have N0 := Fr.nil n0
  refine own_enter (ef_2_R m (w 0)) ?_
  refine own_step (W' := s₁.setTop (mkF m 1 #[.val (.ref (w 0))] [(.ref (w 0))])) (fun _ k => XS.aloadN X0.here hx rfl (hb hby d2_0) rfl rfl k) ?_
  obtain ⟨T1, X1, e1, st1⟩ := getF X0 hx hZ hown (host := "") (Or.inl (hw _ (List.mem_of_getElem? (i := 13) rfl))) Via.refl e0 (pin_F0_precedence P) (g := (mkF m 1 #[.val (.ref (w 0))] [(.ref (w 0))])) rfl rfl (hb hby d2_1)
  refine own_step (W' := T1.setTop (mkF m 4 #[.val (.ref (w 0))] [(.int (1 : Int32))])) (fun _ k => st1 _ k) ?_
  refine own_step (W' := T1.setTop (mkF m 5 #[.val (.ref (w 0))] [(.int (5 : Int32)), (.int (1 : Int32))])) (fun _ k => XS.iconst X1.here hx rfl (hb hby d2_4) k) ?_
  refine own_step (W' := T1.setTop (mkF m 12 #[.val (.ref (w 0))] [])) (fun _ k => XS.icmpYes X1.here hx rfl (pc0 := 5) (pc' := 12) rfl (hb hby d2_5) rfl (by decide) (by decide) (by decide) k) ?_
  refine own_step (W' := T1.setTop (mkF m 13 #[.val (.ref (w 0))] [(.int (0 : Int32))])) (fun _ k => XS.iconst X1.here hx rfl (hb hby d2_12) k) ?_
  exact own_ret X1 Bd.notSynchronized Bd.returns (v := (.int (0 : Int32))) (fun fs hr => retN X1 hx (t := .boolean) Bd.returns (by simp) (hb hby d2_13) hr) ⟨rfl, N0, e1⟩ (by decide) (by decide)
set_option maxRecDepth 65536 in
set_option maxHeartbeats 40000000 in
theorem rm0_0 (l : Launch) (Z : State) (a0 : Array Value) (hw : ∀ d ∈ tables_1, d.before a0 Z = true) (ws : List Jvm.Cond) (p1 : Int32) (hk : ((p1 &&& (2147483647 : Int32)) % (14 : Int32)) = (0 : Int32)) (w : Nat → Addr) (h0 : Heap) (n0 : Nat) (Z0 : n0 ≤ h0.size) (P : Pins Z h0 w) :
    MetFree l x (head1 (Jvm.Cond.code x code maxLocals ret :: ws) room_1) (fun a U => a = #[(.int p1)] ∧ Z.Warmed39 U.vm ∧ U.heap = h0) (fun _ _ _ _ _ => True) (fun _ U o U' => ∃ v L, o = .returned v ∧ own_Q0 n0 v U'.heap L ∧ FrameEnd U o U' L room_1.cells room_1.slots) := by
  refine MetFree.of_bodySF (plainFor_of_name pn_com_example_punctual_proof_punctualproof_network_BinaryOperatorIsComparisonPinLaw) hisR ?_
  intro p e s m args below meth c s₁ Bd hml0 hP hK
  obtain ⟨rfl, hZ, hh⟩ := hP
  have hx := Bd.exec
  have hby := Bd.bytes
  have hml : c.maxLocals = 4 := hml0
  have hown : s.vm.findClass "com/example/punctual_proof/punctualproof/network/BinaryOperatorIsComparisonPinLaw" = some m.cls := findClass_of_methodNamed Bd.named
  have hnm := (name_of_methodNamed Bd.named Bd.method).1
  have X0 : Stand p l e room_1 s m #[(.int p1)] below meth c s₁ [] 0 0 := Stand.of_body Bd
  have e0 : s₁.heap = h0 := by rw [← hh, Bd.state]; rfl
  have N0 := Fr.nil n0
  refine own_enter (ef_0_I m p1) ?_
  refine own_step (W' := s₁.setTop (mkF m 1 #[.val (.int p1), .unset, .unset, .unset] [(.int p1)])) (fun _ k => XS.iloadN X0.here hx rfl (hb hby at_0) rfl k) ?_
  refine own_step (W' := s₁.setTop (mkF m 3 #[.val (.int p1), .unset, .unset, .unset] [(.int (2147483647 : Int32)), (.int p1)])) (fun _ k => X0.ldcInt hx hown (mvT hZ (hw _ (List.mem_of_getElem? (i := 0) rfl))) (g := (mkF m 1 #[.val (.int p1), .unset, .unset, .unset] [(.int p1)])) rfl (hb hby at_1) _ k) ?_
  refine own_step (W' := s₁.setTop (mkF m 4 #[.val (.int p1), .unset, .unset, .unset] [(.int (p1 &&& (2147483647 : Int32)))])) (fun _ k => XS.iand X0.here hx rfl (hb hby at_3) rfl k) ?_
  refine own_step (W' := s₁.setTop (mkF m 6 #[.val (.int p1), .unset, .unset, .unset] [(.int (14 : Int32)), (.int (p1 &&& (2147483647 : Int32)))])) (fun _ k => XS.bipush X0.here hx rfl (hb hby at_4) k) ?_
  refine own_step (W' := s₁.setTop (mkF m 7 #[.val (.int p1), .unset, .unset, .unset] [(.int ((p1 &&& (2147483647 : Int32)) % (14 : Int32)))])) (fun _ k => iremM X0 hx rfl (hb hby at_6) rfl (by decide) k) ?_
  rw [hk]
  refine own_step (W' := s₁.setTop (mkF m 8 #[.val (.int p1), .val (.int (0 : Int32)), .unset, .unset] [])) (fun _ k => XS.istoreN X0.here hx rfl (hb hby at_7) rfl (l' := #[.val (.int p1), .val (.int (0 : Int32)), .unset, .unset]) rfl k) ?_
  refine own_step (W' := s₁.setTop (mkF m 9 #[.val (.int p1), .val (.int (0 : Int32)), .unset, .unset] [(.int (0 : Int32))])) (fun _ k => XS.iloadN X0.here hx rfl (hb hby at_8) rfl k) ?_
  obtain ⟨_, _, ⟨T1, L1, k1, n1⟩, -, X1, ⟨Lc1, hQ1, l1, y1, z1⟩, st1⟩ := Jvm.LawKit.callS X0 hx (y := (⟨"com/example/punctual_proof/punctualproof/network/BinaryOperatorIsComparisonPinLaw", "pick", "(I)Lcom/example/punctual_proof/punctualproof/network/BinaryOperator;"⟩ : MethodName)) hown (mvT hZ (hw _ (List.mem_of_getElem? (i := 1) rfl))) (mvT hZ (hw _ (List.mem_of_getElem? (i := 2) rfl))) (mvT hZ (hw _ (List.mem_of_getElem? (i := 3) rfl))) (mvT hZ (hw _ (List.mem_of_getElem? (i := 4) rfl))) (by decide) (backOf (W := 0) (rm1_0 l Z a0 hw [] w h0 n0 Z0 P) hZ (hw _ (List.mem_of_getElem? (i := 4) rfl)) (hw _ (List.mem_of_getElem? (i := 3) rfl)) (by decide) (by decide)) (g := (mkF m 9 #[.val (.int p1), .val (.int (0 : Int32)), .unset, .unset] [(.int (0 : Int32))])) rfl (by rw [hml]; rfl) (argsL := [(.int (0 : Int32))]) (rest := []) (lenOf pd_0 rfl) rfl (by show 2 * 0 + _ ≤ _; exact Nat.le_of_eq rfl) (hb hby at_9) (fun _ _ => ⟨rfl, e0, (by decide : 0 + 0 ≤ _), (by decide : 0 + 0 ≤ _)⟩)
  dsimp only [Pt.U, Pt.locs, Pt.cells, Pt.slots] at X1 l1 y1 z1 st1 hQ1
  subst l1 y1 z1
  obtain ⟨rfl, N1q, e1⟩ := hQ1
  have N1 := Fr.app N0 N1q
  refine own_step (W' := T1.setTop (mkF m 12 #[.val (.int p1), .val (.int (0 : Int32)), .unset, .unset] [(.ref (w 0))])) (fun _ k => st1 _ k) ?_
  refine own_step (W' := T1.setTop (mkF m 13 #[.val (.int p1), .val (.int (0 : Int32)), .val (.ref (w 0)), .unset] [])) (fun _ k => XS.astoreN X1.here hx rfl (hb hby at_12) rfl rfl (l' := #[.val (.int p1), .val (.int (0 : Int32)), .val (.ref (w 0)), .unset]) rfl k) ?_
  refine own_step (W' := T1.setTop (mkF m 14 #[.val (.int p1), .val (.int (0 : Int32)), .val (.ref (w 0)), .unset] [(.int (0 : Int32))])) (fun _ k => XS.iloadN X1.here hx rfl (hb hby at_13) rfl k) ?_
  refine own_step (W' := T1.setTop (mkF m 15 #[.val (.int p1), .val (.int (0 : Int32)), .val (.ref (w 0)), .unset] [(.int (3 : Int32)), (.int (0 : Int32))])) (fun _ k => XS.iconst X1.here hx rfl (hb hby at_14) k) ?_
  refine own_step (W' := T1.setTop (mkF m 18 #[.val (.int p1), .val (.int (0 : Int32)), .val (.ref (w 0)), .unset] [])) (fun _ k => XS.icmpNo X1.here hx rfl (hb hby at_15) rfl (by decide) k) ?_
  refine own_step (W' := T1.setTop (mkF m 19 #[.val (.int p1), .val (.int (0 : Int32)), .val (.ref (w 0)), .unset] [(.int (0 : Int32))])) (fun _ k => XS.iloadN X1.here hx rfl (hb hby at_18) rfl k) ?_
  refine own_step (W' := T1.setTop (mkF m 20 #[.val (.int p1), .val (.int (0 : Int32)), .val (.ref (w 0)), .unset] [(.int (4 : Int32)), (.int (0 : Int32))])) (fun _ k => XS.iconst X1.here hx rfl (hb hby at_19) k) ?_
  refine own_step (W' := T1.setTop (mkF m 23 #[.val (.int p1), .val (.int (0 : Int32)), .val (.ref (w 0)), .unset] [])) (fun _ k => XS.icmpNo X1.here hx rfl (hb hby at_20) rfl (by decide) k) ?_
  refine own_step (W' := T1.setTop (mkF m 24 #[.val (.int p1), .val (.int (0 : Int32)), .val (.ref (w 0)), .unset] [(.int (0 : Int32))])) (fun _ k => XS.iloadN X1.here hx rfl (hb hby at_23) rfl k) ?_
  refine own_step (W' := T1.setTop (mkF m 25 #[.val (.int p1), .val (.int (0 : Int32)), .val (.ref (w 0)), .unset] [(.int (5 : Int32)), (.int (0 : Int32))])) (fun _ k => XS.iconst X1.here hx rfl (hb hby at_24) k) ?_
  refine own_step (W' := T1.setTop (mkF m 28 #[.val (.int p1), .val (.int (0 : Int32)), .val (.ref (w 0)), .unset] [])) (fun _ k => XS.icmpNo X1.here hx rfl (hb hby at_25) rfl (by decide) k) ?_
  refine own_step (W' := T1.setTop (mkF m 29 #[.val (.int p1), .val (.int (0 : Int32)), .val (.ref (w 0)), .unset] [(.int (0 : Int32))])) (fun _ k => XS.iloadN X1.here hx rfl (hb hby at_28) rfl k) ?_
  refine own_step (W' := T1.setTop (mkF m 31 #[.val (.int p1), .val (.int (0 : Int32)), .val (.ref (w 0)), .unset] [(.int (6 : Int32)), (.int (0 : Int32))])) (fun _ k => XS.bipush X1.here hx rfl (hb hby at_29) k) ?_
  refine own_step (W' := T1.setTop (mkF m 34 #[.val (.int p1), .val (.int (0 : Int32)), .val (.ref (w 0)), .unset] [])) (fun _ k => XS.icmpNo X1.here hx rfl (hb hby at_31) rfl (by decide) k) ?_
  refine own_step (W' := T1.setTop (mkF m 35 #[.val (.int p1), .val (.int (0 : Int32)), .val (.ref (w 0)), .unset] [(.int (0 : Int32))])) (fun _ k => XS.iloadN X1.here hx rfl (hb hby at_34) rfl k) ?_
  refine own_step (W' := T1.setTop (mkF m 37 #[.val (.int p1), .val (.int (0 : Int32)), .val (.ref (w 0)), .unset] [(.int (7 : Int32)), (.int (0 : Int32))])) (fun _ k => XS.bipush X1.here hx rfl (hb hby at_35) k) ?_
  refine own_step (W' := T1.setTop (mkF m 40 #[.val (.int p1), .val (.int (0 : Int32)), .val (.ref (w 0)), .unset] [])) (fun _ k => XS.icmpNo X1.here hx rfl (hb hby at_37) rfl (by decide) k) ?_
  refine own_step (W' := T1.setTop (mkF m 41 #[.val (.int p1), .val (.int (0 : Int32)), .val (.ref (w 0)), .unset] [(.int (0 : Int32))])) (fun _ k => XS.iloadN X1.here hx rfl (hb hby at_40) rfl k) ?_
  refine own_step (W' := T1.setTop (mkF m 43 #[.val (.int p1), .val (.int (0 : Int32)), .val (.ref (w 0)), .unset] [(.int (8 : Int32)), (.int (0 : Int32))])) (fun _ k => XS.bipush X1.here hx rfl (hb hby at_41) k) ?_
  refine own_step (W' := T1.setTop (mkF m 50 #[.val (.int p1), .val (.int (0 : Int32)), .val (.ref (w 0)), .unset] [])) (fun _ k => XS.icmpYes X1.here hx rfl (pc0 := 43) (pc' := 50) rfl (hb hby at_43) rfl (by decide) (by decide) (by decide) k) ?_
  refine own_step (W' := T1.setTop (mkF m 51 #[.val (.int p1), .val (.int (0 : Int32)), .val (.ref (w 0)), .unset] [(.int (0 : Int32))])) (fun _ k => XS.iconst X1.here hx rfl (hb hby at_50) k) ?_
  refine own_step (W' := T1.setTop (mkF m 52 #[.val (.int p1), .val (.int (0 : Int32)), .val (.ref (w 0)), .val (.int (0 : Int32))] [])) (fun _ k => XS.istoreN X1.here hx rfl (hb hby at_51) rfl (l' := #[.val (.int p1), .val (.int (0 : Int32)), .val (.ref (w 0)), .val (.int (0 : Int32))]) rfl k) ?_
  refine own_step (W' := T1.setTop (mkF m 53 #[.val (.int p1), .val (.int (0 : Int32)), .val (.ref (w 0)), .val (.int (0 : Int32))] [(.ref (w 0))])) (fun _ k => XS.aloadN X1.here hx rfl (hb hby at_52) rfl rfl k) ?_
  obtain ⟨cq2, kq2, q2a, q2b, q2c⟩ := isOf hZ e1 (pin_E0 P)
  obtain ⟨_, _, ⟨T2, L2, k2, n2⟩, -, X2, ⟨Lc2, hQ2, l2, y2, z2⟩, st2⟩ := X1.virtualBack hx (y := (⟨"com/example/punctual_proof/punctualproof/network/BinaryOperator", "isComparison", "()Z"⟩ : MethodName)) (z := (⟨"com/example/punctual_proof/punctualproof/network/BinaryOperator", "isComparison", "()Z"⟩ : MethodName)) hown (mvT hZ (hw _ (List.mem_of_getElem? (i := 8) rfl))) (mvT hZ (hw _ (List.mem_of_getElem? (i := 9) rfl))) (notFace_of_selects (args := #[]) (mvT hZ (hw _ (List.mem_of_getElem? (i := 11) rfl)))) (mvT hZ (hw _ (List.mem_of_getElem? (i := 11) rfl))) (mvT hZ (hw _ (List.mem_of_getElem? (i := 10) rfl))) (by decide) (backOf (W := 0) (rm2_w0 l Z a0 hw [] w h0 n0 Z0 P) hZ (hw _ (List.mem_of_getElem? (i := 12) rfl)) (hw _ (List.mem_of_getElem? (i := 6) rfl)) (by decide) (by decide)) q2a q2c (g := (mkF m 53 #[.val (.int p1), .val (.int (0 : Int32)), .val (.ref (w 0)), .val (.int (0 : Int32))] [(.ref (w 0))])) rfl (by rw [hml]; rfl) (Steps.refl _) (argsL := []) (rest := []) (lenOf pd_1 rfl) rfl (by show 2 * 0 + _ ≤ _; exact Nat.le_of_eq rfl) (hb hby at_53) (fun _ _ => ⟨rfl, e1, (by decide : 0 + 0 ≤ _), (by decide : 0 + 0 ≤ _)⟩)
  dsimp only [Pt.U, Pt.locs, Pt.cells, Pt.slots] at X2 l2 y2 z2 st2 hQ2
  subst l2 y2 z2
  obtain ⟨rfl, N2q, e2⟩ := hQ2
  have N2 := Fr.app N1 N2q
  refine own_step (W' := T2.setTop (mkF m 56 #[.val (.int p1), .val (.int (0 : Int32)), .val (.ref (w 0)), .val (.int (0 : Int32))] [(.int (0 : Int32))])) (fun _ k => st2.trans k) ?_
  refine own_step (W' := T2.setTop (mkF m 57 #[.val (.int p1), .val (.int (0 : Int32)), .val (.ref (w 0)), .val (.int (0 : Int32))] [(.int (0 : Int32)), (.int (0 : Int32))])) (fun _ k => XS.iloadN X2.here hx rfl (hb hby at_56) rfl k) ?_
  refine own_step (W' := T2.setTop (mkF m 60 #[.val (.int p1), .val (.int (0 : Int32)), .val (.ref (w 0)), .val (.int (0 : Int32))] [])) (fun _ k => XS.icmpNo X2.here hx rfl (hb hby at_57) rfl (by decide) k) ?_
  refine own_step (W' := T2.setTop (mkF m 61 #[.val (.int p1), .val (.int (0 : Int32)), .val (.ref (w 0)), .val (.int (0 : Int32))] [(.int (1 : Int32))])) (fun _ k => XS.iconst X2.here hx rfl (hb hby at_60) k) ?_
  refine own_step (W' := T2.setTop (mkF m 65 #[.val (.int p1), .val (.int (0 : Int32)), .val (.ref (w 0)), .val (.int (0 : Int32))] [(.int (1 : Int32))])) (fun _ k => XS.goto X2.here hx rfl (pc0 := 61) (pc' := 65) rfl (hb hby at_61) (by decide) (by decide) k) ?_
  exact own_ret X2 Bd.notSynchronized Bd.returns (v := (.int (1 : Int32))) (fun fs hr => retN X2 hx (t := .boolean) Bd.returns (by simp) (hb hby at_65) hr) ⟨rfl, N2⟩ (by decide) (by decide)
set_option maxRecDepth 65536 in
set_option maxHeartbeats 40000000 in
theorem rm1_1 (l : Launch) (Z : State) (a0 : Array Value) (hw : ∀ d ∈ tables_1, d.before a0 Z = true) (ws : List Jvm.Cond) (w : Nat → Addr) (h0 : Heap) (n0 : Nat) (Z0 : n0 ≤ h0.size) (P : Pins Z h0 w) :
    MetFree l (⟨"com/example/punctual_proof/punctualproof/network/BinaryOperatorIsComparisonPinLaw", "pick", "(I)Lcom/example/punctual_proof/punctualproof/network/BinaryOperator;"⟩ : MethodName) (head1 (Jvm.Cond.code (⟨"com/example/punctual_proof/punctualproof/network/BinaryOperatorIsComparisonPinLaw", "pick", "(I)Lcom/example/punctual_proof/punctualproof/network/BinaryOperator;"⟩ : MethodName) method_3_code 1 (some (.object "com/example/punctual_proof/punctualproof/network/BinaryOperator")) :: ws) ({ frames := 0, cells := 0, slots := 0, locals := 0 } : Room)) (fun a U => a = #[(.int (1 : Int32))] ∧ Z.Warmed39 U.vm ∧ U.heap = h0) (fun _ _ _ _ _ => True) (fun _ U o U' => ∃ v L, o = .returned v ∧ own_QK (some (.ref (w 10))) h0 n0 v U'.heap L ∧ FrameEnd U o U' L ({ frames := 0, cells := 0, slots := 0, locals := 0 } : Room).cells ({ frames := 0, cells := 0, slots := 0, locals := 0 } : Room).slots) := by
  refine MetFree.of_bodySF (plainFor_of_name pn_com_example_punctual_proof_punctualproof_network_BinaryOperatorIsComparisonPinLaw) hisR ?_
  intro p e s m args below meth c s₁ Bd hml0 hP hK
  obtain ⟨rfl, hZ, hh⟩ := hP
  have hx := Bd.exec
  have hby := Bd.bytes
  have hml : c.maxLocals = 1 := hml0
  have hown : s.vm.findClass "com/example/punctual_proof/punctualproof/network/BinaryOperatorIsComparisonPinLaw" = some m.cls := findClass_of_methodNamed Bd.named
  have hnm := (name_of_methodNamed Bd.named Bd.method).1
  have X0 : Stand p l e ({ frames := 0, cells := 0, slots := 0, locals := 0 } : Room) s m #[(.int (1 : Int32))] below meth c s₁ [] 0 0 := Stand.of_body Bd
  have e0 : s₁.heap = h0 := by rw [← hh, Bd.state]; rfl
  have N0 := Fr.nil n0
  refine own_enter (ef_1_I m (1 : Int32)) ?_
  refine own_step (W' := s₁.setTop (mkF m 1 #[.val (.int (1 : Int32))] [(.int (1 : Int32))])) (fun _ k => XS.iloadN X0.here hx rfl (hb hby d1_0) rfl k) ?_
  refine own_step (W' := s₁.setTop (mkF m 8 #[.val (.int (1 : Int32))] [])) (fun _ k => XS.ifYes X0.here hx rfl (pc0 := 1) (pc' := 8) rfl (hb hby d1_1) rfl (by decide) (by decide) (by decide) k) ?_
  refine own_step (W' := s₁.setTop (mkF m 9 #[.val (.int (1 : Int32))] [(.int (1 : Int32))])) (fun _ k => XS.iloadN X0.here hx rfl (hb hby d1_8) rfl k) ?_
  refine own_step (W' := s₁.setTop (mkF m 10 #[.val (.int (1 : Int32))] [(.int (1 : Int32)), (.int (1 : Int32))])) (fun _ k => XS.iconst X0.here hx rfl (hb hby d1_9) k) ?_
  refine own_step (W' := s₁.setTop (mkF m 13 #[.val (.int (1 : Int32))] [])) (fun _ k => XS.icmpNo X0.here hx rfl (hb hby d1_10) rfl (by decide) k) ?_
  obtain ⟨T1, X1, e1, st1⟩ := getS2 X0 hx hZ hown (host := "") (Or.inl (hw _ (List.mem_of_getElem? (i := 33) rfl))) Via.refl e0 (pin_S10 P) (g := (mkF m 13 #[.val (.int (1 : Int32))] [])) rfl (hb hby d1_13)
  refine own_step (W' := T1.setTop (mkF m 16 #[.val (.int (1 : Int32))] [(.ref (w 10))])) (fun _ k => st1 _ k) ?_
  exact own_ret X1 Bd.notSynchronized Bd.returns (v := (.ref (w 10))) (fun fs hr => retOut X1 hx Bd.returns rfl (Or.inr (Or.inr (Or.inr (Or.inr ⟨rfl, rfl, rfl⟩)))) (hb hby d1_16) hr) ⟨rfl, N0, e1⟩ (by decide) (by decide)
set_option maxRecDepth 65536 in
set_option maxHeartbeats 40000000 in
theorem rm2_w10 (l : Launch) (Z : State) (a0 : Array Value) (hw : ∀ d ∈ tables_1, d.before a0 Z = true) (ws : List Jvm.Cond) (w : Nat → Addr) (h0 : Heap) (n0 : Nat) (Z0 : n0 ≤ h0.size) (P : Pins Z h0 w) :
    MetFree l (⟨"com/example/punctual_proof/punctualproof/network/BinaryOperator", "isComparison", "()Z"⟩ : MethodName) (head1 (Jvm.Cond.code (⟨"com/example/punctual_proof/punctualproof/network/BinaryOperator", "isComparison", "()Z"⟩ : MethodName) prog_59_method_8_code 1 (some .boolean) :: ws) ({ frames := 0, cells := 0, slots := 0, locals := 0 } : Room)) (fun a U => a = #[(.ref (w 10))] ∧ Z.Warmed39 U.vm ∧ U.heap = h0) (fun _ _ _ _ _ => True) (fun _ U o U' => ∃ v L, o = .returned v ∧ own_QK (some (.int (0 : Int32))) h0 n0 v U'.heap L ∧ FrameEnd U o U' L ({ frames := 0, cells := 0, slots := 0, locals := 0 } : Room).cells ({ frames := 0, cells := 0, slots := 0, locals := 0 } : Room).slots) := by
  refine MetFree.of_bodySF (plainFor_of_name pn_com_example_punctual_proof_punctualproof_network_BinaryOperator) hisR ?_
  intro p e s m args below meth c s₁ Bd hml0 hP hK
  obtain ⟨rfl, hZ, hh⟩ := hP
  have hx := Bd.exec
  have hby := Bd.bytes
  have hml : c.maxLocals = 1 := hml0
  have hown : s.vm.findClass "com/example/punctual_proof/punctualproof/network/BinaryOperator" = some m.cls := findClass_of_methodNamed Bd.named
  have hnm := (name_of_methodNamed Bd.named Bd.method).1
  have X0 : Stand p l e ({ frames := 0, cells := 0, slots := 0, locals := 0 } : Room) s m #[(.ref (w 10))] below meth c s₁ [] 0 0 := Stand.of_body Bd
  have e0 : s₁.heap = h0 := by rw [← hh, Bd.state]; rfl
  have N0 := Fr.nil n0
  refine own_enter (ef_2_R m (w 10)) ?_
  refine own_step (W' := s₁.setTop (mkF m 1 #[.val (.ref (w 10))] [(.ref (w 10))])) (fun _ k => XS.aloadN X0.here hx rfl (hb hby d2_0) rfl rfl k) ?_
  obtain ⟨T1, X1, e1, st1⟩ := getF X0 hx hZ hown (host := "") (Or.inl (hw _ (List.mem_of_getElem? (i := 13) rfl))) Via.refl e0 (pin_F10_precedence P) (g := (mkF m 1 #[.val (.ref (w 10))] [(.ref (w 10))])) rfl rfl (hb hby d2_1)
  refine own_step (W' := T1.setTop (mkF m 4 #[.val (.ref (w 10))] [(.int (2 : Int32))])) (fun _ k => st1 _ k) ?_
  refine own_step (W' := T1.setTop (mkF m 5 #[.val (.ref (w 10))] [(.int (5 : Int32)), (.int (2 : Int32))])) (fun _ k => XS.iconst X1.here hx rfl (hb hby d2_4) k) ?_
  refine own_step (W' := T1.setTop (mkF m 12 #[.val (.ref (w 10))] [])) (fun _ k => XS.icmpYes X1.here hx rfl (pc0 := 5) (pc' := 12) rfl (hb hby d2_5) rfl (by decide) (by decide) (by decide) k) ?_
  refine own_step (W' := T1.setTop (mkF m 13 #[.val (.ref (w 10))] [(.int (0 : Int32))])) (fun _ k => XS.iconst X1.here hx rfl (hb hby d2_12) k) ?_
  exact own_ret X1 Bd.notSynchronized Bd.returns (v := (.int (0 : Int32))) (fun fs hr => retN X1 hx (t := .boolean) Bd.returns (by simp) (hb hby d2_13) hr) ⟨rfl, N0, e1⟩ (by decide) (by decide)
set_option maxRecDepth 65536 in
set_option maxHeartbeats 40000000 in
theorem rm0_1 (l : Launch) (Z : State) (a0 : Array Value) (hw : ∀ d ∈ tables_1, d.before a0 Z = true) (ws : List Jvm.Cond) (p1 : Int32) (hk : ((p1 &&& (2147483647 : Int32)) % (14 : Int32)) = (1 : Int32)) (w : Nat → Addr) (h0 : Heap) (n0 : Nat) (Z0 : n0 ≤ h0.size) (P : Pins Z h0 w) :
    MetFree l x (head1 (Jvm.Cond.code x code maxLocals ret :: ws) room_1) (fun a U => a = #[(.int p1)] ∧ Z.Warmed39 U.vm ∧ U.heap = h0) (fun _ _ _ _ _ => True) (fun _ U o U' => ∃ v L, o = .returned v ∧ own_Q0 n0 v U'.heap L ∧ FrameEnd U o U' L room_1.cells room_1.slots) := by
  refine MetFree.of_bodySF (plainFor_of_name pn_com_example_punctual_proof_punctualproof_network_BinaryOperatorIsComparisonPinLaw) hisR ?_
  intro p e s m args below meth c s₁ Bd hml0 hP hK
  obtain ⟨rfl, hZ, hh⟩ := hP
  have hx := Bd.exec
  have hby := Bd.bytes
  have hml : c.maxLocals = 4 := hml0
  have hown : s.vm.findClass "com/example/punctual_proof/punctualproof/network/BinaryOperatorIsComparisonPinLaw" = some m.cls := findClass_of_methodNamed Bd.named
  have hnm := (name_of_methodNamed Bd.named Bd.method).1
  have X0 : Stand p l e room_1 s m #[(.int p1)] below meth c s₁ [] 0 0 := Stand.of_body Bd
  have e0 : s₁.heap = h0 := by rw [← hh, Bd.state]; rfl
  have N0 := Fr.nil n0
  refine own_enter (ef_0_I m p1) ?_
  refine own_step (W' := s₁.setTop (mkF m 1 #[.val (.int p1), .unset, .unset, .unset] [(.int p1)])) (fun _ k => XS.iloadN X0.here hx rfl (hb hby at_0) rfl k) ?_
  refine own_step (W' := s₁.setTop (mkF m 3 #[.val (.int p1), .unset, .unset, .unset] [(.int (2147483647 : Int32)), (.int p1)])) (fun _ k => X0.ldcInt hx hown (mvT hZ (hw _ (List.mem_of_getElem? (i := 0) rfl))) (g := (mkF m 1 #[.val (.int p1), .unset, .unset, .unset] [(.int p1)])) rfl (hb hby at_1) _ k) ?_
  refine own_step (W' := s₁.setTop (mkF m 4 #[.val (.int p1), .unset, .unset, .unset] [(.int (p1 &&& (2147483647 : Int32)))])) (fun _ k => XS.iand X0.here hx rfl (hb hby at_3) rfl k) ?_
  refine own_step (W' := s₁.setTop (mkF m 6 #[.val (.int p1), .unset, .unset, .unset] [(.int (14 : Int32)), (.int (p1 &&& (2147483647 : Int32)))])) (fun _ k => XS.bipush X0.here hx rfl (hb hby at_4) k) ?_
  refine own_step (W' := s₁.setTop (mkF m 7 #[.val (.int p1), .unset, .unset, .unset] [(.int ((p1 &&& (2147483647 : Int32)) % (14 : Int32)))])) (fun _ k => iremM X0 hx rfl (hb hby at_6) rfl (by decide) k) ?_
  rw [hk]
  refine own_step (W' := s₁.setTop (mkF m 8 #[.val (.int p1), .val (.int (1 : Int32)), .unset, .unset] [])) (fun _ k => XS.istoreN X0.here hx rfl (hb hby at_7) rfl (l' := #[.val (.int p1), .val (.int (1 : Int32)), .unset, .unset]) rfl k) ?_
  refine own_step (W' := s₁.setTop (mkF m 9 #[.val (.int p1), .val (.int (1 : Int32)), .unset, .unset] [(.int (1 : Int32))])) (fun _ k => XS.iloadN X0.here hx rfl (hb hby at_8) rfl k) ?_
  obtain ⟨_, _, ⟨T1, L1, k1, n1⟩, -, X1, ⟨Lc1, hQ1, l1, y1, z1⟩, st1⟩ := Jvm.LawKit.callS X0 hx (y := (⟨"com/example/punctual_proof/punctualproof/network/BinaryOperatorIsComparisonPinLaw", "pick", "(I)Lcom/example/punctual_proof/punctualproof/network/BinaryOperator;"⟩ : MethodName)) hown (mvT hZ (hw _ (List.mem_of_getElem? (i := 1) rfl))) (mvT hZ (hw _ (List.mem_of_getElem? (i := 2) rfl))) (mvT hZ (hw _ (List.mem_of_getElem? (i := 3) rfl))) (mvT hZ (hw _ (List.mem_of_getElem? (i := 4) rfl))) (by decide) (backOf (W := 0) (rm1_1 l Z a0 hw [] w h0 n0 Z0 P) hZ (hw _ (List.mem_of_getElem? (i := 4) rfl)) (hw _ (List.mem_of_getElem? (i := 3) rfl)) (by decide) (by decide)) (g := (mkF m 9 #[.val (.int p1), .val (.int (1 : Int32)), .unset, .unset] [(.int (1 : Int32))])) rfl (by rw [hml]; rfl) (argsL := [(.int (1 : Int32))]) (rest := []) (lenOf pd_0 rfl) rfl (by show 2 * 0 + _ ≤ _; exact Nat.le_of_eq rfl) (hb hby at_9) (fun _ _ => ⟨rfl, e0, (by decide : 0 + 0 ≤ _), (by decide : 0 + 0 ≤ _)⟩)
  dsimp only [Pt.U, Pt.locs, Pt.cells, Pt.slots] at X1 l1 y1 z1 st1 hQ1
  subst l1 y1 z1
  obtain ⟨rfl, N1q, e1⟩ := hQ1
  have N1 := Fr.app N0 N1q
  refine own_step (W' := T1.setTop (mkF m 12 #[.val (.int p1), .val (.int (1 : Int32)), .unset, .unset] [(.ref (w 10))])) (fun _ k => st1 _ k) ?_
  refine own_step (W' := T1.setTop (mkF m 13 #[.val (.int p1), .val (.int (1 : Int32)), .val (.ref (w 10)), .unset] [])) (fun _ k => XS.astoreN X1.here hx rfl (hb hby at_12) rfl rfl (l' := #[.val (.int p1), .val (.int (1 : Int32)), .val (.ref (w 10)), .unset]) rfl k) ?_
  refine own_step (W' := T1.setTop (mkF m 14 #[.val (.int p1), .val (.int (1 : Int32)), .val (.ref (w 10)), .unset] [(.int (1 : Int32))])) (fun _ k => XS.iloadN X1.here hx rfl (hb hby at_13) rfl k) ?_
  refine own_step (W' := T1.setTop (mkF m 15 #[.val (.int p1), .val (.int (1 : Int32)), .val (.ref (w 10)), .unset] [(.int (3 : Int32)), (.int (1 : Int32))])) (fun _ k => XS.iconst X1.here hx rfl (hb hby at_14) k) ?_
  refine own_step (W' := T1.setTop (mkF m 18 #[.val (.int p1), .val (.int (1 : Int32)), .val (.ref (w 10)), .unset] [])) (fun _ k => XS.icmpNo X1.here hx rfl (hb hby at_15) rfl (by decide) k) ?_
  refine own_step (W' := T1.setTop (mkF m 19 #[.val (.int p1), .val (.int (1 : Int32)), .val (.ref (w 10)), .unset] [(.int (1 : Int32))])) (fun _ k => XS.iloadN X1.here hx rfl (hb hby at_18) rfl k) ?_
  refine own_step (W' := T1.setTop (mkF m 20 #[.val (.int p1), .val (.int (1 : Int32)), .val (.ref (w 10)), .unset] [(.int (4 : Int32)), (.int (1 : Int32))])) (fun _ k => XS.iconst X1.here hx rfl (hb hby at_19) k) ?_
  refine own_step (W' := T1.setTop (mkF m 23 #[.val (.int p1), .val (.int (1 : Int32)), .val (.ref (w 10)), .unset] [])) (fun _ k => XS.icmpNo X1.here hx rfl (hb hby at_20) rfl (by decide) k) ?_
  refine own_step (W' := T1.setTop (mkF m 24 #[.val (.int p1), .val (.int (1 : Int32)), .val (.ref (w 10)), .unset] [(.int (1 : Int32))])) (fun _ k => XS.iloadN X1.here hx rfl (hb hby at_23) rfl k) ?_
  refine own_step (W' := T1.setTop (mkF m 25 #[.val (.int p1), .val (.int (1 : Int32)), .val (.ref (w 10)), .unset] [(.int (5 : Int32)), (.int (1 : Int32))])) (fun _ k => XS.iconst X1.here hx rfl (hb hby at_24) k) ?_
  refine own_step (W' := T1.setTop (mkF m 28 #[.val (.int p1), .val (.int (1 : Int32)), .val (.ref (w 10)), .unset] [])) (fun _ k => XS.icmpNo X1.here hx rfl (hb hby at_25) rfl (by decide) k) ?_
  refine own_step (W' := T1.setTop (mkF m 29 #[.val (.int p1), .val (.int (1 : Int32)), .val (.ref (w 10)), .unset] [(.int (1 : Int32))])) (fun _ k => XS.iloadN X1.here hx rfl (hb hby at_28) rfl k) ?_
  refine own_step (W' := T1.setTop (mkF m 31 #[.val (.int p1), .val (.int (1 : Int32)), .val (.ref (w 10)), .unset] [(.int (6 : Int32)), (.int (1 : Int32))])) (fun _ k => XS.bipush X1.here hx rfl (hb hby at_29) k) ?_
  refine own_step (W' := T1.setTop (mkF m 34 #[.val (.int p1), .val (.int (1 : Int32)), .val (.ref (w 10)), .unset] [])) (fun _ k => XS.icmpNo X1.here hx rfl (hb hby at_31) rfl (by decide) k) ?_
  refine own_step (W' := T1.setTop (mkF m 35 #[.val (.int p1), .val (.int (1 : Int32)), .val (.ref (w 10)), .unset] [(.int (1 : Int32))])) (fun _ k => XS.iloadN X1.here hx rfl (hb hby at_34) rfl k) ?_
  refine own_step (W' := T1.setTop (mkF m 37 #[.val (.int p1), .val (.int (1 : Int32)), .val (.ref (w 10)), .unset] [(.int (7 : Int32)), (.int (1 : Int32))])) (fun _ k => XS.bipush X1.here hx rfl (hb hby at_35) k) ?_
  refine own_step (W' := T1.setTop (mkF m 40 #[.val (.int p1), .val (.int (1 : Int32)), .val (.ref (w 10)), .unset] [])) (fun _ k => XS.icmpNo X1.here hx rfl (hb hby at_37) rfl (by decide) k) ?_
  refine own_step (W' := T1.setTop (mkF m 41 #[.val (.int p1), .val (.int (1 : Int32)), .val (.ref (w 10)), .unset] [(.int (1 : Int32))])) (fun _ k => XS.iloadN X1.here hx rfl (hb hby at_40) rfl k) ?_
  refine own_step (W' := T1.setTop (mkF m 43 #[.val (.int p1), .val (.int (1 : Int32)), .val (.ref (w 10)), .unset] [(.int (8 : Int32)), (.int (1 : Int32))])) (fun _ k => XS.bipush X1.here hx rfl (hb hby at_41) k) ?_
  refine own_step (W' := T1.setTop (mkF m 50 #[.val (.int p1), .val (.int (1 : Int32)), .val (.ref (w 10)), .unset] [])) (fun _ k => XS.icmpYes X1.here hx rfl (pc0 := 43) (pc' := 50) rfl (hb hby at_43) rfl (by decide) (by decide) (by decide) k) ?_
  refine own_step (W' := T1.setTop (mkF m 51 #[.val (.int p1), .val (.int (1 : Int32)), .val (.ref (w 10)), .unset] [(.int (0 : Int32))])) (fun _ k => XS.iconst X1.here hx rfl (hb hby at_50) k) ?_
  refine own_step (W' := T1.setTop (mkF m 52 #[.val (.int p1), .val (.int (1 : Int32)), .val (.ref (w 10)), .val (.int (0 : Int32))] [])) (fun _ k => XS.istoreN X1.here hx rfl (hb hby at_51) rfl (l' := #[.val (.int p1), .val (.int (1 : Int32)), .val (.ref (w 10)), .val (.int (0 : Int32))]) rfl k) ?_
  refine own_step (W' := T1.setTop (mkF m 53 #[.val (.int p1), .val (.int (1 : Int32)), .val (.ref (w 10)), .val (.int (0 : Int32))] [(.ref (w 10))])) (fun _ k => XS.aloadN X1.here hx rfl (hb hby at_52) rfl rfl k) ?_
  obtain ⟨cq2, kq2, q2a, q2b, q2c⟩ := isOf hZ e1 (pin_E10 P)
  obtain ⟨_, _, ⟨T2, L2, k2, n2⟩, -, X2, ⟨Lc2, hQ2, l2, y2, z2⟩, st2⟩ := X1.virtualBack hx (y := (⟨"com/example/punctual_proof/punctualproof/network/BinaryOperator", "isComparison", "()Z"⟩ : MethodName)) (z := (⟨"com/example/punctual_proof/punctualproof/network/BinaryOperator", "isComparison", "()Z"⟩ : MethodName)) hown (mvT hZ (hw _ (List.mem_of_getElem? (i := 8) rfl))) (mvT hZ (hw _ (List.mem_of_getElem? (i := 9) rfl))) (notFace_of_selects (args := #[]) (mvT hZ (hw _ (List.mem_of_getElem? (i := 11) rfl)))) (mvT hZ (hw _ (List.mem_of_getElem? (i := 11) rfl))) (mvT hZ (hw _ (List.mem_of_getElem? (i := 10) rfl))) (by decide) (backOf (W := 0) (rm2_w10 l Z a0 hw [] w h0 n0 Z0 P) hZ (hw _ (List.mem_of_getElem? (i := 12) rfl)) (hw _ (List.mem_of_getElem? (i := 6) rfl)) (by decide) (by decide)) q2a q2c (g := (mkF m 53 #[.val (.int p1), .val (.int (1 : Int32)), .val (.ref (w 10)), .val (.int (0 : Int32))] [(.ref (w 10))])) rfl (by rw [hml]; rfl) (Steps.refl _) (argsL := []) (rest := []) (lenOf pd_1 rfl) rfl (by show 2 * 0 + _ ≤ _; exact Nat.le_of_eq rfl) (hb hby at_53) (fun _ _ => ⟨rfl, e1, (by decide : 0 + 0 ≤ _), (by decide : 0 + 0 ≤ _)⟩)
  dsimp only [Pt.U, Pt.locs, Pt.cells, Pt.slots] at X2 l2 y2 z2 st2 hQ2
  subst l2 y2 z2
  obtain ⟨rfl, N2q, e2⟩ := hQ2
  have N2 := Fr.app N1 N2q
  refine own_step (W' := T2.setTop (mkF m 56 #[.val (.int p1), .val (.int (1 : Int32)), .val (.ref (w 10)), .val (.int (0 : Int32))] [(.int (0 : Int32))])) (fun _ k => st2.trans k) ?_
  refine own_step (W' := T2.setTop (mkF m 57 #[.val (.int p1), .val (.int (1 : Int32)), .val (.ref (w 10)), .val (.int (0 : Int32))] [(.int (0 : Int32)), (.int (0 : Int32))])) (fun _ k => XS.iloadN X2.here hx rfl (hb hby at_56) rfl k) ?_
  refine own_step (W' := T2.setTop (mkF m 60 #[.val (.int p1), .val (.int (1 : Int32)), .val (.ref (w 10)), .val (.int (0 : Int32))] [])) (fun _ k => XS.icmpNo X2.here hx rfl (hb hby at_57) rfl (by decide) k) ?_
  refine own_step (W' := T2.setTop (mkF m 61 #[.val (.int p1), .val (.int (1 : Int32)), .val (.ref (w 10)), .val (.int (0 : Int32))] [(.int (1 : Int32))])) (fun _ k => XS.iconst X2.here hx rfl (hb hby at_60) k) ?_
  refine own_step (W' := T2.setTop (mkF m 65 #[.val (.int p1), .val (.int (1 : Int32)), .val (.ref (w 10)), .val (.int (0 : Int32))] [(.int (1 : Int32))])) (fun _ k => XS.goto X2.here hx rfl (pc0 := 61) (pc' := 65) rfl (hb hby at_61) (by decide) (by decide) k) ?_
  exact own_ret X2 Bd.notSynchronized Bd.returns (v := (.int (1 : Int32))) (fun fs hr => retN X2 hx (t := .boolean) Bd.returns (by simp) (hb hby at_65) hr) ⟨rfl, N2⟩ (by decide) (by decide)
set_option maxRecDepth 65536 in
set_option maxHeartbeats 40000000 in
theorem rm1_2 (l : Launch) (Z : State) (a0 : Array Value) (hw : ∀ d ∈ tables_1, d.before a0 Z = true) (ws : List Jvm.Cond) (w : Nat → Addr) (h0 : Heap) (n0 : Nat) (Z0 : n0 ≤ h0.size) (P : Pins Z h0 w) :
    MetFree l (⟨"com/example/punctual_proof/punctualproof/network/BinaryOperatorIsComparisonPinLaw", "pick", "(I)Lcom/example/punctual_proof/punctualproof/network/BinaryOperator;"⟩ : MethodName) (head1 (Jvm.Cond.code (⟨"com/example/punctual_proof/punctualproof/network/BinaryOperatorIsComparisonPinLaw", "pick", "(I)Lcom/example/punctual_proof/punctualproof/network/BinaryOperator;"⟩ : MethodName) method_3_code 1 (some (.object "com/example/punctual_proof/punctualproof/network/BinaryOperator")) :: ws) ({ frames := 0, cells := 0, slots := 0, locals := 0 } : Room)) (fun a U => a = #[(.int (2 : Int32))] ∧ Z.Warmed39 U.vm ∧ U.heap = h0) (fun _ _ _ _ _ => True) (fun _ U o U' => ∃ v L, o = .returned v ∧ own_QK (some (.ref (w 6))) h0 n0 v U'.heap L ∧ FrameEnd U o U' L ({ frames := 0, cells := 0, slots := 0, locals := 0 } : Room).cells ({ frames := 0, cells := 0, slots := 0, locals := 0 } : Room).slots) := by
  refine MetFree.of_bodySF (plainFor_of_name pn_com_example_punctual_proof_punctualproof_network_BinaryOperatorIsComparisonPinLaw) hisR ?_
  intro p e s m args below meth c s₁ Bd hml0 hP hK
  obtain ⟨rfl, hZ, hh⟩ := hP
  have hx := Bd.exec
  have hby := Bd.bytes
  have hml : c.maxLocals = 1 := hml0
  have hown : s.vm.findClass "com/example/punctual_proof/punctualproof/network/BinaryOperatorIsComparisonPinLaw" = some m.cls := findClass_of_methodNamed Bd.named
  have hnm := (name_of_methodNamed Bd.named Bd.method).1
  have X0 : Stand p l e ({ frames := 0, cells := 0, slots := 0, locals := 0 } : Room) s m #[(.int (2 : Int32))] below meth c s₁ [] 0 0 := Stand.of_body Bd
  have e0 : s₁.heap = h0 := by rw [← hh, Bd.state]; rfl
  have N0 := Fr.nil n0
  refine own_enter (ef_1_I m (2 : Int32)) ?_
  refine own_step (W' := s₁.setTop (mkF m 1 #[.val (.int (2 : Int32))] [(.int (2 : Int32))])) (fun _ k => XS.iloadN X0.here hx rfl (hb hby d1_0) rfl k) ?_
  refine own_step (W' := s₁.setTop (mkF m 8 #[.val (.int (2 : Int32))] [])) (fun _ k => XS.ifYes X0.here hx rfl (pc0 := 1) (pc' := 8) rfl (hb hby d1_1) rfl (by decide) (by decide) (by decide) k) ?_
  refine own_step (W' := s₁.setTop (mkF m 9 #[.val (.int (2 : Int32))] [(.int (2 : Int32))])) (fun _ k => XS.iloadN X0.here hx rfl (hb hby d1_8) rfl k) ?_
  refine own_step (W' := s₁.setTop (mkF m 10 #[.val (.int (2 : Int32))] [(.int (1 : Int32)), (.int (2 : Int32))])) (fun _ k => XS.iconst X0.here hx rfl (hb hby d1_9) k) ?_
  refine own_step (W' := s₁.setTop (mkF m 17 #[.val (.int (2 : Int32))] [])) (fun _ k => XS.icmpYes X0.here hx rfl (pc0 := 10) (pc' := 17) rfl (hb hby d1_10) rfl (by decide) (by decide) (by decide) k) ?_
  refine own_step (W' := s₁.setTop (mkF m 18 #[.val (.int (2 : Int32))] [(.int (2 : Int32))])) (fun _ k => XS.iloadN X0.here hx rfl (hb hby d1_17) rfl k) ?_
  refine own_step (W' := s₁.setTop (mkF m 19 #[.val (.int (2 : Int32))] [(.int (2 : Int32)), (.int (2 : Int32))])) (fun _ k => XS.iconst X0.here hx rfl (hb hby d1_18) k) ?_
  refine own_step (W' := s₁.setTop (mkF m 22 #[.val (.int (2 : Int32))] [])) (fun _ k => XS.icmpNo X0.here hx rfl (hb hby d1_19) rfl (by decide) k) ?_
  obtain ⟨T1, X1, e1, st1⟩ := getS2 X0 hx hZ hown (host := "") (Or.inl (hw _ (List.mem_of_getElem? (i := 25) rfl))) Via.refl e0 (pin_S6 P) (g := (mkF m 22 #[.val (.int (2 : Int32))] [])) rfl (hb hby d1_22)
  refine own_step (W' := T1.setTop (mkF m 25 #[.val (.int (2 : Int32))] [(.ref (w 6))])) (fun _ k => st1 _ k) ?_
  exact own_ret X1 Bd.notSynchronized Bd.returns (v := (.ref (w 6))) (fun fs hr => retOut X1 hx Bd.returns rfl (Or.inr (Or.inr (Or.inr (Or.inr ⟨rfl, rfl, rfl⟩)))) (hb hby d1_25) hr) ⟨rfl, N0, e1⟩ (by decide) (by decide)
set_option maxRecDepth 65536 in
set_option maxHeartbeats 40000000 in
theorem rm2_w6 (l : Launch) (Z : State) (a0 : Array Value) (hw : ∀ d ∈ tables_1, d.before a0 Z = true) (ws : List Jvm.Cond) (w : Nat → Addr) (h0 : Heap) (n0 : Nat) (Z0 : n0 ≤ h0.size) (P : Pins Z h0 w) :
    MetFree l (⟨"com/example/punctual_proof/punctualproof/network/BinaryOperator", "isComparison", "()Z"⟩ : MethodName) (head1 (Jvm.Cond.code (⟨"com/example/punctual_proof/punctualproof/network/BinaryOperator", "isComparison", "()Z"⟩ : MethodName) prog_59_method_8_code 1 (some .boolean) :: ws) ({ frames := 0, cells := 0, slots := 0, locals := 0 } : Room)) (fun a U => a = #[(.ref (w 6))] ∧ Z.Warmed39 U.vm ∧ U.heap = h0) (fun _ _ _ _ _ => True) (fun _ U o U' => ∃ v L, o = .returned v ∧ own_QK (some (.int (0 : Int32))) h0 n0 v U'.heap L ∧ FrameEnd U o U' L ({ frames := 0, cells := 0, slots := 0, locals := 0 } : Room).cells ({ frames := 0, cells := 0, slots := 0, locals := 0 } : Room).slots) := by
  refine MetFree.of_bodySF (plainFor_of_name pn_com_example_punctual_proof_punctualproof_network_BinaryOperator) hisR ?_
  intro p e s m args below meth c s₁ Bd hml0 hP hK
  obtain ⟨rfl, hZ, hh⟩ := hP
  have hx := Bd.exec
  have hby := Bd.bytes
  have hml : c.maxLocals = 1 := hml0
  have hown : s.vm.findClass "com/example/punctual_proof/punctualproof/network/BinaryOperator" = some m.cls := findClass_of_methodNamed Bd.named
  have hnm := (name_of_methodNamed Bd.named Bd.method).1
  have X0 : Stand p l e ({ frames := 0, cells := 0, slots := 0, locals := 0 } : Room) s m #[(.ref (w 6))] below meth c s₁ [] 0 0 := Stand.of_body Bd
  have e0 : s₁.heap = h0 := by rw [← hh, Bd.state]; rfl
  have N0 := Fr.nil n0
  refine own_enter (ef_2_R m (w 6)) ?_
  refine own_step (W' := s₁.setTop (mkF m 1 #[.val (.ref (w 6))] [(.ref (w 6))])) (fun _ k => XS.aloadN X0.here hx rfl (hb hby d2_0) rfl rfl k) ?_
  obtain ⟨T1, X1, e1, st1⟩ := getF X0 hx hZ hown (host := "") (Or.inl (hw _ (List.mem_of_getElem? (i := 13) rfl))) Via.refl e0 (pin_F6_precedence P) (g := (mkF m 1 #[.val (.ref (w 6))] [(.ref (w 6))])) rfl rfl (hb hby d2_1)
  refine own_step (W' := T1.setTop (mkF m 4 #[.val (.ref (w 6))] [(.int (3 : Int32))])) (fun _ k => st1 _ k) ?_
  refine own_step (W' := T1.setTop (mkF m 5 #[.val (.ref (w 6))] [(.int (5 : Int32)), (.int (3 : Int32))])) (fun _ k => XS.iconst X1.here hx rfl (hb hby d2_4) k) ?_
  refine own_step (W' := T1.setTop (mkF m 12 #[.val (.ref (w 6))] [])) (fun _ k => XS.icmpYes X1.here hx rfl (pc0 := 5) (pc' := 12) rfl (hb hby d2_5) rfl (by decide) (by decide) (by decide) k) ?_
  refine own_step (W' := T1.setTop (mkF m 13 #[.val (.ref (w 6))] [(.int (0 : Int32))])) (fun _ k => XS.iconst X1.here hx rfl (hb hby d2_12) k) ?_
  exact own_ret X1 Bd.notSynchronized Bd.returns (v := (.int (0 : Int32))) (fun fs hr => retN X1 hx (t := .boolean) Bd.returns (by simp) (hb hby d2_13) hr) ⟨rfl, N0, e1⟩ (by decide) (by decide)
set_option maxRecDepth 65536 in
set_option maxHeartbeats 40000000 in
theorem rm0_2 (l : Launch) (Z : State) (a0 : Array Value) (hw : ∀ d ∈ tables_1, d.before a0 Z = true) (ws : List Jvm.Cond) (p1 : Int32) (hk : ((p1 &&& (2147483647 : Int32)) % (14 : Int32)) = (2 : Int32)) (w : Nat → Addr) (h0 : Heap) (n0 : Nat) (Z0 : n0 ≤ h0.size) (P : Pins Z h0 w) :
    MetFree l x (head1 (Jvm.Cond.code x code maxLocals ret :: ws) room_1) (fun a U => a = #[(.int p1)] ∧ Z.Warmed39 U.vm ∧ U.heap = h0) (fun _ _ _ _ _ => True) (fun _ U o U' => ∃ v L, o = .returned v ∧ own_Q0 n0 v U'.heap L ∧ FrameEnd U o U' L room_1.cells room_1.slots) := by
  refine MetFree.of_bodySF (plainFor_of_name pn_com_example_punctual_proof_punctualproof_network_BinaryOperatorIsComparisonPinLaw) hisR ?_
  intro p e s m args below meth c s₁ Bd hml0 hP hK
  obtain ⟨rfl, hZ, hh⟩ := hP
  have hx := Bd.exec
  have hby := Bd.bytes
  have hml : c.maxLocals = 4 := hml0
  have hown : s.vm.findClass "com/example/punctual_proof/punctualproof/network/BinaryOperatorIsComparisonPinLaw" = some m.cls := findClass_of_methodNamed Bd.named
  have hnm := (name_of_methodNamed Bd.named Bd.method).1
  have X0 : Stand p l e room_1 s m #[(.int p1)] below meth c s₁ [] 0 0 := Stand.of_body Bd
  have e0 : s₁.heap = h0 := by rw [← hh, Bd.state]; rfl
  have N0 := Fr.nil n0
  refine own_enter (ef_0_I m p1) ?_
  refine own_step (W' := s₁.setTop (mkF m 1 #[.val (.int p1), .unset, .unset, .unset] [(.int p1)])) (fun _ k => XS.iloadN X0.here hx rfl (hb hby at_0) rfl k) ?_
  refine own_step (W' := s₁.setTop (mkF m 3 #[.val (.int p1), .unset, .unset, .unset] [(.int (2147483647 : Int32)), (.int p1)])) (fun _ k => X0.ldcInt hx hown (mvT hZ (hw _ (List.mem_of_getElem? (i := 0) rfl))) (g := (mkF m 1 #[.val (.int p1), .unset, .unset, .unset] [(.int p1)])) rfl (hb hby at_1) _ k) ?_
  refine own_step (W' := s₁.setTop (mkF m 4 #[.val (.int p1), .unset, .unset, .unset] [(.int (p1 &&& (2147483647 : Int32)))])) (fun _ k => XS.iand X0.here hx rfl (hb hby at_3) rfl k) ?_
  refine own_step (W' := s₁.setTop (mkF m 6 #[.val (.int p1), .unset, .unset, .unset] [(.int (14 : Int32)), (.int (p1 &&& (2147483647 : Int32)))])) (fun _ k => XS.bipush X0.here hx rfl (hb hby at_4) k) ?_
  refine own_step (W' := s₁.setTop (mkF m 7 #[.val (.int p1), .unset, .unset, .unset] [(.int ((p1 &&& (2147483647 : Int32)) % (14 : Int32)))])) (fun _ k => iremM X0 hx rfl (hb hby at_6) rfl (by decide) k) ?_
  rw [hk]
  refine own_step (W' := s₁.setTop (mkF m 8 #[.val (.int p1), .val (.int (2 : Int32)), .unset, .unset] [])) (fun _ k => XS.istoreN X0.here hx rfl (hb hby at_7) rfl (l' := #[.val (.int p1), .val (.int (2 : Int32)), .unset, .unset]) rfl k) ?_
  refine own_step (W' := s₁.setTop (mkF m 9 #[.val (.int p1), .val (.int (2 : Int32)), .unset, .unset] [(.int (2 : Int32))])) (fun _ k => XS.iloadN X0.here hx rfl (hb hby at_8) rfl k) ?_
  obtain ⟨_, _, ⟨T1, L1, k1, n1⟩, -, X1, ⟨Lc1, hQ1, l1, y1, z1⟩, st1⟩ := Jvm.LawKit.callS X0 hx (y := (⟨"com/example/punctual_proof/punctualproof/network/BinaryOperatorIsComparisonPinLaw", "pick", "(I)Lcom/example/punctual_proof/punctualproof/network/BinaryOperator;"⟩ : MethodName)) hown (mvT hZ (hw _ (List.mem_of_getElem? (i := 1) rfl))) (mvT hZ (hw _ (List.mem_of_getElem? (i := 2) rfl))) (mvT hZ (hw _ (List.mem_of_getElem? (i := 3) rfl))) (mvT hZ (hw _ (List.mem_of_getElem? (i := 4) rfl))) (by decide) (backOf (W := 0) (rm1_2 l Z a0 hw [] w h0 n0 Z0 P) hZ (hw _ (List.mem_of_getElem? (i := 4) rfl)) (hw _ (List.mem_of_getElem? (i := 3) rfl)) (by decide) (by decide)) (g := (mkF m 9 #[.val (.int p1), .val (.int (2 : Int32)), .unset, .unset] [(.int (2 : Int32))])) rfl (by rw [hml]; rfl) (argsL := [(.int (2 : Int32))]) (rest := []) (lenOf pd_0 rfl) rfl (by show 2 * 0 + _ ≤ _; exact Nat.le_of_eq rfl) (hb hby at_9) (fun _ _ => ⟨rfl, e0, (by decide : 0 + 0 ≤ _), (by decide : 0 + 0 ≤ _)⟩)
  dsimp only [Pt.U, Pt.locs, Pt.cells, Pt.slots] at X1 l1 y1 z1 st1 hQ1
  subst l1 y1 z1
  obtain ⟨rfl, N1q, e1⟩ := hQ1
  have N1 := Fr.app N0 N1q
  refine own_step (W' := T1.setTop (mkF m 12 #[.val (.int p1), .val (.int (2 : Int32)), .unset, .unset] [(.ref (w 6))])) (fun _ k => st1 _ k) ?_
  refine own_step (W' := T1.setTop (mkF m 13 #[.val (.int p1), .val (.int (2 : Int32)), .val (.ref (w 6)), .unset] [])) (fun _ k => XS.astoreN X1.here hx rfl (hb hby at_12) rfl rfl (l' := #[.val (.int p1), .val (.int (2 : Int32)), .val (.ref (w 6)), .unset]) rfl k) ?_
  refine own_step (W' := T1.setTop (mkF m 14 #[.val (.int p1), .val (.int (2 : Int32)), .val (.ref (w 6)), .unset] [(.int (2 : Int32))])) (fun _ k => XS.iloadN X1.here hx rfl (hb hby at_13) rfl k) ?_
  refine own_step (W' := T1.setTop (mkF m 15 #[.val (.int p1), .val (.int (2 : Int32)), .val (.ref (w 6)), .unset] [(.int (3 : Int32)), (.int (2 : Int32))])) (fun _ k => XS.iconst X1.here hx rfl (hb hby at_14) k) ?_
  refine own_step (W' := T1.setTop (mkF m 18 #[.val (.int p1), .val (.int (2 : Int32)), .val (.ref (w 6)), .unset] [])) (fun _ k => XS.icmpNo X1.here hx rfl (hb hby at_15) rfl (by decide) k) ?_
  refine own_step (W' := T1.setTop (mkF m 19 #[.val (.int p1), .val (.int (2 : Int32)), .val (.ref (w 6)), .unset] [(.int (2 : Int32))])) (fun _ k => XS.iloadN X1.here hx rfl (hb hby at_18) rfl k) ?_
  refine own_step (W' := T1.setTop (mkF m 20 #[.val (.int p1), .val (.int (2 : Int32)), .val (.ref (w 6)), .unset] [(.int (4 : Int32)), (.int (2 : Int32))])) (fun _ k => XS.iconst X1.here hx rfl (hb hby at_19) k) ?_
  refine own_step (W' := T1.setTop (mkF m 23 #[.val (.int p1), .val (.int (2 : Int32)), .val (.ref (w 6)), .unset] [])) (fun _ k => XS.icmpNo X1.here hx rfl (hb hby at_20) rfl (by decide) k) ?_
  refine own_step (W' := T1.setTop (mkF m 24 #[.val (.int p1), .val (.int (2 : Int32)), .val (.ref (w 6)), .unset] [(.int (2 : Int32))])) (fun _ k => XS.iloadN X1.here hx rfl (hb hby at_23) rfl k) ?_
  refine own_step (W' := T1.setTop (mkF m 25 #[.val (.int p1), .val (.int (2 : Int32)), .val (.ref (w 6)), .unset] [(.int (5 : Int32)), (.int (2 : Int32))])) (fun _ k => XS.iconst X1.here hx rfl (hb hby at_24) k) ?_
  refine own_step (W' := T1.setTop (mkF m 28 #[.val (.int p1), .val (.int (2 : Int32)), .val (.ref (w 6)), .unset] [])) (fun _ k => XS.icmpNo X1.here hx rfl (hb hby at_25) rfl (by decide) k) ?_
  refine own_step (W' := T1.setTop (mkF m 29 #[.val (.int p1), .val (.int (2 : Int32)), .val (.ref (w 6)), .unset] [(.int (2 : Int32))])) (fun _ k => XS.iloadN X1.here hx rfl (hb hby at_28) rfl k) ?_
  refine own_step (W' := T1.setTop (mkF m 31 #[.val (.int p1), .val (.int (2 : Int32)), .val (.ref (w 6)), .unset] [(.int (6 : Int32)), (.int (2 : Int32))])) (fun _ k => XS.bipush X1.here hx rfl (hb hby at_29) k) ?_
  refine own_step (W' := T1.setTop (mkF m 34 #[.val (.int p1), .val (.int (2 : Int32)), .val (.ref (w 6)), .unset] [])) (fun _ k => XS.icmpNo X1.here hx rfl (hb hby at_31) rfl (by decide) k) ?_
  refine own_step (W' := T1.setTop (mkF m 35 #[.val (.int p1), .val (.int (2 : Int32)), .val (.ref (w 6)), .unset] [(.int (2 : Int32))])) (fun _ k => XS.iloadN X1.here hx rfl (hb hby at_34) rfl k) ?_
  refine own_step (W' := T1.setTop (mkF m 37 #[.val (.int p1), .val (.int (2 : Int32)), .val (.ref (w 6)), .unset] [(.int (7 : Int32)), (.int (2 : Int32))])) (fun _ k => XS.bipush X1.here hx rfl (hb hby at_35) k) ?_
  refine own_step (W' := T1.setTop (mkF m 40 #[.val (.int p1), .val (.int (2 : Int32)), .val (.ref (w 6)), .unset] [])) (fun _ k => XS.icmpNo X1.here hx rfl (hb hby at_37) rfl (by decide) k) ?_
  refine own_step (W' := T1.setTop (mkF m 41 #[.val (.int p1), .val (.int (2 : Int32)), .val (.ref (w 6)), .unset] [(.int (2 : Int32))])) (fun _ k => XS.iloadN X1.here hx rfl (hb hby at_40) rfl k) ?_
  refine own_step (W' := T1.setTop (mkF m 43 #[.val (.int p1), .val (.int (2 : Int32)), .val (.ref (w 6)), .unset] [(.int (8 : Int32)), (.int (2 : Int32))])) (fun _ k => XS.bipush X1.here hx rfl (hb hby at_41) k) ?_
  refine own_step (W' := T1.setTop (mkF m 50 #[.val (.int p1), .val (.int (2 : Int32)), .val (.ref (w 6)), .unset] [])) (fun _ k => XS.icmpYes X1.here hx rfl (pc0 := 43) (pc' := 50) rfl (hb hby at_43) rfl (by decide) (by decide) (by decide) k) ?_
  refine own_step (W' := T1.setTop (mkF m 51 #[.val (.int p1), .val (.int (2 : Int32)), .val (.ref (w 6)), .unset] [(.int (0 : Int32))])) (fun _ k => XS.iconst X1.here hx rfl (hb hby at_50) k) ?_
  refine own_step (W' := T1.setTop (mkF m 52 #[.val (.int p1), .val (.int (2 : Int32)), .val (.ref (w 6)), .val (.int (0 : Int32))] [])) (fun _ k => XS.istoreN X1.here hx rfl (hb hby at_51) rfl (l' := #[.val (.int p1), .val (.int (2 : Int32)), .val (.ref (w 6)), .val (.int (0 : Int32))]) rfl k) ?_
  refine own_step (W' := T1.setTop (mkF m 53 #[.val (.int p1), .val (.int (2 : Int32)), .val (.ref (w 6)), .val (.int (0 : Int32))] [(.ref (w 6))])) (fun _ k => XS.aloadN X1.here hx rfl (hb hby at_52) rfl rfl k) ?_
  obtain ⟨cq2, kq2, q2a, q2b, q2c⟩ := isOf hZ e1 (pin_E6 P)
  obtain ⟨_, _, ⟨T2, L2, k2, n2⟩, -, X2, ⟨Lc2, hQ2, l2, y2, z2⟩, st2⟩ := X1.virtualBack hx (y := (⟨"com/example/punctual_proof/punctualproof/network/BinaryOperator", "isComparison", "()Z"⟩ : MethodName)) (z := (⟨"com/example/punctual_proof/punctualproof/network/BinaryOperator", "isComparison", "()Z"⟩ : MethodName)) hown (mvT hZ (hw _ (List.mem_of_getElem? (i := 8) rfl))) (mvT hZ (hw _ (List.mem_of_getElem? (i := 9) rfl))) (notFace_of_selects (args := #[]) (mvT hZ (hw _ (List.mem_of_getElem? (i := 11) rfl)))) (mvT hZ (hw _ (List.mem_of_getElem? (i := 11) rfl))) (mvT hZ (hw _ (List.mem_of_getElem? (i := 10) rfl))) (by decide) (backOf (W := 0) (rm2_w6 l Z a0 hw [] w h0 n0 Z0 P) hZ (hw _ (List.mem_of_getElem? (i := 12) rfl)) (hw _ (List.mem_of_getElem? (i := 6) rfl)) (by decide) (by decide)) q2a q2c (g := (mkF m 53 #[.val (.int p1), .val (.int (2 : Int32)), .val (.ref (w 6)), .val (.int (0 : Int32))] [(.ref (w 6))])) rfl (by rw [hml]; rfl) (Steps.refl _) (argsL := []) (rest := []) (lenOf pd_1 rfl) rfl (by show 2 * 0 + _ ≤ _; exact Nat.le_of_eq rfl) (hb hby at_53) (fun _ _ => ⟨rfl, e1, (by decide : 0 + 0 ≤ _), (by decide : 0 + 0 ≤ _)⟩)
  dsimp only [Pt.U, Pt.locs, Pt.cells, Pt.slots] at X2 l2 y2 z2 st2 hQ2
  subst l2 y2 z2
  obtain ⟨rfl, N2q, e2⟩ := hQ2
  have N2 := Fr.app N1 N2q
  refine own_step (W' := T2.setTop (mkF m 56 #[.val (.int p1), .val (.int (2 : Int32)), .val (.ref (w 6)), .val (.int (0 : Int32))] [(.int (0 : Int32))])) (fun _ k => st2.trans k) ?_
  refine own_step (W' := T2.setTop (mkF m 57 #[.val (.int p1), .val (.int (2 : Int32)), .val (.ref (w 6)), .val (.int (0 : Int32))] [(.int (0 : Int32)), (.int (0 : Int32))])) (fun _ k => XS.iloadN X2.here hx rfl (hb hby at_56) rfl k) ?_
  refine own_step (W' := T2.setTop (mkF m 60 #[.val (.int p1), .val (.int (2 : Int32)), .val (.ref (w 6)), .val (.int (0 : Int32))] [])) (fun _ k => XS.icmpNo X2.here hx rfl (hb hby at_57) rfl (by decide) k) ?_
  refine own_step (W' := T2.setTop (mkF m 61 #[.val (.int p1), .val (.int (2 : Int32)), .val (.ref (w 6)), .val (.int (0 : Int32))] [(.int (1 : Int32))])) (fun _ k => XS.iconst X2.here hx rfl (hb hby at_60) k) ?_
  refine own_step (W' := T2.setTop (mkF m 65 #[.val (.int p1), .val (.int (2 : Int32)), .val (.ref (w 6)), .val (.int (0 : Int32))] [(.int (1 : Int32))])) (fun _ k => XS.goto X2.here hx rfl (pc0 := 61) (pc' := 65) rfl (hb hby at_61) (by decide) (by decide) k) ?_
  exact own_ret X2 Bd.notSynchronized Bd.returns (v := (.int (1 : Int32))) (fun fs hr => retN X2 hx (t := .boolean) Bd.returns (by simp) (hb hby at_65) hr) ⟨rfl, N2⟩ (by decide) (by decide)
set_option maxRecDepth 65536 in
set_option maxHeartbeats 40000000 in
theorem rm1_3 (l : Launch) (Z : State) (a0 : Array Value) (hw : ∀ d ∈ tables_1, d.before a0 Z = true) (ws : List Jvm.Cond) (w : Nat → Addr) (h0 : Heap) (n0 : Nat) (Z0 : n0 ≤ h0.size) (P : Pins Z h0 w) :
    MetFree l (⟨"com/example/punctual_proof/punctualproof/network/BinaryOperatorIsComparisonPinLaw", "pick", "(I)Lcom/example/punctual_proof/punctualproof/network/BinaryOperator;"⟩ : MethodName) (head1 (Jvm.Cond.code (⟨"com/example/punctual_proof/punctualproof/network/BinaryOperatorIsComparisonPinLaw", "pick", "(I)Lcom/example/punctual_proof/punctualproof/network/BinaryOperator;"⟩ : MethodName) method_3_code 1 (some (.object "com/example/punctual_proof/punctualproof/network/BinaryOperator")) :: ws) ({ frames := 0, cells := 0, slots := 0, locals := 0 } : Room)) (fun a U => a = #[(.int (3 : Int32))] ∧ Z.Warmed39 U.vm ∧ U.heap = h0) (fun _ _ _ _ _ => True) (fun _ U o U' => ∃ v L, o = .returned v ∧ own_QK (some (.ref (w 1))) h0 n0 v U'.heap L ∧ FrameEnd U o U' L ({ frames := 0, cells := 0, slots := 0, locals := 0 } : Room).cells ({ frames := 0, cells := 0, slots := 0, locals := 0 } : Room).slots) := by
  refine MetFree.of_bodySF (plainFor_of_name pn_com_example_punctual_proof_punctualproof_network_BinaryOperatorIsComparisonPinLaw) hisR ?_
  intro p e s m args below meth c s₁ Bd hml0 hP hK
  obtain ⟨rfl, hZ, hh⟩ := hP
  have hx := Bd.exec
  have hby := Bd.bytes
  have hml : c.maxLocals = 1 := hml0
  have hown : s.vm.findClass "com/example/punctual_proof/punctualproof/network/BinaryOperatorIsComparisonPinLaw" = some m.cls := findClass_of_methodNamed Bd.named
  have hnm := (name_of_methodNamed Bd.named Bd.method).1
  have X0 : Stand p l e ({ frames := 0, cells := 0, slots := 0, locals := 0 } : Room) s m #[(.int (3 : Int32))] below meth c s₁ [] 0 0 := Stand.of_body Bd
  have e0 : s₁.heap = h0 := by rw [← hh, Bd.state]; rfl
  have N0 := Fr.nil n0
  refine own_enter (ef_1_I m (3 : Int32)) ?_
  refine own_step (W' := s₁.setTop (mkF m 1 #[.val (.int (3 : Int32))] [(.int (3 : Int32))])) (fun _ k => XS.iloadN X0.here hx rfl (hb hby d1_0) rfl k) ?_
  refine own_step (W' := s₁.setTop (mkF m 8 #[.val (.int (3 : Int32))] [])) (fun _ k => XS.ifYes X0.here hx rfl (pc0 := 1) (pc' := 8) rfl (hb hby d1_1) rfl (by decide) (by decide) (by decide) k) ?_
  refine own_step (W' := s₁.setTop (mkF m 9 #[.val (.int (3 : Int32))] [(.int (3 : Int32))])) (fun _ k => XS.iloadN X0.here hx rfl (hb hby d1_8) rfl k) ?_
  refine own_step (W' := s₁.setTop (mkF m 10 #[.val (.int (3 : Int32))] [(.int (1 : Int32)), (.int (3 : Int32))])) (fun _ k => XS.iconst X0.here hx rfl (hb hby d1_9) k) ?_
  refine own_step (W' := s₁.setTop (mkF m 17 #[.val (.int (3 : Int32))] [])) (fun _ k => XS.icmpYes X0.here hx rfl (pc0 := 10) (pc' := 17) rfl (hb hby d1_10) rfl (by decide) (by decide) (by decide) k) ?_
  refine own_step (W' := s₁.setTop (mkF m 18 #[.val (.int (3 : Int32))] [(.int (3 : Int32))])) (fun _ k => XS.iloadN X0.here hx rfl (hb hby d1_17) rfl k) ?_
  refine own_step (W' := s₁.setTop (mkF m 19 #[.val (.int (3 : Int32))] [(.int (2 : Int32)), (.int (3 : Int32))])) (fun _ k => XS.iconst X0.here hx rfl (hb hby d1_18) k) ?_
  refine own_step (W' := s₁.setTop (mkF m 26 #[.val (.int (3 : Int32))] [])) (fun _ k => XS.icmpYes X0.here hx rfl (pc0 := 19) (pc' := 26) rfl (hb hby d1_19) rfl (by decide) (by decide) (by decide) k) ?_
  refine own_step (W' := s₁.setTop (mkF m 27 #[.val (.int (3 : Int32))] [(.int (3 : Int32))])) (fun _ k => XS.iloadN X0.here hx rfl (hb hby d1_26) rfl k) ?_
  refine own_step (W' := s₁.setTop (mkF m 28 #[.val (.int (3 : Int32))] [(.int (3 : Int32)), (.int (3 : Int32))])) (fun _ k => XS.iconst X0.here hx rfl (hb hby d1_27) k) ?_
  refine own_step (W' := s₁.setTop (mkF m 31 #[.val (.int (3 : Int32))] [])) (fun _ k => XS.icmpNo X0.here hx rfl (hb hby d1_28) rfl (by decide) k) ?_
  obtain ⟨T1, X1, e1, st1⟩ := getS2 X0 hx hZ hown (host := "") (Or.inl (hw _ (List.mem_of_getElem? (i := 15) rfl))) Via.refl e0 (pin_S1 P) (g := (mkF m 31 #[.val (.int (3 : Int32))] [])) rfl (hb hby d1_31)
  refine own_step (W' := T1.setTop (mkF m 34 #[.val (.int (3 : Int32))] [(.ref (w 1))])) (fun _ k => st1 _ k) ?_
  exact own_ret X1 Bd.notSynchronized Bd.returns (v := (.ref (w 1))) (fun fs hr => retOut X1 hx Bd.returns rfl (Or.inr (Or.inr (Or.inr (Or.inr ⟨rfl, rfl, rfl⟩)))) (hb hby d1_34) hr) ⟨rfl, N0, e1⟩ (by decide) (by decide)
set_option maxRecDepth 65536 in
set_option maxHeartbeats 40000000 in
theorem rm2_w1 (l : Launch) (Z : State) (a0 : Array Value) (hw : ∀ d ∈ tables_1, d.before a0 Z = true) (ws : List Jvm.Cond) (w : Nat → Addr) (h0 : Heap) (n0 : Nat) (Z0 : n0 ≤ h0.size) (P : Pins Z h0 w) :
    MetFree l (⟨"com/example/punctual_proof/punctualproof/network/BinaryOperator", "isComparison", "()Z"⟩ : MethodName) (head1 (Jvm.Cond.code (⟨"com/example/punctual_proof/punctualproof/network/BinaryOperator", "isComparison", "()Z"⟩ : MethodName) prog_59_method_8_code 1 (some .boolean) :: ws) ({ frames := 0, cells := 0, slots := 0, locals := 0 } : Room)) (fun a U => a = #[(.ref (w 1))] ∧ Z.Warmed39 U.vm ∧ U.heap = h0) (fun _ _ _ _ _ => True) (fun _ U o U' => ∃ v L, o = .returned v ∧ own_QK (some (.int (1 : Int32))) h0 n0 v U'.heap L ∧ FrameEnd U o U' L ({ frames := 0, cells := 0, slots := 0, locals := 0 } : Room).cells ({ frames := 0, cells := 0, slots := 0, locals := 0 } : Room).slots) := by
  refine MetFree.of_bodySF (plainFor_of_name pn_com_example_punctual_proof_punctualproof_network_BinaryOperator) hisR ?_
  intro p e s m args below meth c s₁ Bd hml0 hP hK
  obtain ⟨rfl, hZ, hh⟩ := hP
  have hx := Bd.exec
  have hby := Bd.bytes
  have hml : c.maxLocals = 1 := hml0
  have hown : s.vm.findClass "com/example/punctual_proof/punctualproof/network/BinaryOperator" = some m.cls := findClass_of_methodNamed Bd.named
  have hnm := (name_of_methodNamed Bd.named Bd.method).1
  have X0 : Stand p l e ({ frames := 0, cells := 0, slots := 0, locals := 0 } : Room) s m #[(.ref (w 1))] below meth c s₁ [] 0 0 := Stand.of_body Bd
  have e0 : s₁.heap = h0 := by rw [← hh, Bd.state]; rfl
  have N0 := Fr.nil n0
  refine own_enter (ef_2_R m (w 1)) ?_
  refine own_step (W' := s₁.setTop (mkF m 1 #[.val (.ref (w 1))] [(.ref (w 1))])) (fun _ k => XS.aloadN X0.here hx rfl (hb hby d2_0) rfl rfl k) ?_
  obtain ⟨T1, X1, e1, st1⟩ := getF X0 hx hZ hown (host := "") (Or.inl (hw _ (List.mem_of_getElem? (i := 13) rfl))) Via.refl e0 (pin_F1_precedence P) (g := (mkF m 1 #[.val (.ref (w 1))] [(.ref (w 1))])) rfl rfl (hb hby d2_1)
  refine own_step (W' := T1.setTop (mkF m 4 #[.val (.ref (w 1))] [(.int (5 : Int32))])) (fun _ k => st1 _ k) ?_
  refine own_step (W' := T1.setTop (mkF m 5 #[.val (.ref (w 1))] [(.int (5 : Int32)), (.int (5 : Int32))])) (fun _ k => XS.iconst X1.here hx rfl (hb hby d2_4) k) ?_
  refine own_step (W' := T1.setTop (mkF m 8 #[.val (.ref (w 1))] [])) (fun _ k => XS.icmpNo X1.here hx rfl (hb hby d2_5) rfl (by decide) k) ?_
  refine own_step (W' := T1.setTop (mkF m 9 #[.val (.ref (w 1))] [(.int (1 : Int32))])) (fun _ k => XS.iconst X1.here hx rfl (hb hby d2_8) k) ?_
  refine own_step (W' := T1.setTop (mkF m 13 #[.val (.ref (w 1))] [(.int (1 : Int32))])) (fun _ k => XS.goto X1.here hx rfl (pc0 := 9) (pc' := 13) rfl (hb hby d2_9) (by decide) (by decide) k) ?_
  exact own_ret X1 Bd.notSynchronized Bd.returns (v := (.int (1 : Int32))) (fun fs hr => retN X1 hx (t := .boolean) Bd.returns (by simp) (hb hby d2_13) hr) ⟨rfl, N0, e1⟩ (by decide) (by decide)
set_option maxRecDepth 65536 in
set_option maxHeartbeats 40000000 in
theorem rm0_3 (l : Launch) (Z : State) (a0 : Array Value) (hw : ∀ d ∈ tables_1, d.before a0 Z = true) (ws : List Jvm.Cond) (p1 : Int32) (hk : ((p1 &&& (2147483647 : Int32)) % (14 : Int32)) = (3 : Int32)) (w : Nat → Addr) (h0 : Heap) (n0 : Nat) (Z0 : n0 ≤ h0.size) (P : Pins Z h0 w) :
    MetFree l x (head1 (Jvm.Cond.code x code maxLocals ret :: ws) room_1) (fun a U => a = #[(.int p1)] ∧ Z.Warmed39 U.vm ∧ U.heap = h0) (fun _ _ _ _ _ => True) (fun _ U o U' => ∃ v L, o = .returned v ∧ own_Q0 n0 v U'.heap L ∧ FrameEnd U o U' L room_1.cells room_1.slots) := by
  refine MetFree.of_bodySF (plainFor_of_name pn_com_example_punctual_proof_punctualproof_network_BinaryOperatorIsComparisonPinLaw) hisR ?_
  intro p e s m args below meth c s₁ Bd hml0 hP hK
  obtain ⟨rfl, hZ, hh⟩ := hP
  have hx := Bd.exec
  have hby := Bd.bytes
  have hml : c.maxLocals = 4 := hml0
  have hown : s.vm.findClass "com/example/punctual_proof/punctualproof/network/BinaryOperatorIsComparisonPinLaw" = some m.cls := findClass_of_methodNamed Bd.named
  have hnm := (name_of_methodNamed Bd.named Bd.method).1
  have X0 : Stand p l e room_1 s m #[(.int p1)] below meth c s₁ [] 0 0 := Stand.of_body Bd
  have e0 : s₁.heap = h0 := by rw [← hh, Bd.state]; rfl
  have N0 := Fr.nil n0
  refine own_enter (ef_0_I m p1) ?_
  refine own_step (W' := s₁.setTop (mkF m 1 #[.val (.int p1), .unset, .unset, .unset] [(.int p1)])) (fun _ k => XS.iloadN X0.here hx rfl (hb hby at_0) rfl k) ?_
  refine own_step (W' := s₁.setTop (mkF m 3 #[.val (.int p1), .unset, .unset, .unset] [(.int (2147483647 : Int32)), (.int p1)])) (fun _ k => X0.ldcInt hx hown (mvT hZ (hw _ (List.mem_of_getElem? (i := 0) rfl))) (g := (mkF m 1 #[.val (.int p1), .unset, .unset, .unset] [(.int p1)])) rfl (hb hby at_1) _ k) ?_
  refine own_step (W' := s₁.setTop (mkF m 4 #[.val (.int p1), .unset, .unset, .unset] [(.int (p1 &&& (2147483647 : Int32)))])) (fun _ k => XS.iand X0.here hx rfl (hb hby at_3) rfl k) ?_
  refine own_step (W' := s₁.setTop (mkF m 6 #[.val (.int p1), .unset, .unset, .unset] [(.int (14 : Int32)), (.int (p1 &&& (2147483647 : Int32)))])) (fun _ k => XS.bipush X0.here hx rfl (hb hby at_4) k) ?_
  refine own_step (W' := s₁.setTop (mkF m 7 #[.val (.int p1), .unset, .unset, .unset] [(.int ((p1 &&& (2147483647 : Int32)) % (14 : Int32)))])) (fun _ k => iremM X0 hx rfl (hb hby at_6) rfl (by decide) k) ?_
  rw [hk]
  refine own_step (W' := s₁.setTop (mkF m 8 #[.val (.int p1), .val (.int (3 : Int32)), .unset, .unset] [])) (fun _ k => XS.istoreN X0.here hx rfl (hb hby at_7) rfl (l' := #[.val (.int p1), .val (.int (3 : Int32)), .unset, .unset]) rfl k) ?_
  refine own_step (W' := s₁.setTop (mkF m 9 #[.val (.int p1), .val (.int (3 : Int32)), .unset, .unset] [(.int (3 : Int32))])) (fun _ k => XS.iloadN X0.here hx rfl (hb hby at_8) rfl k) ?_
  obtain ⟨_, _, ⟨T1, L1, k1, n1⟩, -, X1, ⟨Lc1, hQ1, l1, y1, z1⟩, st1⟩ := Jvm.LawKit.callS X0 hx (y := (⟨"com/example/punctual_proof/punctualproof/network/BinaryOperatorIsComparisonPinLaw", "pick", "(I)Lcom/example/punctual_proof/punctualproof/network/BinaryOperator;"⟩ : MethodName)) hown (mvT hZ (hw _ (List.mem_of_getElem? (i := 1) rfl))) (mvT hZ (hw _ (List.mem_of_getElem? (i := 2) rfl))) (mvT hZ (hw _ (List.mem_of_getElem? (i := 3) rfl))) (mvT hZ (hw _ (List.mem_of_getElem? (i := 4) rfl))) (by decide) (backOf (W := 0) (rm1_3 l Z a0 hw [] w h0 n0 Z0 P) hZ (hw _ (List.mem_of_getElem? (i := 4) rfl)) (hw _ (List.mem_of_getElem? (i := 3) rfl)) (by decide) (by decide)) (g := (mkF m 9 #[.val (.int p1), .val (.int (3 : Int32)), .unset, .unset] [(.int (3 : Int32))])) rfl (by rw [hml]; rfl) (argsL := [(.int (3 : Int32))]) (rest := []) (lenOf pd_0 rfl) rfl (by show 2 * 0 + _ ≤ _; exact Nat.le_of_eq rfl) (hb hby at_9) (fun _ _ => ⟨rfl, e0, (by decide : 0 + 0 ≤ _), (by decide : 0 + 0 ≤ _)⟩)
  dsimp only [Pt.U, Pt.locs, Pt.cells, Pt.slots] at X1 l1 y1 z1 st1 hQ1
  subst l1 y1 z1
  obtain ⟨rfl, N1q, e1⟩ := hQ1
  have N1 := Fr.app N0 N1q
  refine own_step (W' := T1.setTop (mkF m 12 #[.val (.int p1), .val (.int (3 : Int32)), .unset, .unset] [(.ref (w 1))])) (fun _ k => st1 _ k) ?_
  refine own_step (W' := T1.setTop (mkF m 13 #[.val (.int p1), .val (.int (3 : Int32)), .val (.ref (w 1)), .unset] [])) (fun _ k => XS.astoreN X1.here hx rfl (hb hby at_12) rfl rfl (l' := #[.val (.int p1), .val (.int (3 : Int32)), .val (.ref (w 1)), .unset]) rfl k) ?_
  refine own_step (W' := T1.setTop (mkF m 14 #[.val (.int p1), .val (.int (3 : Int32)), .val (.ref (w 1)), .unset] [(.int (3 : Int32))])) (fun _ k => XS.iloadN X1.here hx rfl (hb hby at_13) rfl k) ?_
  refine own_step (W' := T1.setTop (mkF m 15 #[.val (.int p1), .val (.int (3 : Int32)), .val (.ref (w 1)), .unset] [(.int (3 : Int32)), (.int (3 : Int32))])) (fun _ k => XS.iconst X1.here hx rfl (hb hby at_14) k) ?_
  refine own_step (W' := T1.setTop (mkF m 46 #[.val (.int p1), .val (.int (3 : Int32)), .val (.ref (w 1)), .unset] [])) (fun _ k => XS.icmpYes X1.here hx rfl (pc0 := 15) (pc' := 46) rfl (hb hby at_15) rfl (by decide) (by decide) (by decide) k) ?_
  refine own_step (W' := T1.setTop (mkF m 47 #[.val (.int p1), .val (.int (3 : Int32)), .val (.ref (w 1)), .unset] [(.int (1 : Int32))])) (fun _ k => XS.iconst X1.here hx rfl (hb hby at_46) k) ?_
  refine own_step (W' := T1.setTop (mkF m 51 #[.val (.int p1), .val (.int (3 : Int32)), .val (.ref (w 1)), .unset] [(.int (1 : Int32))])) (fun _ k => XS.goto X1.here hx rfl (pc0 := 47) (pc' := 51) rfl (hb hby at_47) (by decide) (by decide) k) ?_
  refine own_step (W' := T1.setTop (mkF m 52 #[.val (.int p1), .val (.int (3 : Int32)), .val (.ref (w 1)), .val (.int (1 : Int32))] [])) (fun _ k => XS.istoreN X1.here hx rfl (hb hby at_51) rfl (l' := #[.val (.int p1), .val (.int (3 : Int32)), .val (.ref (w 1)), .val (.int (1 : Int32))]) rfl k) ?_
  refine own_step (W' := T1.setTop (mkF m 53 #[.val (.int p1), .val (.int (3 : Int32)), .val (.ref (w 1)), .val (.int (1 : Int32))] [(.ref (w 1))])) (fun _ k => XS.aloadN X1.here hx rfl (hb hby at_52) rfl rfl k) ?_
  obtain ⟨cq2, kq2, q2a, q2b, q2c⟩ := isOf hZ e1 (pin_E1 P)
  obtain ⟨_, _, ⟨T2, L2, k2, n2⟩, -, X2, ⟨Lc2, hQ2, l2, y2, z2⟩, st2⟩ := X1.virtualBack hx (y := (⟨"com/example/punctual_proof/punctualproof/network/BinaryOperator", "isComparison", "()Z"⟩ : MethodName)) (z := (⟨"com/example/punctual_proof/punctualproof/network/BinaryOperator", "isComparison", "()Z"⟩ : MethodName)) hown (mvT hZ (hw _ (List.mem_of_getElem? (i := 8) rfl))) (mvT hZ (hw _ (List.mem_of_getElem? (i := 9) rfl))) (notFace_of_selects (args := #[]) (mvT hZ (hw _ (List.mem_of_getElem? (i := 11) rfl)))) (mvT hZ (hw _ (List.mem_of_getElem? (i := 11) rfl))) (mvT hZ (hw _ (List.mem_of_getElem? (i := 10) rfl))) (by decide) (backOf (W := 0) (rm2_w1 l Z a0 hw [] w h0 n0 Z0 P) hZ (hw _ (List.mem_of_getElem? (i := 12) rfl)) (hw _ (List.mem_of_getElem? (i := 6) rfl)) (by decide) (by decide)) q2a q2c (g := (mkF m 53 #[.val (.int p1), .val (.int (3 : Int32)), .val (.ref (w 1)), .val (.int (1 : Int32))] [(.ref (w 1))])) rfl (by rw [hml]; rfl) (Steps.refl _) (argsL := []) (rest := []) (lenOf pd_1 rfl) rfl (by show 2 * 0 + _ ≤ _; exact Nat.le_of_eq rfl) (hb hby at_53) (fun _ _ => ⟨rfl, e1, (by decide : 0 + 0 ≤ _), (by decide : 0 + 0 ≤ _)⟩)
  dsimp only [Pt.U, Pt.locs, Pt.cells, Pt.slots] at X2 l2 y2 z2 st2 hQ2
  subst l2 y2 z2
  obtain ⟨rfl, N2q, e2⟩ := hQ2
  have N2 := Fr.app N1 N2q
  refine own_step (W' := T2.setTop (mkF m 56 #[.val (.int p1), .val (.int (3 : Int32)), .val (.ref (w 1)), .val (.int (1 : Int32))] [(.int (1 : Int32))])) (fun _ k => st2.trans k) ?_
  refine own_step (W' := T2.setTop (mkF m 57 #[.val (.int p1), .val (.int (3 : Int32)), .val (.ref (w 1)), .val (.int (1 : Int32))] [(.int (1 : Int32)), (.int (1 : Int32))])) (fun _ k => XS.iloadN X2.here hx rfl (hb hby at_56) rfl k) ?_
  refine own_step (W' := T2.setTop (mkF m 60 #[.val (.int p1), .val (.int (3 : Int32)), .val (.ref (w 1)), .val (.int (1 : Int32))] [])) (fun _ k => XS.icmpNo X2.here hx rfl (hb hby at_57) rfl (by decide) k) ?_
  refine own_step (W' := T2.setTop (mkF m 61 #[.val (.int p1), .val (.int (3 : Int32)), .val (.ref (w 1)), .val (.int (1 : Int32))] [(.int (1 : Int32))])) (fun _ k => XS.iconst X2.here hx rfl (hb hby at_60) k) ?_
  refine own_step (W' := T2.setTop (mkF m 65 #[.val (.int p1), .val (.int (3 : Int32)), .val (.ref (w 1)), .val (.int (1 : Int32))] [(.int (1 : Int32))])) (fun _ k => XS.goto X2.here hx rfl (pc0 := 61) (pc' := 65) rfl (hb hby at_61) (by decide) (by decide) k) ?_
  exact own_ret X2 Bd.notSynchronized Bd.returns (v := (.int (1 : Int32))) (fun fs hr => retN X2 hx (t := .boolean) Bd.returns (by simp) (hb hby at_65) hr) ⟨rfl, N2⟩ (by decide) (by decide)
set_option maxRecDepth 65536 in
set_option maxHeartbeats 40000000 in
theorem rm1_4 (l : Launch) (Z : State) (a0 : Array Value) (hw : ∀ d ∈ tables_1, d.before a0 Z = true) (ws : List Jvm.Cond) (w : Nat → Addr) (h0 : Heap) (n0 : Nat) (Z0 : n0 ≤ h0.size) (P : Pins Z h0 w) :
    MetFree l (⟨"com/example/punctual_proof/punctualproof/network/BinaryOperatorIsComparisonPinLaw", "pick", "(I)Lcom/example/punctual_proof/punctualproof/network/BinaryOperator;"⟩ : MethodName) (head1 (Jvm.Cond.code (⟨"com/example/punctual_proof/punctualproof/network/BinaryOperatorIsComparisonPinLaw", "pick", "(I)Lcom/example/punctual_proof/punctualproof/network/BinaryOperator;"⟩ : MethodName) method_3_code 1 (some (.object "com/example/punctual_proof/punctualproof/network/BinaryOperator")) :: ws) ({ frames := 0, cells := 0, slots := 0, locals := 0 } : Room)) (fun a U => a = #[(.int (4 : Int32))] ∧ Z.Warmed39 U.vm ∧ U.heap = h0) (fun _ _ _ _ _ => True) (fun _ U o U' => ∃ v L, o = .returned v ∧ own_QK (some (.ref (w 4))) h0 n0 v U'.heap L ∧ FrameEnd U o U' L ({ frames := 0, cells := 0, slots := 0, locals := 0 } : Room).cells ({ frames := 0, cells := 0, slots := 0, locals := 0 } : Room).slots) := by
  refine MetFree.of_bodySF (plainFor_of_name pn_com_example_punctual_proof_punctualproof_network_BinaryOperatorIsComparisonPinLaw) hisR ?_
  intro p e s m args below meth c s₁ Bd hml0 hP hK
  obtain ⟨rfl, hZ, hh⟩ := hP
  have hx := Bd.exec
  have hby := Bd.bytes
  have hml : c.maxLocals = 1 := hml0
  have hown : s.vm.findClass "com/example/punctual_proof/punctualproof/network/BinaryOperatorIsComparisonPinLaw" = some m.cls := findClass_of_methodNamed Bd.named
  have hnm := (name_of_methodNamed Bd.named Bd.method).1
  have X0 : Stand p l e ({ frames := 0, cells := 0, slots := 0, locals := 0 } : Room) s m #[(.int (4 : Int32))] below meth c s₁ [] 0 0 := Stand.of_body Bd
  have e0 : s₁.heap = h0 := by rw [← hh, Bd.state]; rfl
  have N0 := Fr.nil n0
  refine own_enter (ef_1_I m (4 : Int32)) ?_
  refine own_step (W' := s₁.setTop (mkF m 1 #[.val (.int (4 : Int32))] [(.int (4 : Int32))])) (fun _ k => XS.iloadN X0.here hx rfl (hb hby d1_0) rfl k) ?_
  refine own_step (W' := s₁.setTop (mkF m 8 #[.val (.int (4 : Int32))] [])) (fun _ k => XS.ifYes X0.here hx rfl (pc0 := 1) (pc' := 8) rfl (hb hby d1_1) rfl (by decide) (by decide) (by decide) k) ?_
  refine own_step (W' := s₁.setTop (mkF m 9 #[.val (.int (4 : Int32))] [(.int (4 : Int32))])) (fun _ k => XS.iloadN X0.here hx rfl (hb hby d1_8) rfl k) ?_
  refine own_step (W' := s₁.setTop (mkF m 10 #[.val (.int (4 : Int32))] [(.int (1 : Int32)), (.int (4 : Int32))])) (fun _ k => XS.iconst X0.here hx rfl (hb hby d1_9) k) ?_
  refine own_step (W' := s₁.setTop (mkF m 17 #[.val (.int (4 : Int32))] [])) (fun _ k => XS.icmpYes X0.here hx rfl (pc0 := 10) (pc' := 17) rfl (hb hby d1_10) rfl (by decide) (by decide) (by decide) k) ?_
  refine own_step (W' := s₁.setTop (mkF m 18 #[.val (.int (4 : Int32))] [(.int (4 : Int32))])) (fun _ k => XS.iloadN X0.here hx rfl (hb hby d1_17) rfl k) ?_
  refine own_step (W' := s₁.setTop (mkF m 19 #[.val (.int (4 : Int32))] [(.int (2 : Int32)), (.int (4 : Int32))])) (fun _ k => XS.iconst X0.here hx rfl (hb hby d1_18) k) ?_
  refine own_step (W' := s₁.setTop (mkF m 26 #[.val (.int (4 : Int32))] [])) (fun _ k => XS.icmpYes X0.here hx rfl (pc0 := 19) (pc' := 26) rfl (hb hby d1_19) rfl (by decide) (by decide) (by decide) k) ?_
  refine own_step (W' := s₁.setTop (mkF m 27 #[.val (.int (4 : Int32))] [(.int (4 : Int32))])) (fun _ k => XS.iloadN X0.here hx rfl (hb hby d1_26) rfl k) ?_
  refine own_step (W' := s₁.setTop (mkF m 28 #[.val (.int (4 : Int32))] [(.int (3 : Int32)), (.int (4 : Int32))])) (fun _ k => XS.iconst X0.here hx rfl (hb hby d1_27) k) ?_
  refine own_step (W' := s₁.setTop (mkF m 35 #[.val (.int (4 : Int32))] [])) (fun _ k => XS.icmpYes X0.here hx rfl (pc0 := 28) (pc' := 35) rfl (hb hby d1_28) rfl (by decide) (by decide) (by decide) k) ?_
  refine own_step (W' := s₁.setTop (mkF m 36 #[.val (.int (4 : Int32))] [(.int (4 : Int32))])) (fun _ k => XS.iloadN X0.here hx rfl (hb hby d1_35) rfl k) ?_
  refine own_step (W' := s₁.setTop (mkF m 37 #[.val (.int (4 : Int32))] [(.int (4 : Int32)), (.int (4 : Int32))])) (fun _ k => XS.iconst X0.here hx rfl (hb hby d1_36) k) ?_
  refine own_step (W' := s₁.setTop (mkF m 40 #[.val (.int (4 : Int32))] [])) (fun _ k => XS.icmpNo X0.here hx rfl (hb hby d1_37) rfl (by decide) k) ?_
  obtain ⟨T1, X1, e1, st1⟩ := getS2 X0 hx hZ hown (host := "") (Or.inl (hw _ (List.mem_of_getElem? (i := 21) rfl))) Via.refl e0 (pin_S4 P) (g := (mkF m 40 #[.val (.int (4 : Int32))] [])) rfl (hb hby d1_40)
  refine own_step (W' := T1.setTop (mkF m 43 #[.val (.int (4 : Int32))] [(.ref (w 4))])) (fun _ k => st1 _ k) ?_
  exact own_ret X1 Bd.notSynchronized Bd.returns (v := (.ref (w 4))) (fun fs hr => retOut X1 hx Bd.returns rfl (Or.inr (Or.inr (Or.inr (Or.inr ⟨rfl, rfl, rfl⟩)))) (hb hby d1_43) hr) ⟨rfl, N0, e1⟩ (by decide) (by decide)
set_option maxRecDepth 65536 in
set_option maxHeartbeats 40000000 in
theorem rm2_w4 (l : Launch) (Z : State) (a0 : Array Value) (hw : ∀ d ∈ tables_1, d.before a0 Z = true) (ws : List Jvm.Cond) (w : Nat → Addr) (h0 : Heap) (n0 : Nat) (Z0 : n0 ≤ h0.size) (P : Pins Z h0 w) :
    MetFree l (⟨"com/example/punctual_proof/punctualproof/network/BinaryOperator", "isComparison", "()Z"⟩ : MethodName) (head1 (Jvm.Cond.code (⟨"com/example/punctual_proof/punctualproof/network/BinaryOperator", "isComparison", "()Z"⟩ : MethodName) prog_59_method_8_code 1 (some .boolean) :: ws) ({ frames := 0, cells := 0, slots := 0, locals := 0 } : Room)) (fun a U => a = #[(.ref (w 4))] ∧ Z.Warmed39 U.vm ∧ U.heap = h0) (fun _ _ _ _ _ => True) (fun _ U o U' => ∃ v L, o = .returned v ∧ own_QK (some (.int (1 : Int32))) h0 n0 v U'.heap L ∧ FrameEnd U o U' L ({ frames := 0, cells := 0, slots := 0, locals := 0 } : Room).cells ({ frames := 0, cells := 0, slots := 0, locals := 0 } : Room).slots) := by
  refine MetFree.of_bodySF (plainFor_of_name pn_com_example_punctual_proof_punctualproof_network_BinaryOperator) hisR ?_
  intro p e s m args below meth c s₁ Bd hml0 hP hK
  obtain ⟨rfl, hZ, hh⟩ := hP
  have hx := Bd.exec
  have hby := Bd.bytes
  have hml : c.maxLocals = 1 := hml0
  have hown : s.vm.findClass "com/example/punctual_proof/punctualproof/network/BinaryOperator" = some m.cls := findClass_of_methodNamed Bd.named
  have hnm := (name_of_methodNamed Bd.named Bd.method).1
  have X0 : Stand p l e ({ frames := 0, cells := 0, slots := 0, locals := 0 } : Room) s m #[(.ref (w 4))] below meth c s₁ [] 0 0 := Stand.of_body Bd
  have e0 : s₁.heap = h0 := by rw [← hh, Bd.state]; rfl
  have N0 := Fr.nil n0
  refine own_enter (ef_2_R m (w 4)) ?_
  refine own_step (W' := s₁.setTop (mkF m 1 #[.val (.ref (w 4))] [(.ref (w 4))])) (fun _ k => XS.aloadN X0.here hx rfl (hb hby d2_0) rfl rfl k) ?_
  obtain ⟨T1, X1, e1, st1⟩ := getF X0 hx hZ hown (host := "") (Or.inl (hw _ (List.mem_of_getElem? (i := 13) rfl))) Via.refl e0 (pin_F4_precedence P) (g := (mkF m 1 #[.val (.ref (w 4))] [(.ref (w 4))])) rfl rfl (hb hby d2_1)
  refine own_step (W' := T1.setTop (mkF m 4 #[.val (.ref (w 4))] [(.int (5 : Int32))])) (fun _ k => st1 _ k) ?_
  refine own_step (W' := T1.setTop (mkF m 5 #[.val (.ref (w 4))] [(.int (5 : Int32)), (.int (5 : Int32))])) (fun _ k => XS.iconst X1.here hx rfl (hb hby d2_4) k) ?_
  refine own_step (W' := T1.setTop (mkF m 8 #[.val (.ref (w 4))] [])) (fun _ k => XS.icmpNo X1.here hx rfl (hb hby d2_5) rfl (by decide) k) ?_
  refine own_step (W' := T1.setTop (mkF m 9 #[.val (.ref (w 4))] [(.int (1 : Int32))])) (fun _ k => XS.iconst X1.here hx rfl (hb hby d2_8) k) ?_
  refine own_step (W' := T1.setTop (mkF m 13 #[.val (.ref (w 4))] [(.int (1 : Int32))])) (fun _ k => XS.goto X1.here hx rfl (pc0 := 9) (pc' := 13) rfl (hb hby d2_9) (by decide) (by decide) k) ?_
  exact own_ret X1 Bd.notSynchronized Bd.returns (v := (.int (1 : Int32))) (fun fs hr => retN X1 hx (t := .boolean) Bd.returns (by simp) (hb hby d2_13) hr) ⟨rfl, N0, e1⟩ (by decide) (by decide)
set_option maxRecDepth 65536 in
set_option maxHeartbeats 40000000 in
theorem rm0_4 (l : Launch) (Z : State) (a0 : Array Value) (hw : ∀ d ∈ tables_1, d.before a0 Z = true) (ws : List Jvm.Cond) (p1 : Int32) (hk : ((p1 &&& (2147483647 : Int32)) % (14 : Int32)) = (4 : Int32)) (w : Nat → Addr) (h0 : Heap) (n0 : Nat) (Z0 : n0 ≤ h0.size) (P : Pins Z h0 w) :
    MetFree l x (head1 (Jvm.Cond.code x code maxLocals ret :: ws) room_1) (fun a U => a = #[(.int p1)] ∧ Z.Warmed39 U.vm ∧ U.heap = h0) (fun _ _ _ _ _ => True) (fun _ U o U' => ∃ v L, o = .returned v ∧ own_Q0 n0 v U'.heap L ∧ FrameEnd U o U' L room_1.cells room_1.slots) := by
  refine MetFree.of_bodySF (plainFor_of_name pn_com_example_punctual_proof_punctualproof_network_BinaryOperatorIsComparisonPinLaw) hisR ?_
  intro p e s m args below meth c s₁ Bd hml0 hP hK
  obtain ⟨rfl, hZ, hh⟩ := hP
  have hx := Bd.exec
  have hby := Bd.bytes
  have hml : c.maxLocals = 4 := hml0
  have hown : s.vm.findClass "com/example/punctual_proof/punctualproof/network/BinaryOperatorIsComparisonPinLaw" = some m.cls := findClass_of_methodNamed Bd.named
  have hnm := (name_of_methodNamed Bd.named Bd.method).1
  have X0 : Stand p l e room_1 s m #[(.int p1)] below meth c s₁ [] 0 0 := Stand.of_body Bd
  have e0 : s₁.heap = h0 := by rw [← hh, Bd.state]; rfl
  have N0 := Fr.nil n0
  refine own_enter (ef_0_I m p1) ?_
  refine own_step (W' := s₁.setTop (mkF m 1 #[.val (.int p1), .unset, .unset, .unset] [(.int p1)])) (fun _ k => XS.iloadN X0.here hx rfl (hb hby at_0) rfl k) ?_
  refine own_step (W' := s₁.setTop (mkF m 3 #[.val (.int p1), .unset, .unset, .unset] [(.int (2147483647 : Int32)), (.int p1)])) (fun _ k => X0.ldcInt hx hown (mvT hZ (hw _ (List.mem_of_getElem? (i := 0) rfl))) (g := (mkF m 1 #[.val (.int p1), .unset, .unset, .unset] [(.int p1)])) rfl (hb hby at_1) _ k) ?_
  refine own_step (W' := s₁.setTop (mkF m 4 #[.val (.int p1), .unset, .unset, .unset] [(.int (p1 &&& (2147483647 : Int32)))])) (fun _ k => XS.iand X0.here hx rfl (hb hby at_3) rfl k) ?_
  refine own_step (W' := s₁.setTop (mkF m 6 #[.val (.int p1), .unset, .unset, .unset] [(.int (14 : Int32)), (.int (p1 &&& (2147483647 : Int32)))])) (fun _ k => XS.bipush X0.here hx rfl (hb hby at_4) k) ?_
  refine own_step (W' := s₁.setTop (mkF m 7 #[.val (.int p1), .unset, .unset, .unset] [(.int ((p1 &&& (2147483647 : Int32)) % (14 : Int32)))])) (fun _ k => iremM X0 hx rfl (hb hby at_6) rfl (by decide) k) ?_
  rw [hk]
  refine own_step (W' := s₁.setTop (mkF m 8 #[.val (.int p1), .val (.int (4 : Int32)), .unset, .unset] [])) (fun _ k => XS.istoreN X0.here hx rfl (hb hby at_7) rfl (l' := #[.val (.int p1), .val (.int (4 : Int32)), .unset, .unset]) rfl k) ?_
  refine own_step (W' := s₁.setTop (mkF m 9 #[.val (.int p1), .val (.int (4 : Int32)), .unset, .unset] [(.int (4 : Int32))])) (fun _ k => XS.iloadN X0.here hx rfl (hb hby at_8) rfl k) ?_
  obtain ⟨_, _, ⟨T1, L1, k1, n1⟩, -, X1, ⟨Lc1, hQ1, l1, y1, z1⟩, st1⟩ := Jvm.LawKit.callS X0 hx (y := (⟨"com/example/punctual_proof/punctualproof/network/BinaryOperatorIsComparisonPinLaw", "pick", "(I)Lcom/example/punctual_proof/punctualproof/network/BinaryOperator;"⟩ : MethodName)) hown (mvT hZ (hw _ (List.mem_of_getElem? (i := 1) rfl))) (mvT hZ (hw _ (List.mem_of_getElem? (i := 2) rfl))) (mvT hZ (hw _ (List.mem_of_getElem? (i := 3) rfl))) (mvT hZ (hw _ (List.mem_of_getElem? (i := 4) rfl))) (by decide) (backOf (W := 0) (rm1_4 l Z a0 hw [] w h0 n0 Z0 P) hZ (hw _ (List.mem_of_getElem? (i := 4) rfl)) (hw _ (List.mem_of_getElem? (i := 3) rfl)) (by decide) (by decide)) (g := (mkF m 9 #[.val (.int p1), .val (.int (4 : Int32)), .unset, .unset] [(.int (4 : Int32))])) rfl (by rw [hml]; rfl) (argsL := [(.int (4 : Int32))]) (rest := []) (lenOf pd_0 rfl) rfl (by show 2 * 0 + _ ≤ _; exact Nat.le_of_eq rfl) (hb hby at_9) (fun _ _ => ⟨rfl, e0, (by decide : 0 + 0 ≤ _), (by decide : 0 + 0 ≤ _)⟩)
  dsimp only [Pt.U, Pt.locs, Pt.cells, Pt.slots] at X1 l1 y1 z1 st1 hQ1
  subst l1 y1 z1
  obtain ⟨rfl, N1q, e1⟩ := hQ1
  have N1 := Fr.app N0 N1q
  refine own_step (W' := T1.setTop (mkF m 12 #[.val (.int p1), .val (.int (4 : Int32)), .unset, .unset] [(.ref (w 4))])) (fun _ k => st1 _ k) ?_
  refine own_step (W' := T1.setTop (mkF m 13 #[.val (.int p1), .val (.int (4 : Int32)), .val (.ref (w 4)), .unset] [])) (fun _ k => XS.astoreN X1.here hx rfl (hb hby at_12) rfl rfl (l' := #[.val (.int p1), .val (.int (4 : Int32)), .val (.ref (w 4)), .unset]) rfl k) ?_
  refine own_step (W' := T1.setTop (mkF m 14 #[.val (.int p1), .val (.int (4 : Int32)), .val (.ref (w 4)), .unset] [(.int (4 : Int32))])) (fun _ k => XS.iloadN X1.here hx rfl (hb hby at_13) rfl k) ?_
  refine own_step (W' := T1.setTop (mkF m 15 #[.val (.int p1), .val (.int (4 : Int32)), .val (.ref (w 4)), .unset] [(.int (3 : Int32)), (.int (4 : Int32))])) (fun _ k => XS.iconst X1.here hx rfl (hb hby at_14) k) ?_
  refine own_step (W' := T1.setTop (mkF m 18 #[.val (.int p1), .val (.int (4 : Int32)), .val (.ref (w 4)), .unset] [])) (fun _ k => XS.icmpNo X1.here hx rfl (hb hby at_15) rfl (by decide) k) ?_
  refine own_step (W' := T1.setTop (mkF m 19 #[.val (.int p1), .val (.int (4 : Int32)), .val (.ref (w 4)), .unset] [(.int (4 : Int32))])) (fun _ k => XS.iloadN X1.here hx rfl (hb hby at_18) rfl k) ?_
  refine own_step (W' := T1.setTop (mkF m 20 #[.val (.int p1), .val (.int (4 : Int32)), .val (.ref (w 4)), .unset] [(.int (4 : Int32)), (.int (4 : Int32))])) (fun _ k => XS.iconst X1.here hx rfl (hb hby at_19) k) ?_
  refine own_step (W' := T1.setTop (mkF m 46 #[.val (.int p1), .val (.int (4 : Int32)), .val (.ref (w 4)), .unset] [])) (fun _ k => XS.icmpYes X1.here hx rfl (pc0 := 20) (pc' := 46) rfl (hb hby at_20) rfl (by decide) (by decide) (by decide) k) ?_
  refine own_step (W' := T1.setTop (mkF m 47 #[.val (.int p1), .val (.int (4 : Int32)), .val (.ref (w 4)), .unset] [(.int (1 : Int32))])) (fun _ k => XS.iconst X1.here hx rfl (hb hby at_46) k) ?_
  refine own_step (W' := T1.setTop (mkF m 51 #[.val (.int p1), .val (.int (4 : Int32)), .val (.ref (w 4)), .unset] [(.int (1 : Int32))])) (fun _ k => XS.goto X1.here hx rfl (pc0 := 47) (pc' := 51) rfl (hb hby at_47) (by decide) (by decide) k) ?_
  refine own_step (W' := T1.setTop (mkF m 52 #[.val (.int p1), .val (.int (4 : Int32)), .val (.ref (w 4)), .val (.int (1 : Int32))] [])) (fun _ k => XS.istoreN X1.here hx rfl (hb hby at_51) rfl (l' := #[.val (.int p1), .val (.int (4 : Int32)), .val (.ref (w 4)), .val (.int (1 : Int32))]) rfl k) ?_
  refine own_step (W' := T1.setTop (mkF m 53 #[.val (.int p1), .val (.int (4 : Int32)), .val (.ref (w 4)), .val (.int (1 : Int32))] [(.ref (w 4))])) (fun _ k => XS.aloadN X1.here hx rfl (hb hby at_52) rfl rfl k) ?_
  obtain ⟨cq2, kq2, q2a, q2b, q2c⟩ := isOf hZ e1 (pin_E4 P)
  obtain ⟨_, _, ⟨T2, L2, k2, n2⟩, -, X2, ⟨Lc2, hQ2, l2, y2, z2⟩, st2⟩ := X1.virtualBack hx (y := (⟨"com/example/punctual_proof/punctualproof/network/BinaryOperator", "isComparison", "()Z"⟩ : MethodName)) (z := (⟨"com/example/punctual_proof/punctualproof/network/BinaryOperator", "isComparison", "()Z"⟩ : MethodName)) hown (mvT hZ (hw _ (List.mem_of_getElem? (i := 8) rfl))) (mvT hZ (hw _ (List.mem_of_getElem? (i := 9) rfl))) (notFace_of_selects (args := #[]) (mvT hZ (hw _ (List.mem_of_getElem? (i := 11) rfl)))) (mvT hZ (hw _ (List.mem_of_getElem? (i := 11) rfl))) (mvT hZ (hw _ (List.mem_of_getElem? (i := 10) rfl))) (by decide) (backOf (W := 0) (rm2_w4 l Z a0 hw [] w h0 n0 Z0 P) hZ (hw _ (List.mem_of_getElem? (i := 12) rfl)) (hw _ (List.mem_of_getElem? (i := 6) rfl)) (by decide) (by decide)) q2a q2c (g := (mkF m 53 #[.val (.int p1), .val (.int (4 : Int32)), .val (.ref (w 4)), .val (.int (1 : Int32))] [(.ref (w 4))])) rfl (by rw [hml]; rfl) (Steps.refl _) (argsL := []) (rest := []) (lenOf pd_1 rfl) rfl (by show 2 * 0 + _ ≤ _; exact Nat.le_of_eq rfl) (hb hby at_53) (fun _ _ => ⟨rfl, e1, (by decide : 0 + 0 ≤ _), (by decide : 0 + 0 ≤ _)⟩)
  dsimp only [Pt.U, Pt.locs, Pt.cells, Pt.slots] at X2 l2 y2 z2 st2 hQ2
  subst l2 y2 z2
  obtain ⟨rfl, N2q, e2⟩ := hQ2
  have N2 := Fr.app N1 N2q
  refine own_step (W' := T2.setTop (mkF m 56 #[.val (.int p1), .val (.int (4 : Int32)), .val (.ref (w 4)), .val (.int (1 : Int32))] [(.int (1 : Int32))])) (fun _ k => st2.trans k) ?_
  refine own_step (W' := T2.setTop (mkF m 57 #[.val (.int p1), .val (.int (4 : Int32)), .val (.ref (w 4)), .val (.int (1 : Int32))] [(.int (1 : Int32)), (.int (1 : Int32))])) (fun _ k => XS.iloadN X2.here hx rfl (hb hby at_56) rfl k) ?_
  refine own_step (W' := T2.setTop (mkF m 60 #[.val (.int p1), .val (.int (4 : Int32)), .val (.ref (w 4)), .val (.int (1 : Int32))] [])) (fun _ k => XS.icmpNo X2.here hx rfl (hb hby at_57) rfl (by decide) k) ?_
  refine own_step (W' := T2.setTop (mkF m 61 #[.val (.int p1), .val (.int (4 : Int32)), .val (.ref (w 4)), .val (.int (1 : Int32))] [(.int (1 : Int32))])) (fun _ k => XS.iconst X2.here hx rfl (hb hby at_60) k) ?_
  refine own_step (W' := T2.setTop (mkF m 65 #[.val (.int p1), .val (.int (4 : Int32)), .val (.ref (w 4)), .val (.int (1 : Int32))] [(.int (1 : Int32))])) (fun _ k => XS.goto X2.here hx rfl (pc0 := 61) (pc' := 65) rfl (hb hby at_61) (by decide) (by decide) k) ?_
  exact own_ret X2 Bd.notSynchronized Bd.returns (v := (.int (1 : Int32))) (fun fs hr => retN X2 hx (t := .boolean) Bd.returns (by simp) (hb hby at_65) hr) ⟨rfl, N2⟩ (by decide) (by decide)
set_option maxRecDepth 65536 in
set_option maxHeartbeats 40000000 in
theorem rm1_5 (l : Launch) (Z : State) (a0 : Array Value) (hw : ∀ d ∈ tables_1, d.before a0 Z = true) (ws : List Jvm.Cond) (w : Nat → Addr) (h0 : Heap) (n0 : Nat) (Z0 : n0 ≤ h0.size) (P : Pins Z h0 w) :
    MetFree l (⟨"com/example/punctual_proof/punctualproof/network/BinaryOperatorIsComparisonPinLaw", "pick", "(I)Lcom/example/punctual_proof/punctualproof/network/BinaryOperator;"⟩ : MethodName) (head1 (Jvm.Cond.code (⟨"com/example/punctual_proof/punctualproof/network/BinaryOperatorIsComparisonPinLaw", "pick", "(I)Lcom/example/punctual_proof/punctualproof/network/BinaryOperator;"⟩ : MethodName) method_3_code 1 (some (.object "com/example/punctual_proof/punctualproof/network/BinaryOperator")) :: ws) ({ frames := 0, cells := 0, slots := 0, locals := 0 } : Room)) (fun a U => a = #[(.int (5 : Int32))] ∧ Z.Warmed39 U.vm ∧ U.heap = h0) (fun _ _ _ _ _ => True) (fun _ U o U' => ∃ v L, o = .returned v ∧ own_QK (some (.ref (w 12))) h0 n0 v U'.heap L ∧ FrameEnd U o U' L ({ frames := 0, cells := 0, slots := 0, locals := 0 } : Room).cells ({ frames := 0, cells := 0, slots := 0, locals := 0 } : Room).slots) := by
  refine MetFree.of_bodySF (plainFor_of_name pn_com_example_punctual_proof_punctualproof_network_BinaryOperatorIsComparisonPinLaw) hisR ?_
  intro p e s m args below meth c s₁ Bd hml0 hP hK
  obtain ⟨rfl, hZ, hh⟩ := hP
  have hx := Bd.exec
  have hby := Bd.bytes
  have hml : c.maxLocals = 1 := hml0
  have hown : s.vm.findClass "com/example/punctual_proof/punctualproof/network/BinaryOperatorIsComparisonPinLaw" = some m.cls := findClass_of_methodNamed Bd.named
  have hnm := (name_of_methodNamed Bd.named Bd.method).1
  have X0 : Stand p l e ({ frames := 0, cells := 0, slots := 0, locals := 0 } : Room) s m #[(.int (5 : Int32))] below meth c s₁ [] 0 0 := Stand.of_body Bd
  have e0 : s₁.heap = h0 := by rw [← hh, Bd.state]; rfl
  have N0 := Fr.nil n0
  refine own_enter (ef_1_I m (5 : Int32)) ?_
  refine own_step (W' := s₁.setTop (mkF m 1 #[.val (.int (5 : Int32))] [(.int (5 : Int32))])) (fun _ k => XS.iloadN X0.here hx rfl (hb hby d1_0) rfl k) ?_
  refine own_step (W' := s₁.setTop (mkF m 8 #[.val (.int (5 : Int32))] [])) (fun _ k => XS.ifYes X0.here hx rfl (pc0 := 1) (pc' := 8) rfl (hb hby d1_1) rfl (by decide) (by decide) (by decide) k) ?_
  refine own_step (W' := s₁.setTop (mkF m 9 #[.val (.int (5 : Int32))] [(.int (5 : Int32))])) (fun _ k => XS.iloadN X0.here hx rfl (hb hby d1_8) rfl k) ?_
  refine own_step (W' := s₁.setTop (mkF m 10 #[.val (.int (5 : Int32))] [(.int (1 : Int32)), (.int (5 : Int32))])) (fun _ k => XS.iconst X0.here hx rfl (hb hby d1_9) k) ?_
  refine own_step (W' := s₁.setTop (mkF m 17 #[.val (.int (5 : Int32))] [])) (fun _ k => XS.icmpYes X0.here hx rfl (pc0 := 10) (pc' := 17) rfl (hb hby d1_10) rfl (by decide) (by decide) (by decide) k) ?_
  refine own_step (W' := s₁.setTop (mkF m 18 #[.val (.int (5 : Int32))] [(.int (5 : Int32))])) (fun _ k => XS.iloadN X0.here hx rfl (hb hby d1_17) rfl k) ?_
  refine own_step (W' := s₁.setTop (mkF m 19 #[.val (.int (5 : Int32))] [(.int (2 : Int32)), (.int (5 : Int32))])) (fun _ k => XS.iconst X0.here hx rfl (hb hby d1_18) k) ?_
  refine own_step (W' := s₁.setTop (mkF m 26 #[.val (.int (5 : Int32))] [])) (fun _ k => XS.icmpYes X0.here hx rfl (pc0 := 19) (pc' := 26) rfl (hb hby d1_19) rfl (by decide) (by decide) (by decide) k) ?_
  refine own_step (W' := s₁.setTop (mkF m 27 #[.val (.int (5 : Int32))] [(.int (5 : Int32))])) (fun _ k => XS.iloadN X0.here hx rfl (hb hby d1_26) rfl k) ?_
  refine own_step (W' := s₁.setTop (mkF m 28 #[.val (.int (5 : Int32))] [(.int (3 : Int32)), (.int (5 : Int32))])) (fun _ k => XS.iconst X0.here hx rfl (hb hby d1_27) k) ?_
  refine own_step (W' := s₁.setTop (mkF m 35 #[.val (.int (5 : Int32))] [])) (fun _ k => XS.icmpYes X0.here hx rfl (pc0 := 28) (pc' := 35) rfl (hb hby d1_28) rfl (by decide) (by decide) (by decide) k) ?_
  refine own_step (W' := s₁.setTop (mkF m 36 #[.val (.int (5 : Int32))] [(.int (5 : Int32))])) (fun _ k => XS.iloadN X0.here hx rfl (hb hby d1_35) rfl k) ?_
  refine own_step (W' := s₁.setTop (mkF m 37 #[.val (.int (5 : Int32))] [(.int (4 : Int32)), (.int (5 : Int32))])) (fun _ k => XS.iconst X0.here hx rfl (hb hby d1_36) k) ?_
  refine own_step (W' := s₁.setTop (mkF m 44 #[.val (.int (5 : Int32))] [])) (fun _ k => XS.icmpYes X0.here hx rfl (pc0 := 37) (pc' := 44) rfl (hb hby d1_37) rfl (by decide) (by decide) (by decide) k) ?_
  refine own_step (W' := s₁.setTop (mkF m 45 #[.val (.int (5 : Int32))] [(.int (5 : Int32))])) (fun _ k => XS.iloadN X0.here hx rfl (hb hby d1_44) rfl k) ?_
  refine own_step (W' := s₁.setTop (mkF m 46 #[.val (.int (5 : Int32))] [(.int (5 : Int32)), (.int (5 : Int32))])) (fun _ k => XS.iconst X0.here hx rfl (hb hby d1_45) k) ?_
  refine own_step (W' := s₁.setTop (mkF m 49 #[.val (.int (5 : Int32))] [])) (fun _ k => XS.icmpNo X0.here hx rfl (hb hby d1_46) rfl (by decide) k) ?_
  obtain ⟨T1, X1, e1, st1⟩ := getS2 X0 hx hZ hown (host := "") (Or.inl (hw _ (List.mem_of_getElem? (i := 37) rfl))) Via.refl e0 (pin_S12 P) (g := (mkF m 49 #[.val (.int (5 : Int32))] [])) rfl (hb hby d1_49)
  refine own_step (W' := T1.setTop (mkF m 52 #[.val (.int (5 : Int32))] [(.ref (w 12))])) (fun _ k => st1 _ k) ?_
  exact own_ret X1 Bd.notSynchronized Bd.returns (v := (.ref (w 12))) (fun fs hr => retOut X1 hx Bd.returns rfl (Or.inr (Or.inr (Or.inr (Or.inr ⟨rfl, rfl, rfl⟩)))) (hb hby d1_52) hr) ⟨rfl, N0, e1⟩ (by decide) (by decide)
set_option maxRecDepth 65536 in
set_option maxHeartbeats 40000000 in
theorem rm2_w12 (l : Launch) (Z : State) (a0 : Array Value) (hw : ∀ d ∈ tables_1, d.before a0 Z = true) (ws : List Jvm.Cond) (w : Nat → Addr) (h0 : Heap) (n0 : Nat) (Z0 : n0 ≤ h0.size) (P : Pins Z h0 w) :
    MetFree l (⟨"com/example/punctual_proof/punctualproof/network/BinaryOperator", "isComparison", "()Z"⟩ : MethodName) (head1 (Jvm.Cond.code (⟨"com/example/punctual_proof/punctualproof/network/BinaryOperator", "isComparison", "()Z"⟩ : MethodName) prog_59_method_8_code 1 (some .boolean) :: ws) ({ frames := 0, cells := 0, slots := 0, locals := 0 } : Room)) (fun a U => a = #[(.ref (w 12))] ∧ Z.Warmed39 U.vm ∧ U.heap = h0) (fun _ _ _ _ _ => True) (fun _ U o U' => ∃ v L, o = .returned v ∧ own_QK (some (.int (1 : Int32))) h0 n0 v U'.heap L ∧ FrameEnd U o U' L ({ frames := 0, cells := 0, slots := 0, locals := 0 } : Room).cells ({ frames := 0, cells := 0, slots := 0, locals := 0 } : Room).slots) := by
  refine MetFree.of_bodySF (plainFor_of_name pn_com_example_punctual_proof_punctualproof_network_BinaryOperator) hisR ?_
  intro p e s m args below meth c s₁ Bd hml0 hP hK
  obtain ⟨rfl, hZ, hh⟩ := hP
  have hx := Bd.exec
  have hby := Bd.bytes
  have hml : c.maxLocals = 1 := hml0
  have hown : s.vm.findClass "com/example/punctual_proof/punctualproof/network/BinaryOperator" = some m.cls := findClass_of_methodNamed Bd.named
  have hnm := (name_of_methodNamed Bd.named Bd.method).1
  have X0 : Stand p l e ({ frames := 0, cells := 0, slots := 0, locals := 0 } : Room) s m #[(.ref (w 12))] below meth c s₁ [] 0 0 := Stand.of_body Bd
  have e0 : s₁.heap = h0 := by rw [← hh, Bd.state]; rfl
  have N0 := Fr.nil n0
  refine own_enter (ef_2_R m (w 12)) ?_
  refine own_step (W' := s₁.setTop (mkF m 1 #[.val (.ref (w 12))] [(.ref (w 12))])) (fun _ k => XS.aloadN X0.here hx rfl (hb hby d2_0) rfl rfl k) ?_
  obtain ⟨T1, X1, e1, st1⟩ := getF X0 hx hZ hown (host := "") (Or.inl (hw _ (List.mem_of_getElem? (i := 13) rfl))) Via.refl e0 (pin_F12_precedence P) (g := (mkF m 1 #[.val (.ref (w 12))] [(.ref (w 12))])) rfl rfl (hb hby d2_1)
  refine own_step (W' := T1.setTop (mkF m 4 #[.val (.ref (w 12))] [(.int (5 : Int32))])) (fun _ k => st1 _ k) ?_
  refine own_step (W' := T1.setTop (mkF m 5 #[.val (.ref (w 12))] [(.int (5 : Int32)), (.int (5 : Int32))])) (fun _ k => XS.iconst X1.here hx rfl (hb hby d2_4) k) ?_
  refine own_step (W' := T1.setTop (mkF m 8 #[.val (.ref (w 12))] [])) (fun _ k => XS.icmpNo X1.here hx rfl (hb hby d2_5) rfl (by decide) k) ?_
  refine own_step (W' := T1.setTop (mkF m 9 #[.val (.ref (w 12))] [(.int (1 : Int32))])) (fun _ k => XS.iconst X1.here hx rfl (hb hby d2_8) k) ?_
  refine own_step (W' := T1.setTop (mkF m 13 #[.val (.ref (w 12))] [(.int (1 : Int32))])) (fun _ k => XS.goto X1.here hx rfl (pc0 := 9) (pc' := 13) rfl (hb hby d2_9) (by decide) (by decide) k) ?_
  exact own_ret X1 Bd.notSynchronized Bd.returns (v := (.int (1 : Int32))) (fun fs hr => retN X1 hx (t := .boolean) Bd.returns (by simp) (hb hby d2_13) hr) ⟨rfl, N0, e1⟩ (by decide) (by decide)
set_option maxRecDepth 65536 in
set_option maxHeartbeats 40000000 in
theorem rm0_5 (l : Launch) (Z : State) (a0 : Array Value) (hw : ∀ d ∈ tables_1, d.before a0 Z = true) (ws : List Jvm.Cond) (p1 : Int32) (hk : ((p1 &&& (2147483647 : Int32)) % (14 : Int32)) = (5 : Int32)) (w : Nat → Addr) (h0 : Heap) (n0 : Nat) (Z0 : n0 ≤ h0.size) (P : Pins Z h0 w) :
    MetFree l x (head1 (Jvm.Cond.code x code maxLocals ret :: ws) room_1) (fun a U => a = #[(.int p1)] ∧ Z.Warmed39 U.vm ∧ U.heap = h0) (fun _ _ _ _ _ => True) (fun _ U o U' => ∃ v L, o = .returned v ∧ own_Q0 n0 v U'.heap L ∧ FrameEnd U o U' L room_1.cells room_1.slots) := by
  refine MetFree.of_bodySF (plainFor_of_name pn_com_example_punctual_proof_punctualproof_network_BinaryOperatorIsComparisonPinLaw) hisR ?_
  intro p e s m args below meth c s₁ Bd hml0 hP hK
  obtain ⟨rfl, hZ, hh⟩ := hP
  have hx := Bd.exec
  have hby := Bd.bytes
  have hml : c.maxLocals = 4 := hml0
  have hown : s.vm.findClass "com/example/punctual_proof/punctualproof/network/BinaryOperatorIsComparisonPinLaw" = some m.cls := findClass_of_methodNamed Bd.named
  have hnm := (name_of_methodNamed Bd.named Bd.method).1
  have X0 : Stand p l e room_1 s m #[(.int p1)] below meth c s₁ [] 0 0 := Stand.of_body Bd
  have e0 : s₁.heap = h0 := by rw [← hh, Bd.state]; rfl
  have N0 := Fr.nil n0
  refine own_enter (ef_0_I m p1) ?_
  refine own_step (W' := s₁.setTop (mkF m 1 #[.val (.int p1), .unset, .unset, .unset] [(.int p1)])) (fun _ k => XS.iloadN X0.here hx rfl (hb hby at_0) rfl k) ?_
  refine own_step (W' := s₁.setTop (mkF m 3 #[.val (.int p1), .unset, .unset, .unset] [(.int (2147483647 : Int32)), (.int p1)])) (fun _ k => X0.ldcInt hx hown (mvT hZ (hw _ (List.mem_of_getElem? (i := 0) rfl))) (g := (mkF m 1 #[.val (.int p1), .unset, .unset, .unset] [(.int p1)])) rfl (hb hby at_1) _ k) ?_
  refine own_step (W' := s₁.setTop (mkF m 4 #[.val (.int p1), .unset, .unset, .unset] [(.int (p1 &&& (2147483647 : Int32)))])) (fun _ k => XS.iand X0.here hx rfl (hb hby at_3) rfl k) ?_
  refine own_step (W' := s₁.setTop (mkF m 6 #[.val (.int p1), .unset, .unset, .unset] [(.int (14 : Int32)), (.int (p1 &&& (2147483647 : Int32)))])) (fun _ k => XS.bipush X0.here hx rfl (hb hby at_4) k) ?_
  refine own_step (W' := s₁.setTop (mkF m 7 #[.val (.int p1), .unset, .unset, .unset] [(.int ((p1 &&& (2147483647 : Int32)) % (14 : Int32)))])) (fun _ k => iremM X0 hx rfl (hb hby at_6) rfl (by decide) k) ?_
  rw [hk]
  refine own_step (W' := s₁.setTop (mkF m 8 #[.val (.int p1), .val (.int (5 : Int32)), .unset, .unset] [])) (fun _ k => XS.istoreN X0.here hx rfl (hb hby at_7) rfl (l' := #[.val (.int p1), .val (.int (5 : Int32)), .unset, .unset]) rfl k) ?_
  refine own_step (W' := s₁.setTop (mkF m 9 #[.val (.int p1), .val (.int (5 : Int32)), .unset, .unset] [(.int (5 : Int32))])) (fun _ k => XS.iloadN X0.here hx rfl (hb hby at_8) rfl k) ?_
  obtain ⟨_, _, ⟨T1, L1, k1, n1⟩, -, X1, ⟨Lc1, hQ1, l1, y1, z1⟩, st1⟩ := Jvm.LawKit.callS X0 hx (y := (⟨"com/example/punctual_proof/punctualproof/network/BinaryOperatorIsComparisonPinLaw", "pick", "(I)Lcom/example/punctual_proof/punctualproof/network/BinaryOperator;"⟩ : MethodName)) hown (mvT hZ (hw _ (List.mem_of_getElem? (i := 1) rfl))) (mvT hZ (hw _ (List.mem_of_getElem? (i := 2) rfl))) (mvT hZ (hw _ (List.mem_of_getElem? (i := 3) rfl))) (mvT hZ (hw _ (List.mem_of_getElem? (i := 4) rfl))) (by decide) (backOf (W := 0) (rm1_5 l Z a0 hw [] w h0 n0 Z0 P) hZ (hw _ (List.mem_of_getElem? (i := 4) rfl)) (hw _ (List.mem_of_getElem? (i := 3) rfl)) (by decide) (by decide)) (g := (mkF m 9 #[.val (.int p1), .val (.int (5 : Int32)), .unset, .unset] [(.int (5 : Int32))])) rfl (by rw [hml]; rfl) (argsL := [(.int (5 : Int32))]) (rest := []) (lenOf pd_0 rfl) rfl (by show 2 * 0 + _ ≤ _; exact Nat.le_of_eq rfl) (hb hby at_9) (fun _ _ => ⟨rfl, e0, (by decide : 0 + 0 ≤ _), (by decide : 0 + 0 ≤ _)⟩)
  dsimp only [Pt.U, Pt.locs, Pt.cells, Pt.slots] at X1 l1 y1 z1 st1 hQ1
  subst l1 y1 z1
  obtain ⟨rfl, N1q, e1⟩ := hQ1
  have N1 := Fr.app N0 N1q
  refine own_step (W' := T1.setTop (mkF m 12 #[.val (.int p1), .val (.int (5 : Int32)), .unset, .unset] [(.ref (w 12))])) (fun _ k => st1 _ k) ?_
  refine own_step (W' := T1.setTop (mkF m 13 #[.val (.int p1), .val (.int (5 : Int32)), .val (.ref (w 12)), .unset] [])) (fun _ k => XS.astoreN X1.here hx rfl (hb hby at_12) rfl rfl (l' := #[.val (.int p1), .val (.int (5 : Int32)), .val (.ref (w 12)), .unset]) rfl k) ?_
  refine own_step (W' := T1.setTop (mkF m 14 #[.val (.int p1), .val (.int (5 : Int32)), .val (.ref (w 12)), .unset] [(.int (5 : Int32))])) (fun _ k => XS.iloadN X1.here hx rfl (hb hby at_13) rfl k) ?_
  refine own_step (W' := T1.setTop (mkF m 15 #[.val (.int p1), .val (.int (5 : Int32)), .val (.ref (w 12)), .unset] [(.int (3 : Int32)), (.int (5 : Int32))])) (fun _ k => XS.iconst X1.here hx rfl (hb hby at_14) k) ?_
  refine own_step (W' := T1.setTop (mkF m 18 #[.val (.int p1), .val (.int (5 : Int32)), .val (.ref (w 12)), .unset] [])) (fun _ k => XS.icmpNo X1.here hx rfl (hb hby at_15) rfl (by decide) k) ?_
  refine own_step (W' := T1.setTop (mkF m 19 #[.val (.int p1), .val (.int (5 : Int32)), .val (.ref (w 12)), .unset] [(.int (5 : Int32))])) (fun _ k => XS.iloadN X1.here hx rfl (hb hby at_18) rfl k) ?_
  refine own_step (W' := T1.setTop (mkF m 20 #[.val (.int p1), .val (.int (5 : Int32)), .val (.ref (w 12)), .unset] [(.int (4 : Int32)), (.int (5 : Int32))])) (fun _ k => XS.iconst X1.here hx rfl (hb hby at_19) k) ?_
  refine own_step (W' := T1.setTop (mkF m 23 #[.val (.int p1), .val (.int (5 : Int32)), .val (.ref (w 12)), .unset] [])) (fun _ k => XS.icmpNo X1.here hx rfl (hb hby at_20) rfl (by decide) k) ?_
  refine own_step (W' := T1.setTop (mkF m 24 #[.val (.int p1), .val (.int (5 : Int32)), .val (.ref (w 12)), .unset] [(.int (5 : Int32))])) (fun _ k => XS.iloadN X1.here hx rfl (hb hby at_23) rfl k) ?_
  refine own_step (W' := T1.setTop (mkF m 25 #[.val (.int p1), .val (.int (5 : Int32)), .val (.ref (w 12)), .unset] [(.int (5 : Int32)), (.int (5 : Int32))])) (fun _ k => XS.iconst X1.here hx rfl (hb hby at_24) k) ?_
  refine own_step (W' := T1.setTop (mkF m 46 #[.val (.int p1), .val (.int (5 : Int32)), .val (.ref (w 12)), .unset] [])) (fun _ k => XS.icmpYes X1.here hx rfl (pc0 := 25) (pc' := 46) rfl (hb hby at_25) rfl (by decide) (by decide) (by decide) k) ?_
  refine own_step (W' := T1.setTop (mkF m 47 #[.val (.int p1), .val (.int (5 : Int32)), .val (.ref (w 12)), .unset] [(.int (1 : Int32))])) (fun _ k => XS.iconst X1.here hx rfl (hb hby at_46) k) ?_
  refine own_step (W' := T1.setTop (mkF m 51 #[.val (.int p1), .val (.int (5 : Int32)), .val (.ref (w 12)), .unset] [(.int (1 : Int32))])) (fun _ k => XS.goto X1.here hx rfl (pc0 := 47) (pc' := 51) rfl (hb hby at_47) (by decide) (by decide) k) ?_
  refine own_step (W' := T1.setTop (mkF m 52 #[.val (.int p1), .val (.int (5 : Int32)), .val (.ref (w 12)), .val (.int (1 : Int32))] [])) (fun _ k => XS.istoreN X1.here hx rfl (hb hby at_51) rfl (l' := #[.val (.int p1), .val (.int (5 : Int32)), .val (.ref (w 12)), .val (.int (1 : Int32))]) rfl k) ?_
  refine own_step (W' := T1.setTop (mkF m 53 #[.val (.int p1), .val (.int (5 : Int32)), .val (.ref (w 12)), .val (.int (1 : Int32))] [(.ref (w 12))])) (fun _ k => XS.aloadN X1.here hx rfl (hb hby at_52) rfl rfl k) ?_
  obtain ⟨cq2, kq2, q2a, q2b, q2c⟩ := isOf hZ e1 (pin_E12 P)
  obtain ⟨_, _, ⟨T2, L2, k2, n2⟩, -, X2, ⟨Lc2, hQ2, l2, y2, z2⟩, st2⟩ := X1.virtualBack hx (y := (⟨"com/example/punctual_proof/punctualproof/network/BinaryOperator", "isComparison", "()Z"⟩ : MethodName)) (z := (⟨"com/example/punctual_proof/punctualproof/network/BinaryOperator", "isComparison", "()Z"⟩ : MethodName)) hown (mvT hZ (hw _ (List.mem_of_getElem? (i := 8) rfl))) (mvT hZ (hw _ (List.mem_of_getElem? (i := 9) rfl))) (notFace_of_selects (args := #[]) (mvT hZ (hw _ (List.mem_of_getElem? (i := 11) rfl)))) (mvT hZ (hw _ (List.mem_of_getElem? (i := 11) rfl))) (mvT hZ (hw _ (List.mem_of_getElem? (i := 10) rfl))) (by decide) (backOf (W := 0) (rm2_w12 l Z a0 hw [] w h0 n0 Z0 P) hZ (hw _ (List.mem_of_getElem? (i := 12) rfl)) (hw _ (List.mem_of_getElem? (i := 6) rfl)) (by decide) (by decide)) q2a q2c (g := (mkF m 53 #[.val (.int p1), .val (.int (5 : Int32)), .val (.ref (w 12)), .val (.int (1 : Int32))] [(.ref (w 12))])) rfl (by rw [hml]; rfl) (Steps.refl _) (argsL := []) (rest := []) (lenOf pd_1 rfl) rfl (by show 2 * 0 + _ ≤ _; exact Nat.le_of_eq rfl) (hb hby at_53) (fun _ _ => ⟨rfl, e1, (by decide : 0 + 0 ≤ _), (by decide : 0 + 0 ≤ _)⟩)
  dsimp only [Pt.U, Pt.locs, Pt.cells, Pt.slots] at X2 l2 y2 z2 st2 hQ2
  subst l2 y2 z2
  obtain ⟨rfl, N2q, e2⟩ := hQ2
  have N2 := Fr.app N1 N2q
  refine own_step (W' := T2.setTop (mkF m 56 #[.val (.int p1), .val (.int (5 : Int32)), .val (.ref (w 12)), .val (.int (1 : Int32))] [(.int (1 : Int32))])) (fun _ k => st2.trans k) ?_
  refine own_step (W' := T2.setTop (mkF m 57 #[.val (.int p1), .val (.int (5 : Int32)), .val (.ref (w 12)), .val (.int (1 : Int32))] [(.int (1 : Int32)), (.int (1 : Int32))])) (fun _ k => XS.iloadN X2.here hx rfl (hb hby at_56) rfl k) ?_
  refine own_step (W' := T2.setTop (mkF m 60 #[.val (.int p1), .val (.int (5 : Int32)), .val (.ref (w 12)), .val (.int (1 : Int32))] [])) (fun _ k => XS.icmpNo X2.here hx rfl (hb hby at_57) rfl (by decide) k) ?_
  refine own_step (W' := T2.setTop (mkF m 61 #[.val (.int p1), .val (.int (5 : Int32)), .val (.ref (w 12)), .val (.int (1 : Int32))] [(.int (1 : Int32))])) (fun _ k => XS.iconst X2.here hx rfl (hb hby at_60) k) ?_
  refine own_step (W' := T2.setTop (mkF m 65 #[.val (.int p1), .val (.int (5 : Int32)), .val (.ref (w 12)), .val (.int (1 : Int32))] [(.int (1 : Int32))])) (fun _ k => XS.goto X2.here hx rfl (pc0 := 61) (pc' := 65) rfl (hb hby at_61) (by decide) (by decide) k) ?_
  exact own_ret X2 Bd.notSynchronized Bd.returns (v := (.int (1 : Int32))) (fun fs hr => retN X2 hx (t := .boolean) Bd.returns (by simp) (hb hby at_65) hr) ⟨rfl, N2⟩ (by decide) (by decide)
set_option maxRecDepth 65536 in
set_option maxHeartbeats 40000000 in
theorem rm1_6 (l : Launch) (Z : State) (a0 : Array Value) (hw : ∀ d ∈ tables_1, d.before a0 Z = true) (ws : List Jvm.Cond) (w : Nat → Addr) (h0 : Heap) (n0 : Nat) (Z0 : n0 ≤ h0.size) (P : Pins Z h0 w) :
    MetFree l (⟨"com/example/punctual_proof/punctualproof/network/BinaryOperatorIsComparisonPinLaw", "pick", "(I)Lcom/example/punctual_proof/punctualproof/network/BinaryOperator;"⟩ : MethodName) (head1 (Jvm.Cond.code (⟨"com/example/punctual_proof/punctualproof/network/BinaryOperatorIsComparisonPinLaw", "pick", "(I)Lcom/example/punctual_proof/punctualproof/network/BinaryOperator;"⟩ : MethodName) method_3_code 1 (some (.object "com/example/punctual_proof/punctualproof/network/BinaryOperator")) :: ws) ({ frames := 0, cells := 0, slots := 0, locals := 0 } : Room)) (fun a U => a = #[(.int (6 : Int32))] ∧ Z.Warmed39 U.vm ∧ U.heap = h0) (fun _ _ _ _ _ => True) (fun _ U o U' => ∃ v L, o = .returned v ∧ own_QK (some (.ref (w 13))) h0 n0 v U'.heap L ∧ FrameEnd U o U' L ({ frames := 0, cells := 0, slots := 0, locals := 0 } : Room).cells ({ frames := 0, cells := 0, slots := 0, locals := 0 } : Room).slots) := by
  refine MetFree.of_bodySF (plainFor_of_name pn_com_example_punctual_proof_punctualproof_network_BinaryOperatorIsComparisonPinLaw) hisR ?_
  intro p e s m args below meth c s₁ Bd hml0 hP hK
  obtain ⟨rfl, hZ, hh⟩ := hP
  have hx := Bd.exec
  have hby := Bd.bytes
  have hml : c.maxLocals = 1 := hml0
  have hown : s.vm.findClass "com/example/punctual_proof/punctualproof/network/BinaryOperatorIsComparisonPinLaw" = some m.cls := findClass_of_methodNamed Bd.named
  have hnm := (name_of_methodNamed Bd.named Bd.method).1
  have X0 : Stand p l e ({ frames := 0, cells := 0, slots := 0, locals := 0 } : Room) s m #[(.int (6 : Int32))] below meth c s₁ [] 0 0 := Stand.of_body Bd
  have e0 : s₁.heap = h0 := by rw [← hh, Bd.state]; rfl
  have N0 := Fr.nil n0
  refine own_enter (ef_1_I m (6 : Int32)) ?_
  refine own_step (W' := s₁.setTop (mkF m 1 #[.val (.int (6 : Int32))] [(.int (6 : Int32))])) (fun _ k => XS.iloadN X0.here hx rfl (hb hby d1_0) rfl k) ?_
  refine own_step (W' := s₁.setTop (mkF m 8 #[.val (.int (6 : Int32))] [])) (fun _ k => XS.ifYes X0.here hx rfl (pc0 := 1) (pc' := 8) rfl (hb hby d1_1) rfl (by decide) (by decide) (by decide) k) ?_
  refine own_step (W' := s₁.setTop (mkF m 9 #[.val (.int (6 : Int32))] [(.int (6 : Int32))])) (fun _ k => XS.iloadN X0.here hx rfl (hb hby d1_8) rfl k) ?_
  refine own_step (W' := s₁.setTop (mkF m 10 #[.val (.int (6 : Int32))] [(.int (1 : Int32)), (.int (6 : Int32))])) (fun _ k => XS.iconst X0.here hx rfl (hb hby d1_9) k) ?_
  refine own_step (W' := s₁.setTop (mkF m 17 #[.val (.int (6 : Int32))] [])) (fun _ k => XS.icmpYes X0.here hx rfl (pc0 := 10) (pc' := 17) rfl (hb hby d1_10) rfl (by decide) (by decide) (by decide) k) ?_
  refine own_step (W' := s₁.setTop (mkF m 18 #[.val (.int (6 : Int32))] [(.int (6 : Int32))])) (fun _ k => XS.iloadN X0.here hx rfl (hb hby d1_17) rfl k) ?_
  refine own_step (W' := s₁.setTop (mkF m 19 #[.val (.int (6 : Int32))] [(.int (2 : Int32)), (.int (6 : Int32))])) (fun _ k => XS.iconst X0.here hx rfl (hb hby d1_18) k) ?_
  refine own_step (W' := s₁.setTop (mkF m 26 #[.val (.int (6 : Int32))] [])) (fun _ k => XS.icmpYes X0.here hx rfl (pc0 := 19) (pc' := 26) rfl (hb hby d1_19) rfl (by decide) (by decide) (by decide) k) ?_
  refine own_step (W' := s₁.setTop (mkF m 27 #[.val (.int (6 : Int32))] [(.int (6 : Int32))])) (fun _ k => XS.iloadN X0.here hx rfl (hb hby d1_26) rfl k) ?_
  refine own_step (W' := s₁.setTop (mkF m 28 #[.val (.int (6 : Int32))] [(.int (3 : Int32)), (.int (6 : Int32))])) (fun _ k => XS.iconst X0.here hx rfl (hb hby d1_27) k) ?_
  refine own_step (W' := s₁.setTop (mkF m 35 #[.val (.int (6 : Int32))] [])) (fun _ k => XS.icmpYes X0.here hx rfl (pc0 := 28) (pc' := 35) rfl (hb hby d1_28) rfl (by decide) (by decide) (by decide) k) ?_
  refine own_step (W' := s₁.setTop (mkF m 36 #[.val (.int (6 : Int32))] [(.int (6 : Int32))])) (fun _ k => XS.iloadN X0.here hx rfl (hb hby d1_35) rfl k) ?_
  refine own_step (W' := s₁.setTop (mkF m 37 #[.val (.int (6 : Int32))] [(.int (4 : Int32)), (.int (6 : Int32))])) (fun _ k => XS.iconst X0.here hx rfl (hb hby d1_36) k) ?_
  refine own_step (W' := s₁.setTop (mkF m 44 #[.val (.int (6 : Int32))] [])) (fun _ k => XS.icmpYes X0.here hx rfl (pc0 := 37) (pc' := 44) rfl (hb hby d1_37) rfl (by decide) (by decide) (by decide) k) ?_
  refine own_step (W' := s₁.setTop (mkF m 45 #[.val (.int (6 : Int32))] [(.int (6 : Int32))])) (fun _ k => XS.iloadN X0.here hx rfl (hb hby d1_44) rfl k) ?_
  refine own_step (W' := s₁.setTop (mkF m 46 #[.val (.int (6 : Int32))] [(.int (5 : Int32)), (.int (6 : Int32))])) (fun _ k => XS.iconst X0.here hx rfl (hb hby d1_45) k) ?_
  refine own_step (W' := s₁.setTop (mkF m 53 #[.val (.int (6 : Int32))] [])) (fun _ k => XS.icmpYes X0.here hx rfl (pc0 := 46) (pc' := 53) rfl (hb hby d1_46) rfl (by decide) (by decide) (by decide) k) ?_
  refine own_step (W' := s₁.setTop (mkF m 54 #[.val (.int (6 : Int32))] [(.int (6 : Int32))])) (fun _ k => XS.iloadN X0.here hx rfl (hb hby d1_53) rfl k) ?_
  refine own_step (W' := s₁.setTop (mkF m 56 #[.val (.int (6 : Int32))] [(.int (6 : Int32)), (.int (6 : Int32))])) (fun _ k => XS.bipush X0.here hx rfl (hb hby d1_54) k) ?_
  refine own_step (W' := s₁.setTop (mkF m 59 #[.val (.int (6 : Int32))] [])) (fun _ k => XS.icmpNo X0.here hx rfl (hb hby d1_56) rfl (by decide) k) ?_
  obtain ⟨T1, X1, e1, st1⟩ := getS2 X0 hx hZ hown (host := "") (Or.inl (hw _ (List.mem_of_getElem? (i := 39) rfl))) Via.refl e0 (pin_S13 P) (g := (mkF m 59 #[.val (.int (6 : Int32))] [])) rfl (hb hby d1_59)
  refine own_step (W' := T1.setTop (mkF m 62 #[.val (.int (6 : Int32))] [(.ref (w 13))])) (fun _ k => st1 _ k) ?_
  exact own_ret X1 Bd.notSynchronized Bd.returns (v := (.ref (w 13))) (fun fs hr => retOut X1 hx Bd.returns rfl (Or.inr (Or.inr (Or.inr (Or.inr ⟨rfl, rfl, rfl⟩)))) (hb hby d1_62) hr) ⟨rfl, N0, e1⟩ (by decide) (by decide)
set_option maxRecDepth 65536 in
set_option maxHeartbeats 40000000 in
theorem rm2_w13 (l : Launch) (Z : State) (a0 : Array Value) (hw : ∀ d ∈ tables_1, d.before a0 Z = true) (ws : List Jvm.Cond) (w : Nat → Addr) (h0 : Heap) (n0 : Nat) (Z0 : n0 ≤ h0.size) (P : Pins Z h0 w) :
    MetFree l (⟨"com/example/punctual_proof/punctualproof/network/BinaryOperator", "isComparison", "()Z"⟩ : MethodName) (head1 (Jvm.Cond.code (⟨"com/example/punctual_proof/punctualproof/network/BinaryOperator", "isComparison", "()Z"⟩ : MethodName) prog_59_method_8_code 1 (some .boolean) :: ws) ({ frames := 0, cells := 0, slots := 0, locals := 0 } : Room)) (fun a U => a = #[(.ref (w 13))] ∧ Z.Warmed39 U.vm ∧ U.heap = h0) (fun _ _ _ _ _ => True) (fun _ U o U' => ∃ v L, o = .returned v ∧ own_QK (some (.int (1 : Int32))) h0 n0 v U'.heap L ∧ FrameEnd U o U' L ({ frames := 0, cells := 0, slots := 0, locals := 0 } : Room).cells ({ frames := 0, cells := 0, slots := 0, locals := 0 } : Room).slots) := by
  refine MetFree.of_bodySF (plainFor_of_name pn_com_example_punctual_proof_punctualproof_network_BinaryOperator) hisR ?_
  intro p e s m args below meth c s₁ Bd hml0 hP hK
  obtain ⟨rfl, hZ, hh⟩ := hP
  have hx := Bd.exec
  have hby := Bd.bytes
  have hml : c.maxLocals = 1 := hml0
  have hown : s.vm.findClass "com/example/punctual_proof/punctualproof/network/BinaryOperator" = some m.cls := findClass_of_methodNamed Bd.named
  have hnm := (name_of_methodNamed Bd.named Bd.method).1
  have X0 : Stand p l e ({ frames := 0, cells := 0, slots := 0, locals := 0 } : Room) s m #[(.ref (w 13))] below meth c s₁ [] 0 0 := Stand.of_body Bd
  have e0 : s₁.heap = h0 := by rw [← hh, Bd.state]; rfl
  have N0 := Fr.nil n0
  refine own_enter (ef_2_R m (w 13)) ?_
  refine own_step (W' := s₁.setTop (mkF m 1 #[.val (.ref (w 13))] [(.ref (w 13))])) (fun _ k => XS.aloadN X0.here hx rfl (hb hby d2_0) rfl rfl k) ?_
  obtain ⟨T1, X1, e1, st1⟩ := getF X0 hx hZ hown (host := "") (Or.inl (hw _ (List.mem_of_getElem? (i := 13) rfl))) Via.refl e0 (pin_F13_precedence P) (g := (mkF m 1 #[.val (.ref (w 13))] [(.ref (w 13))])) rfl rfl (hb hby d2_1)
  refine own_step (W' := T1.setTop (mkF m 4 #[.val (.ref (w 13))] [(.int (5 : Int32))])) (fun _ k => st1 _ k) ?_
  refine own_step (W' := T1.setTop (mkF m 5 #[.val (.ref (w 13))] [(.int (5 : Int32)), (.int (5 : Int32))])) (fun _ k => XS.iconst X1.here hx rfl (hb hby d2_4) k) ?_
  refine own_step (W' := T1.setTop (mkF m 8 #[.val (.ref (w 13))] [])) (fun _ k => XS.icmpNo X1.here hx rfl (hb hby d2_5) rfl (by decide) k) ?_
  refine own_step (W' := T1.setTop (mkF m 9 #[.val (.ref (w 13))] [(.int (1 : Int32))])) (fun _ k => XS.iconst X1.here hx rfl (hb hby d2_8) k) ?_
  refine own_step (W' := T1.setTop (mkF m 13 #[.val (.ref (w 13))] [(.int (1 : Int32))])) (fun _ k => XS.goto X1.here hx rfl (pc0 := 9) (pc' := 13) rfl (hb hby d2_9) (by decide) (by decide) k) ?_
  exact own_ret X1 Bd.notSynchronized Bd.returns (v := (.int (1 : Int32))) (fun fs hr => retN X1 hx (t := .boolean) Bd.returns (by simp) (hb hby d2_13) hr) ⟨rfl, N0, e1⟩ (by decide) (by decide)
set_option maxRecDepth 65536 in
set_option maxHeartbeats 40000000 in
theorem rm0_6 (l : Launch) (Z : State) (a0 : Array Value) (hw : ∀ d ∈ tables_1, d.before a0 Z = true) (ws : List Jvm.Cond) (p1 : Int32) (hk : ((p1 &&& (2147483647 : Int32)) % (14 : Int32)) = (6 : Int32)) (w : Nat → Addr) (h0 : Heap) (n0 : Nat) (Z0 : n0 ≤ h0.size) (P : Pins Z h0 w) :
    MetFree l x (head1 (Jvm.Cond.code x code maxLocals ret :: ws) room_1) (fun a U => a = #[(.int p1)] ∧ Z.Warmed39 U.vm ∧ U.heap = h0) (fun _ _ _ _ _ => True) (fun _ U o U' => ∃ v L, o = .returned v ∧ own_Q0 n0 v U'.heap L ∧ FrameEnd U o U' L room_1.cells room_1.slots) := by
  refine MetFree.of_bodySF (plainFor_of_name pn_com_example_punctual_proof_punctualproof_network_BinaryOperatorIsComparisonPinLaw) hisR ?_
  intro p e s m args below meth c s₁ Bd hml0 hP hK
  obtain ⟨rfl, hZ, hh⟩ := hP
  have hx := Bd.exec
  have hby := Bd.bytes
  have hml : c.maxLocals = 4 := hml0
  have hown : s.vm.findClass "com/example/punctual_proof/punctualproof/network/BinaryOperatorIsComparisonPinLaw" = some m.cls := findClass_of_methodNamed Bd.named
  have hnm := (name_of_methodNamed Bd.named Bd.method).1
  have X0 : Stand p l e room_1 s m #[(.int p1)] below meth c s₁ [] 0 0 := Stand.of_body Bd
  have e0 : s₁.heap = h0 := by rw [← hh, Bd.state]; rfl
  have N0 := Fr.nil n0
  refine own_enter (ef_0_I m p1) ?_
  refine own_step (W' := s₁.setTop (mkF m 1 #[.val (.int p1), .unset, .unset, .unset] [(.int p1)])) (fun _ k => XS.iloadN X0.here hx rfl (hb hby at_0) rfl k) ?_
  refine own_step (W' := s₁.setTop (mkF m 3 #[.val (.int p1), .unset, .unset, .unset] [(.int (2147483647 : Int32)), (.int p1)])) (fun _ k => X0.ldcInt hx hown (mvT hZ (hw _ (List.mem_of_getElem? (i := 0) rfl))) (g := (mkF m 1 #[.val (.int p1), .unset, .unset, .unset] [(.int p1)])) rfl (hb hby at_1) _ k) ?_
  refine own_step (W' := s₁.setTop (mkF m 4 #[.val (.int p1), .unset, .unset, .unset] [(.int (p1 &&& (2147483647 : Int32)))])) (fun _ k => XS.iand X0.here hx rfl (hb hby at_3) rfl k) ?_
  refine own_step (W' := s₁.setTop (mkF m 6 #[.val (.int p1), .unset, .unset, .unset] [(.int (14 : Int32)), (.int (p1 &&& (2147483647 : Int32)))])) (fun _ k => XS.bipush X0.here hx rfl (hb hby at_4) k) ?_
  refine own_step (W' := s₁.setTop (mkF m 7 #[.val (.int p1), .unset, .unset, .unset] [(.int ((p1 &&& (2147483647 : Int32)) % (14 : Int32)))])) (fun _ k => iremM X0 hx rfl (hb hby at_6) rfl (by decide) k) ?_
  rw [hk]
  refine own_step (W' := s₁.setTop (mkF m 8 #[.val (.int p1), .val (.int (6 : Int32)), .unset, .unset] [])) (fun _ k => XS.istoreN X0.here hx rfl (hb hby at_7) rfl (l' := #[.val (.int p1), .val (.int (6 : Int32)), .unset, .unset]) rfl k) ?_
  refine own_step (W' := s₁.setTop (mkF m 9 #[.val (.int p1), .val (.int (6 : Int32)), .unset, .unset] [(.int (6 : Int32))])) (fun _ k => XS.iloadN X0.here hx rfl (hb hby at_8) rfl k) ?_
  obtain ⟨_, _, ⟨T1, L1, k1, n1⟩, -, X1, ⟨Lc1, hQ1, l1, y1, z1⟩, st1⟩ := Jvm.LawKit.callS X0 hx (y := (⟨"com/example/punctual_proof/punctualproof/network/BinaryOperatorIsComparisonPinLaw", "pick", "(I)Lcom/example/punctual_proof/punctualproof/network/BinaryOperator;"⟩ : MethodName)) hown (mvT hZ (hw _ (List.mem_of_getElem? (i := 1) rfl))) (mvT hZ (hw _ (List.mem_of_getElem? (i := 2) rfl))) (mvT hZ (hw _ (List.mem_of_getElem? (i := 3) rfl))) (mvT hZ (hw _ (List.mem_of_getElem? (i := 4) rfl))) (by decide) (backOf (W := 0) (rm1_6 l Z a0 hw [] w h0 n0 Z0 P) hZ (hw _ (List.mem_of_getElem? (i := 4) rfl)) (hw _ (List.mem_of_getElem? (i := 3) rfl)) (by decide) (by decide)) (g := (mkF m 9 #[.val (.int p1), .val (.int (6 : Int32)), .unset, .unset] [(.int (6 : Int32))])) rfl (by rw [hml]; rfl) (argsL := [(.int (6 : Int32))]) (rest := []) (lenOf pd_0 rfl) rfl (by show 2 * 0 + _ ≤ _; exact Nat.le_of_eq rfl) (hb hby at_9) (fun _ _ => ⟨rfl, e0, (by decide : 0 + 0 ≤ _), (by decide : 0 + 0 ≤ _)⟩)
  dsimp only [Pt.U, Pt.locs, Pt.cells, Pt.slots] at X1 l1 y1 z1 st1 hQ1
  subst l1 y1 z1
  obtain ⟨rfl, N1q, e1⟩ := hQ1
  have N1 := Fr.app N0 N1q
  refine own_step (W' := T1.setTop (mkF m 12 #[.val (.int p1), .val (.int (6 : Int32)), .unset, .unset] [(.ref (w 13))])) (fun _ k => st1 _ k) ?_
  refine own_step (W' := T1.setTop (mkF m 13 #[.val (.int p1), .val (.int (6 : Int32)), .val (.ref (w 13)), .unset] [])) (fun _ k => XS.astoreN X1.here hx rfl (hb hby at_12) rfl rfl (l' := #[.val (.int p1), .val (.int (6 : Int32)), .val (.ref (w 13)), .unset]) rfl k) ?_
  refine own_step (W' := T1.setTop (mkF m 14 #[.val (.int p1), .val (.int (6 : Int32)), .val (.ref (w 13)), .unset] [(.int (6 : Int32))])) (fun _ k => XS.iloadN X1.here hx rfl (hb hby at_13) rfl k) ?_
  refine own_step (W' := T1.setTop (mkF m 15 #[.val (.int p1), .val (.int (6 : Int32)), .val (.ref (w 13)), .unset] [(.int (3 : Int32)), (.int (6 : Int32))])) (fun _ k => XS.iconst X1.here hx rfl (hb hby at_14) k) ?_
  refine own_step (W' := T1.setTop (mkF m 18 #[.val (.int p1), .val (.int (6 : Int32)), .val (.ref (w 13)), .unset] [])) (fun _ k => XS.icmpNo X1.here hx rfl (hb hby at_15) rfl (by decide) k) ?_
  refine own_step (W' := T1.setTop (mkF m 19 #[.val (.int p1), .val (.int (6 : Int32)), .val (.ref (w 13)), .unset] [(.int (6 : Int32))])) (fun _ k => XS.iloadN X1.here hx rfl (hb hby at_18) rfl k) ?_
  refine own_step (W' := T1.setTop (mkF m 20 #[.val (.int p1), .val (.int (6 : Int32)), .val (.ref (w 13)), .unset] [(.int (4 : Int32)), (.int (6 : Int32))])) (fun _ k => XS.iconst X1.here hx rfl (hb hby at_19) k) ?_
  refine own_step (W' := T1.setTop (mkF m 23 #[.val (.int p1), .val (.int (6 : Int32)), .val (.ref (w 13)), .unset] [])) (fun _ k => XS.icmpNo X1.here hx rfl (hb hby at_20) rfl (by decide) k) ?_
  refine own_step (W' := T1.setTop (mkF m 24 #[.val (.int p1), .val (.int (6 : Int32)), .val (.ref (w 13)), .unset] [(.int (6 : Int32))])) (fun _ k => XS.iloadN X1.here hx rfl (hb hby at_23) rfl k) ?_
  refine own_step (W' := T1.setTop (mkF m 25 #[.val (.int p1), .val (.int (6 : Int32)), .val (.ref (w 13)), .unset] [(.int (5 : Int32)), (.int (6 : Int32))])) (fun _ k => XS.iconst X1.here hx rfl (hb hby at_24) k) ?_
  refine own_step (W' := T1.setTop (mkF m 28 #[.val (.int p1), .val (.int (6 : Int32)), .val (.ref (w 13)), .unset] [])) (fun _ k => XS.icmpNo X1.here hx rfl (hb hby at_25) rfl (by decide) k) ?_
  refine own_step (W' := T1.setTop (mkF m 29 #[.val (.int p1), .val (.int (6 : Int32)), .val (.ref (w 13)), .unset] [(.int (6 : Int32))])) (fun _ k => XS.iloadN X1.here hx rfl (hb hby at_28) rfl k) ?_
  refine own_step (W' := T1.setTop (mkF m 31 #[.val (.int p1), .val (.int (6 : Int32)), .val (.ref (w 13)), .unset] [(.int (6 : Int32)), (.int (6 : Int32))])) (fun _ k => XS.bipush X1.here hx rfl (hb hby at_29) k) ?_
  refine own_step (W' := T1.setTop (mkF m 46 #[.val (.int p1), .val (.int (6 : Int32)), .val (.ref (w 13)), .unset] [])) (fun _ k => XS.icmpYes X1.here hx rfl (pc0 := 31) (pc' := 46) rfl (hb hby at_31) rfl (by decide) (by decide) (by decide) k) ?_
  refine own_step (W' := T1.setTop (mkF m 47 #[.val (.int p1), .val (.int (6 : Int32)), .val (.ref (w 13)), .unset] [(.int (1 : Int32))])) (fun _ k => XS.iconst X1.here hx rfl (hb hby at_46) k) ?_
  refine own_step (W' := T1.setTop (mkF m 51 #[.val (.int p1), .val (.int (6 : Int32)), .val (.ref (w 13)), .unset] [(.int (1 : Int32))])) (fun _ k => XS.goto X1.here hx rfl (pc0 := 47) (pc' := 51) rfl (hb hby at_47) (by decide) (by decide) k) ?_
  refine own_step (W' := T1.setTop (mkF m 52 #[.val (.int p1), .val (.int (6 : Int32)), .val (.ref (w 13)), .val (.int (1 : Int32))] [])) (fun _ k => XS.istoreN X1.here hx rfl (hb hby at_51) rfl (l' := #[.val (.int p1), .val (.int (6 : Int32)), .val (.ref (w 13)), .val (.int (1 : Int32))]) rfl k) ?_
  refine own_step (W' := T1.setTop (mkF m 53 #[.val (.int p1), .val (.int (6 : Int32)), .val (.ref (w 13)), .val (.int (1 : Int32))] [(.ref (w 13))])) (fun _ k => XS.aloadN X1.here hx rfl (hb hby at_52) rfl rfl k) ?_
  obtain ⟨cq2, kq2, q2a, q2b, q2c⟩ := isOf hZ e1 (pin_E13 P)
  obtain ⟨_, _, ⟨T2, L2, k2, n2⟩, -, X2, ⟨Lc2, hQ2, l2, y2, z2⟩, st2⟩ := X1.virtualBack hx (y := (⟨"com/example/punctual_proof/punctualproof/network/BinaryOperator", "isComparison", "()Z"⟩ : MethodName)) (z := (⟨"com/example/punctual_proof/punctualproof/network/BinaryOperator", "isComparison", "()Z"⟩ : MethodName)) hown (mvT hZ (hw _ (List.mem_of_getElem? (i := 8) rfl))) (mvT hZ (hw _ (List.mem_of_getElem? (i := 9) rfl))) (notFace_of_selects (args := #[]) (mvT hZ (hw _ (List.mem_of_getElem? (i := 11) rfl)))) (mvT hZ (hw _ (List.mem_of_getElem? (i := 11) rfl))) (mvT hZ (hw _ (List.mem_of_getElem? (i := 10) rfl))) (by decide) (backOf (W := 0) (rm2_w13 l Z a0 hw [] w h0 n0 Z0 P) hZ (hw _ (List.mem_of_getElem? (i := 12) rfl)) (hw _ (List.mem_of_getElem? (i := 6) rfl)) (by decide) (by decide)) q2a q2c (g := (mkF m 53 #[.val (.int p1), .val (.int (6 : Int32)), .val (.ref (w 13)), .val (.int (1 : Int32))] [(.ref (w 13))])) rfl (by rw [hml]; rfl) (Steps.refl _) (argsL := []) (rest := []) (lenOf pd_1 rfl) rfl (by show 2 * 0 + _ ≤ _; exact Nat.le_of_eq rfl) (hb hby at_53) (fun _ _ => ⟨rfl, e1, (by decide : 0 + 0 ≤ _), (by decide : 0 + 0 ≤ _)⟩)
  dsimp only [Pt.U, Pt.locs, Pt.cells, Pt.slots] at X2 l2 y2 z2 st2 hQ2
  subst l2 y2 z2
  obtain ⟨rfl, N2q, e2⟩ := hQ2
  have N2 := Fr.app N1 N2q
  refine own_step (W' := T2.setTop (mkF m 56 #[.val (.int p1), .val (.int (6 : Int32)), .val (.ref (w 13)), .val (.int (1 : Int32))] [(.int (1 : Int32))])) (fun _ k => st2.trans k) ?_
  refine own_step (W' := T2.setTop (mkF m 57 #[.val (.int p1), .val (.int (6 : Int32)), .val (.ref (w 13)), .val (.int (1 : Int32))] [(.int (1 : Int32)), (.int (1 : Int32))])) (fun _ k => XS.iloadN X2.here hx rfl (hb hby at_56) rfl k) ?_
  refine own_step (W' := T2.setTop (mkF m 60 #[.val (.int p1), .val (.int (6 : Int32)), .val (.ref (w 13)), .val (.int (1 : Int32))] [])) (fun _ k => XS.icmpNo X2.here hx rfl (hb hby at_57) rfl (by decide) k) ?_
  refine own_step (W' := T2.setTop (mkF m 61 #[.val (.int p1), .val (.int (6 : Int32)), .val (.ref (w 13)), .val (.int (1 : Int32))] [(.int (1 : Int32))])) (fun _ k => XS.iconst X2.here hx rfl (hb hby at_60) k) ?_
  refine own_step (W' := T2.setTop (mkF m 65 #[.val (.int p1), .val (.int (6 : Int32)), .val (.ref (w 13)), .val (.int (1 : Int32))] [(.int (1 : Int32))])) (fun _ k => XS.goto X2.here hx rfl (pc0 := 61) (pc' := 65) rfl (hb hby at_61) (by decide) (by decide) k) ?_
  exact own_ret X2 Bd.notSynchronized Bd.returns (v := (.int (1 : Int32))) (fun fs hr => retN X2 hx (t := .boolean) Bd.returns (by simp) (hb hby at_65) hr) ⟨rfl, N2⟩ (by decide) (by decide)
set_option maxRecDepth 65536 in
set_option maxHeartbeats 40000000 in
theorem rm1_7 (l : Launch) (Z : State) (a0 : Array Value) (hw : ∀ d ∈ tables_1, d.before a0 Z = true) (ws : List Jvm.Cond) (w : Nat → Addr) (h0 : Heap) (n0 : Nat) (Z0 : n0 ≤ h0.size) (P : Pins Z h0 w) :
    MetFree l (⟨"com/example/punctual_proof/punctualproof/network/BinaryOperatorIsComparisonPinLaw", "pick", "(I)Lcom/example/punctual_proof/punctualproof/network/BinaryOperator;"⟩ : MethodName) (head1 (Jvm.Cond.code (⟨"com/example/punctual_proof/punctualproof/network/BinaryOperatorIsComparisonPinLaw", "pick", "(I)Lcom/example/punctual_proof/punctualproof/network/BinaryOperator;"⟩ : MethodName) method_3_code 1 (some (.object "com/example/punctual_proof/punctualproof/network/BinaryOperator")) :: ws) ({ frames := 0, cells := 0, slots := 0, locals := 0 } : Room)) (fun a U => a = #[(.int (7 : Int32))] ∧ Z.Warmed39 U.vm ∧ U.heap = h0) (fun _ _ _ _ _ => True) (fun _ U o U' => ∃ v L, o = .returned v ∧ own_QK (some (.ref (w 5))) h0 n0 v U'.heap L ∧ FrameEnd U o U' L ({ frames := 0, cells := 0, slots := 0, locals := 0 } : Room).cells ({ frames := 0, cells := 0, slots := 0, locals := 0 } : Room).slots) := by
  refine MetFree.of_bodySF (plainFor_of_name pn_com_example_punctual_proof_punctualproof_network_BinaryOperatorIsComparisonPinLaw) hisR ?_
  intro p e s m args below meth c s₁ Bd hml0 hP hK
  obtain ⟨rfl, hZ, hh⟩ := hP
  have hx := Bd.exec
  have hby := Bd.bytes
  have hml : c.maxLocals = 1 := hml0
  have hown : s.vm.findClass "com/example/punctual_proof/punctualproof/network/BinaryOperatorIsComparisonPinLaw" = some m.cls := findClass_of_methodNamed Bd.named
  have hnm := (name_of_methodNamed Bd.named Bd.method).1
  have X0 : Stand p l e ({ frames := 0, cells := 0, slots := 0, locals := 0 } : Room) s m #[(.int (7 : Int32))] below meth c s₁ [] 0 0 := Stand.of_body Bd
  have e0 : s₁.heap = h0 := by rw [← hh, Bd.state]; rfl
  have N0 := Fr.nil n0
  refine own_enter (ef_1_I m (7 : Int32)) ?_
  refine own_step (W' := s₁.setTop (mkF m 1 #[.val (.int (7 : Int32))] [(.int (7 : Int32))])) (fun _ k => XS.iloadN X0.here hx rfl (hb hby d1_0) rfl k) ?_
  refine own_step (W' := s₁.setTop (mkF m 8 #[.val (.int (7 : Int32))] [])) (fun _ k => XS.ifYes X0.here hx rfl (pc0 := 1) (pc' := 8) rfl (hb hby d1_1) rfl (by decide) (by decide) (by decide) k) ?_
  refine own_step (W' := s₁.setTop (mkF m 9 #[.val (.int (7 : Int32))] [(.int (7 : Int32))])) (fun _ k => XS.iloadN X0.here hx rfl (hb hby d1_8) rfl k) ?_
  refine own_step (W' := s₁.setTop (mkF m 10 #[.val (.int (7 : Int32))] [(.int (1 : Int32)), (.int (7 : Int32))])) (fun _ k => XS.iconst X0.here hx rfl (hb hby d1_9) k) ?_
  refine own_step (W' := s₁.setTop (mkF m 17 #[.val (.int (7 : Int32))] [])) (fun _ k => XS.icmpYes X0.here hx rfl (pc0 := 10) (pc' := 17) rfl (hb hby d1_10) rfl (by decide) (by decide) (by decide) k) ?_
  refine own_step (W' := s₁.setTop (mkF m 18 #[.val (.int (7 : Int32))] [(.int (7 : Int32))])) (fun _ k => XS.iloadN X0.here hx rfl (hb hby d1_17) rfl k) ?_
  refine own_step (W' := s₁.setTop (mkF m 19 #[.val (.int (7 : Int32))] [(.int (2 : Int32)), (.int (7 : Int32))])) (fun _ k => XS.iconst X0.here hx rfl (hb hby d1_18) k) ?_
  refine own_step (W' := s₁.setTop (mkF m 26 #[.val (.int (7 : Int32))] [])) (fun _ k => XS.icmpYes X0.here hx rfl (pc0 := 19) (pc' := 26) rfl (hb hby d1_19) rfl (by decide) (by decide) (by decide) k) ?_
  refine own_step (W' := s₁.setTop (mkF m 27 #[.val (.int (7 : Int32))] [(.int (7 : Int32))])) (fun _ k => XS.iloadN X0.here hx rfl (hb hby d1_26) rfl k) ?_
  refine own_step (W' := s₁.setTop (mkF m 28 #[.val (.int (7 : Int32))] [(.int (3 : Int32)), (.int (7 : Int32))])) (fun _ k => XS.iconst X0.here hx rfl (hb hby d1_27) k) ?_
  refine own_step (W' := s₁.setTop (mkF m 35 #[.val (.int (7 : Int32))] [])) (fun _ k => XS.icmpYes X0.here hx rfl (pc0 := 28) (pc' := 35) rfl (hb hby d1_28) rfl (by decide) (by decide) (by decide) k) ?_
  refine own_step (W' := s₁.setTop (mkF m 36 #[.val (.int (7 : Int32))] [(.int (7 : Int32))])) (fun _ k => XS.iloadN X0.here hx rfl (hb hby d1_35) rfl k) ?_
  refine own_step (W' := s₁.setTop (mkF m 37 #[.val (.int (7 : Int32))] [(.int (4 : Int32)), (.int (7 : Int32))])) (fun _ k => XS.iconst X0.here hx rfl (hb hby d1_36) k) ?_
  refine own_step (W' := s₁.setTop (mkF m 44 #[.val (.int (7 : Int32))] [])) (fun _ k => XS.icmpYes X0.here hx rfl (pc0 := 37) (pc' := 44) rfl (hb hby d1_37) rfl (by decide) (by decide) (by decide) k) ?_
  refine own_step (W' := s₁.setTop (mkF m 45 #[.val (.int (7 : Int32))] [(.int (7 : Int32))])) (fun _ k => XS.iloadN X0.here hx rfl (hb hby d1_44) rfl k) ?_
  refine own_step (W' := s₁.setTop (mkF m 46 #[.val (.int (7 : Int32))] [(.int (5 : Int32)), (.int (7 : Int32))])) (fun _ k => XS.iconst X0.here hx rfl (hb hby d1_45) k) ?_
  refine own_step (W' := s₁.setTop (mkF m 53 #[.val (.int (7 : Int32))] [])) (fun _ k => XS.icmpYes X0.here hx rfl (pc0 := 46) (pc' := 53) rfl (hb hby d1_46) rfl (by decide) (by decide) (by decide) k) ?_
  refine own_step (W' := s₁.setTop (mkF m 54 #[.val (.int (7 : Int32))] [(.int (7 : Int32))])) (fun _ k => XS.iloadN X0.here hx rfl (hb hby d1_53) rfl k) ?_
  refine own_step (W' := s₁.setTop (mkF m 56 #[.val (.int (7 : Int32))] [(.int (6 : Int32)), (.int (7 : Int32))])) (fun _ k => XS.bipush X0.here hx rfl (hb hby d1_54) k) ?_
  refine own_step (W' := s₁.setTop (mkF m 63 #[.val (.int (7 : Int32))] [])) (fun _ k => XS.icmpYes X0.here hx rfl (pc0 := 56) (pc' := 63) rfl (hb hby d1_56) rfl (by decide) (by decide) (by decide) k) ?_
  refine own_step (W' := s₁.setTop (mkF m 64 #[.val (.int (7 : Int32))] [(.int (7 : Int32))])) (fun _ k => XS.iloadN X0.here hx rfl (hb hby d1_63) rfl k) ?_
  refine own_step (W' := s₁.setTop (mkF m 66 #[.val (.int (7 : Int32))] [(.int (7 : Int32)), (.int (7 : Int32))])) (fun _ k => XS.bipush X0.here hx rfl (hb hby d1_64) k) ?_
  refine own_step (W' := s₁.setTop (mkF m 69 #[.val (.int (7 : Int32))] [])) (fun _ k => XS.icmpNo X0.here hx rfl (hb hby d1_66) rfl (by decide) k) ?_
  obtain ⟨T1, X1, e1, st1⟩ := getS2 X0 hx hZ hown (host := "") (Or.inl (hw _ (List.mem_of_getElem? (i := 23) rfl))) Via.refl e0 (pin_S5 P) (g := (mkF m 69 #[.val (.int (7 : Int32))] [])) rfl (hb hby d1_69)
  refine own_step (W' := T1.setTop (mkF m 72 #[.val (.int (7 : Int32))] [(.ref (w 5))])) (fun _ k => st1 _ k) ?_
  exact own_ret X1 Bd.notSynchronized Bd.returns (v := (.ref (w 5))) (fun fs hr => retOut X1 hx Bd.returns rfl (Or.inr (Or.inr (Or.inr (Or.inr ⟨rfl, rfl, rfl⟩)))) (hb hby d1_72) hr) ⟨rfl, N0, e1⟩ (by decide) (by decide)
set_option maxRecDepth 65536 in
set_option maxHeartbeats 40000000 in
theorem rm2_w5 (l : Launch) (Z : State) (a0 : Array Value) (hw : ∀ d ∈ tables_1, d.before a0 Z = true) (ws : List Jvm.Cond) (w : Nat → Addr) (h0 : Heap) (n0 : Nat) (Z0 : n0 ≤ h0.size) (P : Pins Z h0 w) :
    MetFree l (⟨"com/example/punctual_proof/punctualproof/network/BinaryOperator", "isComparison", "()Z"⟩ : MethodName) (head1 (Jvm.Cond.code (⟨"com/example/punctual_proof/punctualproof/network/BinaryOperator", "isComparison", "()Z"⟩ : MethodName) prog_59_method_8_code 1 (some .boolean) :: ws) ({ frames := 0, cells := 0, slots := 0, locals := 0 } : Room)) (fun a U => a = #[(.ref (w 5))] ∧ Z.Warmed39 U.vm ∧ U.heap = h0) (fun _ _ _ _ _ => True) (fun _ U o U' => ∃ v L, o = .returned v ∧ own_QK (some (.int (1 : Int32))) h0 n0 v U'.heap L ∧ FrameEnd U o U' L ({ frames := 0, cells := 0, slots := 0, locals := 0 } : Room).cells ({ frames := 0, cells := 0, slots := 0, locals := 0 } : Room).slots) := by
  refine MetFree.of_bodySF (plainFor_of_name pn_com_example_punctual_proof_punctualproof_network_BinaryOperator) hisR ?_
  intro p e s m args below meth c s₁ Bd hml0 hP hK
  obtain ⟨rfl, hZ, hh⟩ := hP
  have hx := Bd.exec
  have hby := Bd.bytes
  have hml : c.maxLocals = 1 := hml0
  have hown : s.vm.findClass "com/example/punctual_proof/punctualproof/network/BinaryOperator" = some m.cls := findClass_of_methodNamed Bd.named
  have hnm := (name_of_methodNamed Bd.named Bd.method).1
  have X0 : Stand p l e ({ frames := 0, cells := 0, slots := 0, locals := 0 } : Room) s m #[(.ref (w 5))] below meth c s₁ [] 0 0 := Stand.of_body Bd
  have e0 : s₁.heap = h0 := by rw [← hh, Bd.state]; rfl
  have N0 := Fr.nil n0
  refine own_enter (ef_2_R m (w 5)) ?_
  refine own_step (W' := s₁.setTop (mkF m 1 #[.val (.ref (w 5))] [(.ref (w 5))])) (fun _ k => XS.aloadN X0.here hx rfl (hb hby d2_0) rfl rfl k) ?_
  obtain ⟨T1, X1, e1, st1⟩ := getF X0 hx hZ hown (host := "") (Or.inl (hw _ (List.mem_of_getElem? (i := 13) rfl))) Via.refl e0 (pin_F5_precedence P) (g := (mkF m 1 #[.val (.ref (w 5))] [(.ref (w 5))])) rfl rfl (hb hby d2_1)
  refine own_step (W' := T1.setTop (mkF m 4 #[.val (.ref (w 5))] [(.int (5 : Int32))])) (fun _ k => st1 _ k) ?_
  refine own_step (W' := T1.setTop (mkF m 5 #[.val (.ref (w 5))] [(.int (5 : Int32)), (.int (5 : Int32))])) (fun _ k => XS.iconst X1.here hx rfl (hb hby d2_4) k) ?_
  refine own_step (W' := T1.setTop (mkF m 8 #[.val (.ref (w 5))] [])) (fun _ k => XS.icmpNo X1.here hx rfl (hb hby d2_5) rfl (by decide) k) ?_
  refine own_step (W' := T1.setTop (mkF m 9 #[.val (.ref (w 5))] [(.int (1 : Int32))])) (fun _ k => XS.iconst X1.here hx rfl (hb hby d2_8) k) ?_
  refine own_step (W' := T1.setTop (mkF m 13 #[.val (.ref (w 5))] [(.int (1 : Int32))])) (fun _ k => XS.goto X1.here hx rfl (pc0 := 9) (pc' := 13) rfl (hb hby d2_9) (by decide) (by decide) k) ?_
  exact own_ret X1 Bd.notSynchronized Bd.returns (v := (.int (1 : Int32))) (fun fs hr => retN X1 hx (t := .boolean) Bd.returns (by simp) (hb hby d2_13) hr) ⟨rfl, N0, e1⟩ (by decide) (by decide)
set_option maxRecDepth 65536 in
set_option maxHeartbeats 40000000 in
theorem rm0_7 (l : Launch) (Z : State) (a0 : Array Value) (hw : ∀ d ∈ tables_1, d.before a0 Z = true) (ws : List Jvm.Cond) (p1 : Int32) (hk : ((p1 &&& (2147483647 : Int32)) % (14 : Int32)) = (7 : Int32)) (w : Nat → Addr) (h0 : Heap) (n0 : Nat) (Z0 : n0 ≤ h0.size) (P : Pins Z h0 w) :
    MetFree l x (head1 (Jvm.Cond.code x code maxLocals ret :: ws) room_1) (fun a U => a = #[(.int p1)] ∧ Z.Warmed39 U.vm ∧ U.heap = h0) (fun _ _ _ _ _ => True) (fun _ U o U' => ∃ v L, o = .returned v ∧ own_Q0 n0 v U'.heap L ∧ FrameEnd U o U' L room_1.cells room_1.slots) := by
  refine MetFree.of_bodySF (plainFor_of_name pn_com_example_punctual_proof_punctualproof_network_BinaryOperatorIsComparisonPinLaw) hisR ?_
  intro p e s m args below meth c s₁ Bd hml0 hP hK
  obtain ⟨rfl, hZ, hh⟩ := hP
  have hx := Bd.exec
  have hby := Bd.bytes
  have hml : c.maxLocals = 4 := hml0
  have hown : s.vm.findClass "com/example/punctual_proof/punctualproof/network/BinaryOperatorIsComparisonPinLaw" = some m.cls := findClass_of_methodNamed Bd.named
  have hnm := (name_of_methodNamed Bd.named Bd.method).1
  have X0 : Stand p l e room_1 s m #[(.int p1)] below meth c s₁ [] 0 0 := Stand.of_body Bd
  have e0 : s₁.heap = h0 := by rw [← hh, Bd.state]; rfl
  have N0 := Fr.nil n0
  refine own_enter (ef_0_I m p1) ?_
  refine own_step (W' := s₁.setTop (mkF m 1 #[.val (.int p1), .unset, .unset, .unset] [(.int p1)])) (fun _ k => XS.iloadN X0.here hx rfl (hb hby at_0) rfl k) ?_
  refine own_step (W' := s₁.setTop (mkF m 3 #[.val (.int p1), .unset, .unset, .unset] [(.int (2147483647 : Int32)), (.int p1)])) (fun _ k => X0.ldcInt hx hown (mvT hZ (hw _ (List.mem_of_getElem? (i := 0) rfl))) (g := (mkF m 1 #[.val (.int p1), .unset, .unset, .unset] [(.int p1)])) rfl (hb hby at_1) _ k) ?_
  refine own_step (W' := s₁.setTop (mkF m 4 #[.val (.int p1), .unset, .unset, .unset] [(.int (p1 &&& (2147483647 : Int32)))])) (fun _ k => XS.iand X0.here hx rfl (hb hby at_3) rfl k) ?_
  refine own_step (W' := s₁.setTop (mkF m 6 #[.val (.int p1), .unset, .unset, .unset] [(.int (14 : Int32)), (.int (p1 &&& (2147483647 : Int32)))])) (fun _ k => XS.bipush X0.here hx rfl (hb hby at_4) k) ?_
  refine own_step (W' := s₁.setTop (mkF m 7 #[.val (.int p1), .unset, .unset, .unset] [(.int ((p1 &&& (2147483647 : Int32)) % (14 : Int32)))])) (fun _ k => iremM X0 hx rfl (hb hby at_6) rfl (by decide) k) ?_
  rw [hk]
  refine own_step (W' := s₁.setTop (mkF m 8 #[.val (.int p1), .val (.int (7 : Int32)), .unset, .unset] [])) (fun _ k => XS.istoreN X0.here hx rfl (hb hby at_7) rfl (l' := #[.val (.int p1), .val (.int (7 : Int32)), .unset, .unset]) rfl k) ?_
  refine own_step (W' := s₁.setTop (mkF m 9 #[.val (.int p1), .val (.int (7 : Int32)), .unset, .unset] [(.int (7 : Int32))])) (fun _ k => XS.iloadN X0.here hx rfl (hb hby at_8) rfl k) ?_
  obtain ⟨_, _, ⟨T1, L1, k1, n1⟩, -, X1, ⟨Lc1, hQ1, l1, y1, z1⟩, st1⟩ := Jvm.LawKit.callS X0 hx (y := (⟨"com/example/punctual_proof/punctualproof/network/BinaryOperatorIsComparisonPinLaw", "pick", "(I)Lcom/example/punctual_proof/punctualproof/network/BinaryOperator;"⟩ : MethodName)) hown (mvT hZ (hw _ (List.mem_of_getElem? (i := 1) rfl))) (mvT hZ (hw _ (List.mem_of_getElem? (i := 2) rfl))) (mvT hZ (hw _ (List.mem_of_getElem? (i := 3) rfl))) (mvT hZ (hw _ (List.mem_of_getElem? (i := 4) rfl))) (by decide) (backOf (W := 0) (rm1_7 l Z a0 hw [] w h0 n0 Z0 P) hZ (hw _ (List.mem_of_getElem? (i := 4) rfl)) (hw _ (List.mem_of_getElem? (i := 3) rfl)) (by decide) (by decide)) (g := (mkF m 9 #[.val (.int p1), .val (.int (7 : Int32)), .unset, .unset] [(.int (7 : Int32))])) rfl (by rw [hml]; rfl) (argsL := [(.int (7 : Int32))]) (rest := []) (lenOf pd_0 rfl) rfl (by show 2 * 0 + _ ≤ _; exact Nat.le_of_eq rfl) (hb hby at_9) (fun _ _ => ⟨rfl, e0, (by decide : 0 + 0 ≤ _), (by decide : 0 + 0 ≤ _)⟩)
  dsimp only [Pt.U, Pt.locs, Pt.cells, Pt.slots] at X1 l1 y1 z1 st1 hQ1
  subst l1 y1 z1
  obtain ⟨rfl, N1q, e1⟩ := hQ1
  have N1 := Fr.app N0 N1q
  refine own_step (W' := T1.setTop (mkF m 12 #[.val (.int p1), .val (.int (7 : Int32)), .unset, .unset] [(.ref (w 5))])) (fun _ k => st1 _ k) ?_
  refine own_step (W' := T1.setTop (mkF m 13 #[.val (.int p1), .val (.int (7 : Int32)), .val (.ref (w 5)), .unset] [])) (fun _ k => XS.astoreN X1.here hx rfl (hb hby at_12) rfl rfl (l' := #[.val (.int p1), .val (.int (7 : Int32)), .val (.ref (w 5)), .unset]) rfl k) ?_
  refine own_step (W' := T1.setTop (mkF m 14 #[.val (.int p1), .val (.int (7 : Int32)), .val (.ref (w 5)), .unset] [(.int (7 : Int32))])) (fun _ k => XS.iloadN X1.here hx rfl (hb hby at_13) rfl k) ?_
  refine own_step (W' := T1.setTop (mkF m 15 #[.val (.int p1), .val (.int (7 : Int32)), .val (.ref (w 5)), .unset] [(.int (3 : Int32)), (.int (7 : Int32))])) (fun _ k => XS.iconst X1.here hx rfl (hb hby at_14) k) ?_
  refine own_step (W' := T1.setTop (mkF m 18 #[.val (.int p1), .val (.int (7 : Int32)), .val (.ref (w 5)), .unset] [])) (fun _ k => XS.icmpNo X1.here hx rfl (hb hby at_15) rfl (by decide) k) ?_
  refine own_step (W' := T1.setTop (mkF m 19 #[.val (.int p1), .val (.int (7 : Int32)), .val (.ref (w 5)), .unset] [(.int (7 : Int32))])) (fun _ k => XS.iloadN X1.here hx rfl (hb hby at_18) rfl k) ?_
  refine own_step (W' := T1.setTop (mkF m 20 #[.val (.int p1), .val (.int (7 : Int32)), .val (.ref (w 5)), .unset] [(.int (4 : Int32)), (.int (7 : Int32))])) (fun _ k => XS.iconst X1.here hx rfl (hb hby at_19) k) ?_
  refine own_step (W' := T1.setTop (mkF m 23 #[.val (.int p1), .val (.int (7 : Int32)), .val (.ref (w 5)), .unset] [])) (fun _ k => XS.icmpNo X1.here hx rfl (hb hby at_20) rfl (by decide) k) ?_
  refine own_step (W' := T1.setTop (mkF m 24 #[.val (.int p1), .val (.int (7 : Int32)), .val (.ref (w 5)), .unset] [(.int (7 : Int32))])) (fun _ k => XS.iloadN X1.here hx rfl (hb hby at_23) rfl k) ?_
  refine own_step (W' := T1.setTop (mkF m 25 #[.val (.int p1), .val (.int (7 : Int32)), .val (.ref (w 5)), .unset] [(.int (5 : Int32)), (.int (7 : Int32))])) (fun _ k => XS.iconst X1.here hx rfl (hb hby at_24) k) ?_
  refine own_step (W' := T1.setTop (mkF m 28 #[.val (.int p1), .val (.int (7 : Int32)), .val (.ref (w 5)), .unset] [])) (fun _ k => XS.icmpNo X1.here hx rfl (hb hby at_25) rfl (by decide) k) ?_
  refine own_step (W' := T1.setTop (mkF m 29 #[.val (.int p1), .val (.int (7 : Int32)), .val (.ref (w 5)), .unset] [(.int (7 : Int32))])) (fun _ k => XS.iloadN X1.here hx rfl (hb hby at_28) rfl k) ?_
  refine own_step (W' := T1.setTop (mkF m 31 #[.val (.int p1), .val (.int (7 : Int32)), .val (.ref (w 5)), .unset] [(.int (6 : Int32)), (.int (7 : Int32))])) (fun _ k => XS.bipush X1.here hx rfl (hb hby at_29) k) ?_
  refine own_step (W' := T1.setTop (mkF m 34 #[.val (.int p1), .val (.int (7 : Int32)), .val (.ref (w 5)), .unset] [])) (fun _ k => XS.icmpNo X1.here hx rfl (hb hby at_31) rfl (by decide) k) ?_
  refine own_step (W' := T1.setTop (mkF m 35 #[.val (.int p1), .val (.int (7 : Int32)), .val (.ref (w 5)), .unset] [(.int (7 : Int32))])) (fun _ k => XS.iloadN X1.here hx rfl (hb hby at_34) rfl k) ?_
  refine own_step (W' := T1.setTop (mkF m 37 #[.val (.int p1), .val (.int (7 : Int32)), .val (.ref (w 5)), .unset] [(.int (7 : Int32)), (.int (7 : Int32))])) (fun _ k => XS.bipush X1.here hx rfl (hb hby at_35) k) ?_
  refine own_step (W' := T1.setTop (mkF m 46 #[.val (.int p1), .val (.int (7 : Int32)), .val (.ref (w 5)), .unset] [])) (fun _ k => XS.icmpYes X1.here hx rfl (pc0 := 37) (pc' := 46) rfl (hb hby at_37) rfl (by decide) (by decide) (by decide) k) ?_
  refine own_step (W' := T1.setTop (mkF m 47 #[.val (.int p1), .val (.int (7 : Int32)), .val (.ref (w 5)), .unset] [(.int (1 : Int32))])) (fun _ k => XS.iconst X1.here hx rfl (hb hby at_46) k) ?_
  refine own_step (W' := T1.setTop (mkF m 51 #[.val (.int p1), .val (.int (7 : Int32)), .val (.ref (w 5)), .unset] [(.int (1 : Int32))])) (fun _ k => XS.goto X1.here hx rfl (pc0 := 47) (pc' := 51) rfl (hb hby at_47) (by decide) (by decide) k) ?_
  refine own_step (W' := T1.setTop (mkF m 52 #[.val (.int p1), .val (.int (7 : Int32)), .val (.ref (w 5)), .val (.int (1 : Int32))] [])) (fun _ k => XS.istoreN X1.here hx rfl (hb hby at_51) rfl (l' := #[.val (.int p1), .val (.int (7 : Int32)), .val (.ref (w 5)), .val (.int (1 : Int32))]) rfl k) ?_
  refine own_step (W' := T1.setTop (mkF m 53 #[.val (.int p1), .val (.int (7 : Int32)), .val (.ref (w 5)), .val (.int (1 : Int32))] [(.ref (w 5))])) (fun _ k => XS.aloadN X1.here hx rfl (hb hby at_52) rfl rfl k) ?_
  obtain ⟨cq2, kq2, q2a, q2b, q2c⟩ := isOf hZ e1 (pin_E5 P)
  obtain ⟨_, _, ⟨T2, L2, k2, n2⟩, -, X2, ⟨Lc2, hQ2, l2, y2, z2⟩, st2⟩ := X1.virtualBack hx (y := (⟨"com/example/punctual_proof/punctualproof/network/BinaryOperator", "isComparison", "()Z"⟩ : MethodName)) (z := (⟨"com/example/punctual_proof/punctualproof/network/BinaryOperator", "isComparison", "()Z"⟩ : MethodName)) hown (mvT hZ (hw _ (List.mem_of_getElem? (i := 8) rfl))) (mvT hZ (hw _ (List.mem_of_getElem? (i := 9) rfl))) (notFace_of_selects (args := #[]) (mvT hZ (hw _ (List.mem_of_getElem? (i := 11) rfl)))) (mvT hZ (hw _ (List.mem_of_getElem? (i := 11) rfl))) (mvT hZ (hw _ (List.mem_of_getElem? (i := 10) rfl))) (by decide) (backOf (W := 0) (rm2_w5 l Z a0 hw [] w h0 n0 Z0 P) hZ (hw _ (List.mem_of_getElem? (i := 12) rfl)) (hw _ (List.mem_of_getElem? (i := 6) rfl)) (by decide) (by decide)) q2a q2c (g := (mkF m 53 #[.val (.int p1), .val (.int (7 : Int32)), .val (.ref (w 5)), .val (.int (1 : Int32))] [(.ref (w 5))])) rfl (by rw [hml]; rfl) (Steps.refl _) (argsL := []) (rest := []) (lenOf pd_1 rfl) rfl (by show 2 * 0 + _ ≤ _; exact Nat.le_of_eq rfl) (hb hby at_53) (fun _ _ => ⟨rfl, e1, (by decide : 0 + 0 ≤ _), (by decide : 0 + 0 ≤ _)⟩)
  dsimp only [Pt.U, Pt.locs, Pt.cells, Pt.slots] at X2 l2 y2 z2 st2 hQ2
  subst l2 y2 z2
  obtain ⟨rfl, N2q, e2⟩ := hQ2
  have N2 := Fr.app N1 N2q
  refine own_step (W' := T2.setTop (mkF m 56 #[.val (.int p1), .val (.int (7 : Int32)), .val (.ref (w 5)), .val (.int (1 : Int32))] [(.int (1 : Int32))])) (fun _ k => st2.trans k) ?_
  refine own_step (W' := T2.setTop (mkF m 57 #[.val (.int p1), .val (.int (7 : Int32)), .val (.ref (w 5)), .val (.int (1 : Int32))] [(.int (1 : Int32)), (.int (1 : Int32))])) (fun _ k => XS.iloadN X2.here hx rfl (hb hby at_56) rfl k) ?_
  refine own_step (W' := T2.setTop (mkF m 60 #[.val (.int p1), .val (.int (7 : Int32)), .val (.ref (w 5)), .val (.int (1 : Int32))] [])) (fun _ k => XS.icmpNo X2.here hx rfl (hb hby at_57) rfl (by decide) k) ?_
  refine own_step (W' := T2.setTop (mkF m 61 #[.val (.int p1), .val (.int (7 : Int32)), .val (.ref (w 5)), .val (.int (1 : Int32))] [(.int (1 : Int32))])) (fun _ k => XS.iconst X2.here hx rfl (hb hby at_60) k) ?_
  refine own_step (W' := T2.setTop (mkF m 65 #[.val (.int p1), .val (.int (7 : Int32)), .val (.ref (w 5)), .val (.int (1 : Int32))] [(.int (1 : Int32))])) (fun _ k => XS.goto X2.here hx rfl (pc0 := 61) (pc' := 65) rfl (hb hby at_61) (by decide) (by decide) k) ?_
  exact own_ret X2 Bd.notSynchronized Bd.returns (v := (.int (1 : Int32))) (fun fs hr => retN X2 hx (t := .boolean) Bd.returns (by simp) (hb hby at_65) hr) ⟨rfl, N2⟩ (by decide) (by decide)
set_option maxRecDepth 65536 in
set_option maxHeartbeats 40000000 in
theorem rm1_8 (l : Launch) (Z : State) (a0 : Array Value) (hw : ∀ d ∈ tables_1, d.before a0 Z = true) (ws : List Jvm.Cond) (w : Nat → Addr) (h0 : Heap) (n0 : Nat) (Z0 : n0 ≤ h0.size) (P : Pins Z h0 w) :
    MetFree l (⟨"com/example/punctual_proof/punctualproof/network/BinaryOperatorIsComparisonPinLaw", "pick", "(I)Lcom/example/punctual_proof/punctualproof/network/BinaryOperator;"⟩ : MethodName) (head1 (Jvm.Cond.code (⟨"com/example/punctual_proof/punctualproof/network/BinaryOperatorIsComparisonPinLaw", "pick", "(I)Lcom/example/punctual_proof/punctualproof/network/BinaryOperator;"⟩ : MethodName) method_3_code 1 (some (.object "com/example/punctual_proof/punctualproof/network/BinaryOperator")) :: ws) ({ frames := 0, cells := 0, slots := 0, locals := 0 } : Room)) (fun a U => a = #[(.int (8 : Int32))] ∧ Z.Warmed39 U.vm ∧ U.heap = h0) (fun _ _ _ _ _ => True) (fun _ U o U' => ∃ v L, o = .returned v ∧ own_QK (some (.ref (w 9))) h0 n0 v U'.heap L ∧ FrameEnd U o U' L ({ frames := 0, cells := 0, slots := 0, locals := 0 } : Room).cells ({ frames := 0, cells := 0, slots := 0, locals := 0 } : Room).slots) := by
  refine MetFree.of_bodySF (plainFor_of_name pn_com_example_punctual_proof_punctualproof_network_BinaryOperatorIsComparisonPinLaw) hisR ?_
  intro p e s m args below meth c s₁ Bd hml0 hP hK
  obtain ⟨rfl, hZ, hh⟩ := hP
  have hx := Bd.exec
  have hby := Bd.bytes
  have hml : c.maxLocals = 1 := hml0
  have hown : s.vm.findClass "com/example/punctual_proof/punctualproof/network/BinaryOperatorIsComparisonPinLaw" = some m.cls := findClass_of_methodNamed Bd.named
  have hnm := (name_of_methodNamed Bd.named Bd.method).1
  have X0 : Stand p l e ({ frames := 0, cells := 0, slots := 0, locals := 0 } : Room) s m #[(.int (8 : Int32))] below meth c s₁ [] 0 0 := Stand.of_body Bd
  have e0 : s₁.heap = h0 := by rw [← hh, Bd.state]; rfl
  have N0 := Fr.nil n0
  refine own_enter (ef_1_I m (8 : Int32)) ?_
  refine own_step (W' := s₁.setTop (mkF m 1 #[.val (.int (8 : Int32))] [(.int (8 : Int32))])) (fun _ k => XS.iloadN X0.here hx rfl (hb hby d1_0) rfl k) ?_
  refine own_step (W' := s₁.setTop (mkF m 8 #[.val (.int (8 : Int32))] [])) (fun _ k => XS.ifYes X0.here hx rfl (pc0 := 1) (pc' := 8) rfl (hb hby d1_1) rfl (by decide) (by decide) (by decide) k) ?_
  refine own_step (W' := s₁.setTop (mkF m 9 #[.val (.int (8 : Int32))] [(.int (8 : Int32))])) (fun _ k => XS.iloadN X0.here hx rfl (hb hby d1_8) rfl k) ?_
  refine own_step (W' := s₁.setTop (mkF m 10 #[.val (.int (8 : Int32))] [(.int (1 : Int32)), (.int (8 : Int32))])) (fun _ k => XS.iconst X0.here hx rfl (hb hby d1_9) k) ?_
  refine own_step (W' := s₁.setTop (mkF m 17 #[.val (.int (8 : Int32))] [])) (fun _ k => XS.icmpYes X0.here hx rfl (pc0 := 10) (pc' := 17) rfl (hb hby d1_10) rfl (by decide) (by decide) (by decide) k) ?_
  refine own_step (W' := s₁.setTop (mkF m 18 #[.val (.int (8 : Int32))] [(.int (8 : Int32))])) (fun _ k => XS.iloadN X0.here hx rfl (hb hby d1_17) rfl k) ?_
  refine own_step (W' := s₁.setTop (mkF m 19 #[.val (.int (8 : Int32))] [(.int (2 : Int32)), (.int (8 : Int32))])) (fun _ k => XS.iconst X0.here hx rfl (hb hby d1_18) k) ?_
  refine own_step (W' := s₁.setTop (mkF m 26 #[.val (.int (8 : Int32))] [])) (fun _ k => XS.icmpYes X0.here hx rfl (pc0 := 19) (pc' := 26) rfl (hb hby d1_19) rfl (by decide) (by decide) (by decide) k) ?_
  refine own_step (W' := s₁.setTop (mkF m 27 #[.val (.int (8 : Int32))] [(.int (8 : Int32))])) (fun _ k => XS.iloadN X0.here hx rfl (hb hby d1_26) rfl k) ?_
  refine own_step (W' := s₁.setTop (mkF m 28 #[.val (.int (8 : Int32))] [(.int (3 : Int32)), (.int (8 : Int32))])) (fun _ k => XS.iconst X0.here hx rfl (hb hby d1_27) k) ?_
  refine own_step (W' := s₁.setTop (mkF m 35 #[.val (.int (8 : Int32))] [])) (fun _ k => XS.icmpYes X0.here hx rfl (pc0 := 28) (pc' := 35) rfl (hb hby d1_28) rfl (by decide) (by decide) (by decide) k) ?_
  refine own_step (W' := s₁.setTop (mkF m 36 #[.val (.int (8 : Int32))] [(.int (8 : Int32))])) (fun _ k => XS.iloadN X0.here hx rfl (hb hby d1_35) rfl k) ?_
  refine own_step (W' := s₁.setTop (mkF m 37 #[.val (.int (8 : Int32))] [(.int (4 : Int32)), (.int (8 : Int32))])) (fun _ k => XS.iconst X0.here hx rfl (hb hby d1_36) k) ?_
  refine own_step (W' := s₁.setTop (mkF m 44 #[.val (.int (8 : Int32))] [])) (fun _ k => XS.icmpYes X0.here hx rfl (pc0 := 37) (pc' := 44) rfl (hb hby d1_37) rfl (by decide) (by decide) (by decide) k) ?_
  refine own_step (W' := s₁.setTop (mkF m 45 #[.val (.int (8 : Int32))] [(.int (8 : Int32))])) (fun _ k => XS.iloadN X0.here hx rfl (hb hby d1_44) rfl k) ?_
  refine own_step (W' := s₁.setTop (mkF m 46 #[.val (.int (8 : Int32))] [(.int (5 : Int32)), (.int (8 : Int32))])) (fun _ k => XS.iconst X0.here hx rfl (hb hby d1_45) k) ?_
  refine own_step (W' := s₁.setTop (mkF m 53 #[.val (.int (8 : Int32))] [])) (fun _ k => XS.icmpYes X0.here hx rfl (pc0 := 46) (pc' := 53) rfl (hb hby d1_46) rfl (by decide) (by decide) (by decide) k) ?_
  refine own_step (W' := s₁.setTop (mkF m 54 #[.val (.int (8 : Int32))] [(.int (8 : Int32))])) (fun _ k => XS.iloadN X0.here hx rfl (hb hby d1_53) rfl k) ?_
  refine own_step (W' := s₁.setTop (mkF m 56 #[.val (.int (8 : Int32))] [(.int (6 : Int32)), (.int (8 : Int32))])) (fun _ k => XS.bipush X0.here hx rfl (hb hby d1_54) k) ?_
  refine own_step (W' := s₁.setTop (mkF m 63 #[.val (.int (8 : Int32))] [])) (fun _ k => XS.icmpYes X0.here hx rfl (pc0 := 56) (pc' := 63) rfl (hb hby d1_56) rfl (by decide) (by decide) (by decide) k) ?_
  refine own_step (W' := s₁.setTop (mkF m 64 #[.val (.int (8 : Int32))] [(.int (8 : Int32))])) (fun _ k => XS.iloadN X0.here hx rfl (hb hby d1_63) rfl k) ?_
  refine own_step (W' := s₁.setTop (mkF m 66 #[.val (.int (8 : Int32))] [(.int (7 : Int32)), (.int (8 : Int32))])) (fun _ k => XS.bipush X0.here hx rfl (hb hby d1_64) k) ?_
  refine own_step (W' := s₁.setTop (mkF m 73 #[.val (.int (8 : Int32))] [])) (fun _ k => XS.icmpYes X0.here hx rfl (pc0 := 66) (pc' := 73) rfl (hb hby d1_66) rfl (by decide) (by decide) (by decide) k) ?_
  refine own_step (W' := s₁.setTop (mkF m 74 #[.val (.int (8 : Int32))] [(.int (8 : Int32))])) (fun _ k => XS.iloadN X0.here hx rfl (hb hby d1_73) rfl k) ?_
  refine own_step (W' := s₁.setTop (mkF m 76 #[.val (.int (8 : Int32))] [(.int (8 : Int32)), (.int (8 : Int32))])) (fun _ k => XS.bipush X0.here hx rfl (hb hby d1_74) k) ?_
  refine own_step (W' := s₁.setTop (mkF m 79 #[.val (.int (8 : Int32))] [])) (fun _ k => XS.icmpNo X0.here hx rfl (hb hby d1_76) rfl (by decide) k) ?_
  obtain ⟨T1, X1, e1, st1⟩ := getS2 X0 hx hZ hown (host := "") (Or.inl (hw _ (List.mem_of_getElem? (i := 31) rfl))) Via.refl e0 (pin_S9 P) (g := (mkF m 79 #[.val (.int (8 : Int32))] [])) rfl (hb hby d1_79)
  refine own_step (W' := T1.setTop (mkF m 82 #[.val (.int (8 : Int32))] [(.ref (w 9))])) (fun _ k => st1 _ k) ?_
  exact own_ret X1 Bd.notSynchronized Bd.returns (v := (.ref (w 9))) (fun fs hr => retOut X1 hx Bd.returns rfl (Or.inr (Or.inr (Or.inr (Or.inr ⟨rfl, rfl, rfl⟩)))) (hb hby d1_82) hr) ⟨rfl, N0, e1⟩ (by decide) (by decide)
set_option maxRecDepth 65536 in
set_option maxHeartbeats 40000000 in
theorem rm2_w9 (l : Launch) (Z : State) (a0 : Array Value) (hw : ∀ d ∈ tables_1, d.before a0 Z = true) (ws : List Jvm.Cond) (w : Nat → Addr) (h0 : Heap) (n0 : Nat) (Z0 : n0 ≤ h0.size) (P : Pins Z h0 w) :
    MetFree l (⟨"com/example/punctual_proof/punctualproof/network/BinaryOperator", "isComparison", "()Z"⟩ : MethodName) (head1 (Jvm.Cond.code (⟨"com/example/punctual_proof/punctualproof/network/BinaryOperator", "isComparison", "()Z"⟩ : MethodName) prog_59_method_8_code 1 (some .boolean) :: ws) ({ frames := 0, cells := 0, slots := 0, locals := 0 } : Room)) (fun a U => a = #[(.ref (w 9))] ∧ Z.Warmed39 U.vm ∧ U.heap = h0) (fun _ _ _ _ _ => True) (fun _ U o U' => ∃ v L, o = .returned v ∧ own_QK (some (.int (1 : Int32))) h0 n0 v U'.heap L ∧ FrameEnd U o U' L ({ frames := 0, cells := 0, slots := 0, locals := 0 } : Room).cells ({ frames := 0, cells := 0, slots := 0, locals := 0 } : Room).slots) := by
  refine MetFree.of_bodySF (plainFor_of_name pn_com_example_punctual_proof_punctualproof_network_BinaryOperator) hisR ?_
  intro p e s m args below meth c s₁ Bd hml0 hP hK
  obtain ⟨rfl, hZ, hh⟩ := hP
  have hx := Bd.exec
  have hby := Bd.bytes
  have hml : c.maxLocals = 1 := hml0
  have hown : s.vm.findClass "com/example/punctual_proof/punctualproof/network/BinaryOperator" = some m.cls := findClass_of_methodNamed Bd.named
  have hnm := (name_of_methodNamed Bd.named Bd.method).1
  have X0 : Stand p l e ({ frames := 0, cells := 0, slots := 0, locals := 0 } : Room) s m #[(.ref (w 9))] below meth c s₁ [] 0 0 := Stand.of_body Bd
  have e0 : s₁.heap = h0 := by rw [← hh, Bd.state]; rfl
  have N0 := Fr.nil n0
  refine own_enter (ef_2_R m (w 9)) ?_
  refine own_step (W' := s₁.setTop (mkF m 1 #[.val (.ref (w 9))] [(.ref (w 9))])) (fun _ k => XS.aloadN X0.here hx rfl (hb hby d2_0) rfl rfl k) ?_
  obtain ⟨T1, X1, e1, st1⟩ := getF X0 hx hZ hown (host := "") (Or.inl (hw _ (List.mem_of_getElem? (i := 13) rfl))) Via.refl e0 (pin_F9_precedence P) (g := (mkF m 1 #[.val (.ref (w 9))] [(.ref (w 9))])) rfl rfl (hb hby d2_1)
  refine own_step (W' := T1.setTop (mkF m 4 #[.val (.ref (w 9))] [(.int (5 : Int32))])) (fun _ k => st1 _ k) ?_
  refine own_step (W' := T1.setTop (mkF m 5 #[.val (.ref (w 9))] [(.int (5 : Int32)), (.int (5 : Int32))])) (fun _ k => XS.iconst X1.here hx rfl (hb hby d2_4) k) ?_
  refine own_step (W' := T1.setTop (mkF m 8 #[.val (.ref (w 9))] [])) (fun _ k => XS.icmpNo X1.here hx rfl (hb hby d2_5) rfl (by decide) k) ?_
  refine own_step (W' := T1.setTop (mkF m 9 #[.val (.ref (w 9))] [(.int (1 : Int32))])) (fun _ k => XS.iconst X1.here hx rfl (hb hby d2_8) k) ?_
  refine own_step (W' := T1.setTop (mkF m 13 #[.val (.ref (w 9))] [(.int (1 : Int32))])) (fun _ k => XS.goto X1.here hx rfl (pc0 := 9) (pc' := 13) rfl (hb hby d2_9) (by decide) (by decide) k) ?_
  exact own_ret X1 Bd.notSynchronized Bd.returns (v := (.int (1 : Int32))) (fun fs hr => retN X1 hx (t := .boolean) Bd.returns (by simp) (hb hby d2_13) hr) ⟨rfl, N0, e1⟩ (by decide) (by decide)
set_option maxRecDepth 65536 in
set_option maxHeartbeats 40000000 in
theorem rm0_8 (l : Launch) (Z : State) (a0 : Array Value) (hw : ∀ d ∈ tables_1, d.before a0 Z = true) (ws : List Jvm.Cond) (p1 : Int32) (hk : ((p1 &&& (2147483647 : Int32)) % (14 : Int32)) = (8 : Int32)) (w : Nat → Addr) (h0 : Heap) (n0 : Nat) (Z0 : n0 ≤ h0.size) (P : Pins Z h0 w) :
    MetFree l x (head1 (Jvm.Cond.code x code maxLocals ret :: ws) room_1) (fun a U => a = #[(.int p1)] ∧ Z.Warmed39 U.vm ∧ U.heap = h0) (fun _ _ _ _ _ => True) (fun _ U o U' => ∃ v L, o = .returned v ∧ own_Q0 n0 v U'.heap L ∧ FrameEnd U o U' L room_1.cells room_1.slots) := by
  refine MetFree.of_bodySF (plainFor_of_name pn_com_example_punctual_proof_punctualproof_network_BinaryOperatorIsComparisonPinLaw) hisR ?_
  intro p e s m args below meth c s₁ Bd hml0 hP hK
  obtain ⟨rfl, hZ, hh⟩ := hP
  have hx := Bd.exec
  have hby := Bd.bytes
  have hml : c.maxLocals = 4 := hml0
  have hown : s.vm.findClass "com/example/punctual_proof/punctualproof/network/BinaryOperatorIsComparisonPinLaw" = some m.cls := findClass_of_methodNamed Bd.named
  have hnm := (name_of_methodNamed Bd.named Bd.method).1
  have X0 : Stand p l e room_1 s m #[(.int p1)] below meth c s₁ [] 0 0 := Stand.of_body Bd
  have e0 : s₁.heap = h0 := by rw [← hh, Bd.state]; rfl
  have N0 := Fr.nil n0
  refine own_enter (ef_0_I m p1) ?_
  refine own_step (W' := s₁.setTop (mkF m 1 #[.val (.int p1), .unset, .unset, .unset] [(.int p1)])) (fun _ k => XS.iloadN X0.here hx rfl (hb hby at_0) rfl k) ?_
  refine own_step (W' := s₁.setTop (mkF m 3 #[.val (.int p1), .unset, .unset, .unset] [(.int (2147483647 : Int32)), (.int p1)])) (fun _ k => X0.ldcInt hx hown (mvT hZ (hw _ (List.mem_of_getElem? (i := 0) rfl))) (g := (mkF m 1 #[.val (.int p1), .unset, .unset, .unset] [(.int p1)])) rfl (hb hby at_1) _ k) ?_
  refine own_step (W' := s₁.setTop (mkF m 4 #[.val (.int p1), .unset, .unset, .unset] [(.int (p1 &&& (2147483647 : Int32)))])) (fun _ k => XS.iand X0.here hx rfl (hb hby at_3) rfl k) ?_
  refine own_step (W' := s₁.setTop (mkF m 6 #[.val (.int p1), .unset, .unset, .unset] [(.int (14 : Int32)), (.int (p1 &&& (2147483647 : Int32)))])) (fun _ k => XS.bipush X0.here hx rfl (hb hby at_4) k) ?_
  refine own_step (W' := s₁.setTop (mkF m 7 #[.val (.int p1), .unset, .unset, .unset] [(.int ((p1 &&& (2147483647 : Int32)) % (14 : Int32)))])) (fun _ k => iremM X0 hx rfl (hb hby at_6) rfl (by decide) k) ?_
  rw [hk]
  refine own_step (W' := s₁.setTop (mkF m 8 #[.val (.int p1), .val (.int (8 : Int32)), .unset, .unset] [])) (fun _ k => XS.istoreN X0.here hx rfl (hb hby at_7) rfl (l' := #[.val (.int p1), .val (.int (8 : Int32)), .unset, .unset]) rfl k) ?_
  refine own_step (W' := s₁.setTop (mkF m 9 #[.val (.int p1), .val (.int (8 : Int32)), .unset, .unset] [(.int (8 : Int32))])) (fun _ k => XS.iloadN X0.here hx rfl (hb hby at_8) rfl k) ?_
  obtain ⟨_, _, ⟨T1, L1, k1, n1⟩, -, X1, ⟨Lc1, hQ1, l1, y1, z1⟩, st1⟩ := Jvm.LawKit.callS X0 hx (y := (⟨"com/example/punctual_proof/punctualproof/network/BinaryOperatorIsComparisonPinLaw", "pick", "(I)Lcom/example/punctual_proof/punctualproof/network/BinaryOperator;"⟩ : MethodName)) hown (mvT hZ (hw _ (List.mem_of_getElem? (i := 1) rfl))) (mvT hZ (hw _ (List.mem_of_getElem? (i := 2) rfl))) (mvT hZ (hw _ (List.mem_of_getElem? (i := 3) rfl))) (mvT hZ (hw _ (List.mem_of_getElem? (i := 4) rfl))) (by decide) (backOf (W := 0) (rm1_8 l Z a0 hw [] w h0 n0 Z0 P) hZ (hw _ (List.mem_of_getElem? (i := 4) rfl)) (hw _ (List.mem_of_getElem? (i := 3) rfl)) (by decide) (by decide)) (g := (mkF m 9 #[.val (.int p1), .val (.int (8 : Int32)), .unset, .unset] [(.int (8 : Int32))])) rfl (by rw [hml]; rfl) (argsL := [(.int (8 : Int32))]) (rest := []) (lenOf pd_0 rfl) rfl (by show 2 * 0 + _ ≤ _; exact Nat.le_of_eq rfl) (hb hby at_9) (fun _ _ => ⟨rfl, e0, (by decide : 0 + 0 ≤ _), (by decide : 0 + 0 ≤ _)⟩)
  dsimp only [Pt.U, Pt.locs, Pt.cells, Pt.slots] at X1 l1 y1 z1 st1 hQ1
  subst l1 y1 z1
  obtain ⟨rfl, N1q, e1⟩ := hQ1
  have N1 := Fr.app N0 N1q
  refine own_step (W' := T1.setTop (mkF m 12 #[.val (.int p1), .val (.int (8 : Int32)), .unset, .unset] [(.ref (w 9))])) (fun _ k => st1 _ k) ?_
  refine own_step (W' := T1.setTop (mkF m 13 #[.val (.int p1), .val (.int (8 : Int32)), .val (.ref (w 9)), .unset] [])) (fun _ k => XS.astoreN X1.here hx rfl (hb hby at_12) rfl rfl (l' := #[.val (.int p1), .val (.int (8 : Int32)), .val (.ref (w 9)), .unset]) rfl k) ?_
  refine own_step (W' := T1.setTop (mkF m 14 #[.val (.int p1), .val (.int (8 : Int32)), .val (.ref (w 9)), .unset] [(.int (8 : Int32))])) (fun _ k => XS.iloadN X1.here hx rfl (hb hby at_13) rfl k) ?_
  refine own_step (W' := T1.setTop (mkF m 15 #[.val (.int p1), .val (.int (8 : Int32)), .val (.ref (w 9)), .unset] [(.int (3 : Int32)), (.int (8 : Int32))])) (fun _ k => XS.iconst X1.here hx rfl (hb hby at_14) k) ?_
  refine own_step (W' := T1.setTop (mkF m 18 #[.val (.int p1), .val (.int (8 : Int32)), .val (.ref (w 9)), .unset] [])) (fun _ k => XS.icmpNo X1.here hx rfl (hb hby at_15) rfl (by decide) k) ?_
  refine own_step (W' := T1.setTop (mkF m 19 #[.val (.int p1), .val (.int (8 : Int32)), .val (.ref (w 9)), .unset] [(.int (8 : Int32))])) (fun _ k => XS.iloadN X1.here hx rfl (hb hby at_18) rfl k) ?_
  refine own_step (W' := T1.setTop (mkF m 20 #[.val (.int p1), .val (.int (8 : Int32)), .val (.ref (w 9)), .unset] [(.int (4 : Int32)), (.int (8 : Int32))])) (fun _ k => XS.iconst X1.here hx rfl (hb hby at_19) k) ?_
  refine own_step (W' := T1.setTop (mkF m 23 #[.val (.int p1), .val (.int (8 : Int32)), .val (.ref (w 9)), .unset] [])) (fun _ k => XS.icmpNo X1.here hx rfl (hb hby at_20) rfl (by decide) k) ?_
  refine own_step (W' := T1.setTop (mkF m 24 #[.val (.int p1), .val (.int (8 : Int32)), .val (.ref (w 9)), .unset] [(.int (8 : Int32))])) (fun _ k => XS.iloadN X1.here hx rfl (hb hby at_23) rfl k) ?_
  refine own_step (W' := T1.setTop (mkF m 25 #[.val (.int p1), .val (.int (8 : Int32)), .val (.ref (w 9)), .unset] [(.int (5 : Int32)), (.int (8 : Int32))])) (fun _ k => XS.iconst X1.here hx rfl (hb hby at_24) k) ?_
  refine own_step (W' := T1.setTop (mkF m 28 #[.val (.int p1), .val (.int (8 : Int32)), .val (.ref (w 9)), .unset] [])) (fun _ k => XS.icmpNo X1.here hx rfl (hb hby at_25) rfl (by decide) k) ?_
  refine own_step (W' := T1.setTop (mkF m 29 #[.val (.int p1), .val (.int (8 : Int32)), .val (.ref (w 9)), .unset] [(.int (8 : Int32))])) (fun _ k => XS.iloadN X1.here hx rfl (hb hby at_28) rfl k) ?_
  refine own_step (W' := T1.setTop (mkF m 31 #[.val (.int p1), .val (.int (8 : Int32)), .val (.ref (w 9)), .unset] [(.int (6 : Int32)), (.int (8 : Int32))])) (fun _ k => XS.bipush X1.here hx rfl (hb hby at_29) k) ?_
  refine own_step (W' := T1.setTop (mkF m 34 #[.val (.int p1), .val (.int (8 : Int32)), .val (.ref (w 9)), .unset] [])) (fun _ k => XS.icmpNo X1.here hx rfl (hb hby at_31) rfl (by decide) k) ?_
  refine own_step (W' := T1.setTop (mkF m 35 #[.val (.int p1), .val (.int (8 : Int32)), .val (.ref (w 9)), .unset] [(.int (8 : Int32))])) (fun _ k => XS.iloadN X1.here hx rfl (hb hby at_34) rfl k) ?_
  refine own_step (W' := T1.setTop (mkF m 37 #[.val (.int p1), .val (.int (8 : Int32)), .val (.ref (w 9)), .unset] [(.int (7 : Int32)), (.int (8 : Int32))])) (fun _ k => XS.bipush X1.here hx rfl (hb hby at_35) k) ?_
  refine own_step (W' := T1.setTop (mkF m 40 #[.val (.int p1), .val (.int (8 : Int32)), .val (.ref (w 9)), .unset] [])) (fun _ k => XS.icmpNo X1.here hx rfl (hb hby at_37) rfl (by decide) k) ?_
  refine own_step (W' := T1.setTop (mkF m 41 #[.val (.int p1), .val (.int (8 : Int32)), .val (.ref (w 9)), .unset] [(.int (8 : Int32))])) (fun _ k => XS.iloadN X1.here hx rfl (hb hby at_40) rfl k) ?_
  refine own_step (W' := T1.setTop (mkF m 43 #[.val (.int p1), .val (.int (8 : Int32)), .val (.ref (w 9)), .unset] [(.int (8 : Int32)), (.int (8 : Int32))])) (fun _ k => XS.bipush X1.here hx rfl (hb hby at_41) k) ?_
  refine own_step (W' := T1.setTop (mkF m 46 #[.val (.int p1), .val (.int (8 : Int32)), .val (.ref (w 9)), .unset] [])) (fun _ k => XS.icmpNo X1.here hx rfl (hb hby at_43) rfl (by decide) k) ?_
  refine own_step (W' := T1.setTop (mkF m 47 #[.val (.int p1), .val (.int (8 : Int32)), .val (.ref (w 9)), .unset] [(.int (1 : Int32))])) (fun _ k => XS.iconst X1.here hx rfl (hb hby at_46) k) ?_
  refine own_step (W' := T1.setTop (mkF m 51 #[.val (.int p1), .val (.int (8 : Int32)), .val (.ref (w 9)), .unset] [(.int (1 : Int32))])) (fun _ k => XS.goto X1.here hx rfl (pc0 := 47) (pc' := 51) rfl (hb hby at_47) (by decide) (by decide) k) ?_
  refine own_step (W' := T1.setTop (mkF m 52 #[.val (.int p1), .val (.int (8 : Int32)), .val (.ref (w 9)), .val (.int (1 : Int32))] [])) (fun _ k => XS.istoreN X1.here hx rfl (hb hby at_51) rfl (l' := #[.val (.int p1), .val (.int (8 : Int32)), .val (.ref (w 9)), .val (.int (1 : Int32))]) rfl k) ?_
  refine own_step (W' := T1.setTop (mkF m 53 #[.val (.int p1), .val (.int (8 : Int32)), .val (.ref (w 9)), .val (.int (1 : Int32))] [(.ref (w 9))])) (fun _ k => XS.aloadN X1.here hx rfl (hb hby at_52) rfl rfl k) ?_
  obtain ⟨cq2, kq2, q2a, q2b, q2c⟩ := isOf hZ e1 (pin_E9 P)
  obtain ⟨_, _, ⟨T2, L2, k2, n2⟩, -, X2, ⟨Lc2, hQ2, l2, y2, z2⟩, st2⟩ := X1.virtualBack hx (y := (⟨"com/example/punctual_proof/punctualproof/network/BinaryOperator", "isComparison", "()Z"⟩ : MethodName)) (z := (⟨"com/example/punctual_proof/punctualproof/network/BinaryOperator", "isComparison", "()Z"⟩ : MethodName)) hown (mvT hZ (hw _ (List.mem_of_getElem? (i := 8) rfl))) (mvT hZ (hw _ (List.mem_of_getElem? (i := 9) rfl))) (notFace_of_selects (args := #[]) (mvT hZ (hw _ (List.mem_of_getElem? (i := 11) rfl)))) (mvT hZ (hw _ (List.mem_of_getElem? (i := 11) rfl))) (mvT hZ (hw _ (List.mem_of_getElem? (i := 10) rfl))) (by decide) (backOf (W := 0) (rm2_w9 l Z a0 hw [] w h0 n0 Z0 P) hZ (hw _ (List.mem_of_getElem? (i := 12) rfl)) (hw _ (List.mem_of_getElem? (i := 6) rfl)) (by decide) (by decide)) q2a q2c (g := (mkF m 53 #[.val (.int p1), .val (.int (8 : Int32)), .val (.ref (w 9)), .val (.int (1 : Int32))] [(.ref (w 9))])) rfl (by rw [hml]; rfl) (Steps.refl _) (argsL := []) (rest := []) (lenOf pd_1 rfl) rfl (by show 2 * 0 + _ ≤ _; exact Nat.le_of_eq rfl) (hb hby at_53) (fun _ _ => ⟨rfl, e1, (by decide : 0 + 0 ≤ _), (by decide : 0 + 0 ≤ _)⟩)
  dsimp only [Pt.U, Pt.locs, Pt.cells, Pt.slots] at X2 l2 y2 z2 st2 hQ2
  subst l2 y2 z2
  obtain ⟨rfl, N2q, e2⟩ := hQ2
  have N2 := Fr.app N1 N2q
  refine own_step (W' := T2.setTop (mkF m 56 #[.val (.int p1), .val (.int (8 : Int32)), .val (.ref (w 9)), .val (.int (1 : Int32))] [(.int (1 : Int32))])) (fun _ k => st2.trans k) ?_
  refine own_step (W' := T2.setTop (mkF m 57 #[.val (.int p1), .val (.int (8 : Int32)), .val (.ref (w 9)), .val (.int (1 : Int32))] [(.int (1 : Int32)), (.int (1 : Int32))])) (fun _ k => XS.iloadN X2.here hx rfl (hb hby at_56) rfl k) ?_
  refine own_step (W' := T2.setTop (mkF m 60 #[.val (.int p1), .val (.int (8 : Int32)), .val (.ref (w 9)), .val (.int (1 : Int32))] [])) (fun _ k => XS.icmpNo X2.here hx rfl (hb hby at_57) rfl (by decide) k) ?_
  refine own_step (W' := T2.setTop (mkF m 61 #[.val (.int p1), .val (.int (8 : Int32)), .val (.ref (w 9)), .val (.int (1 : Int32))] [(.int (1 : Int32))])) (fun _ k => XS.iconst X2.here hx rfl (hb hby at_60) k) ?_
  refine own_step (W' := T2.setTop (mkF m 65 #[.val (.int p1), .val (.int (8 : Int32)), .val (.ref (w 9)), .val (.int (1 : Int32))] [(.int (1 : Int32))])) (fun _ k => XS.goto X2.here hx rfl (pc0 := 61) (pc' := 65) rfl (hb hby at_61) (by decide) (by decide) k) ?_
  exact own_ret X2 Bd.notSynchronized Bd.returns (v := (.int (1 : Int32))) (fun fs hr => retN X2 hx (t := .boolean) Bd.returns (by simp) (hb hby at_65) hr) ⟨rfl, N2⟩ (by decide) (by decide)
set_option maxRecDepth 65536 in
set_option maxHeartbeats 40000000 in
theorem rm1_9 (l : Launch) (Z : State) (a0 : Array Value) (hw : ∀ d ∈ tables_1, d.before a0 Z = true) (ws : List Jvm.Cond) (w : Nat → Addr) (h0 : Heap) (n0 : Nat) (Z0 : n0 ≤ h0.size) (P : Pins Z h0 w) :
    MetFree l (⟨"com/example/punctual_proof/punctualproof/network/BinaryOperatorIsComparisonPinLaw", "pick", "(I)Lcom/example/punctual_proof/punctualproof/network/BinaryOperator;"⟩ : MethodName) (head1 (Jvm.Cond.code (⟨"com/example/punctual_proof/punctualproof/network/BinaryOperatorIsComparisonPinLaw", "pick", "(I)Lcom/example/punctual_proof/punctualproof/network/BinaryOperator;"⟩ : MethodName) method_3_code 1 (some (.object "com/example/punctual_proof/punctualproof/network/BinaryOperator")) :: ws) ({ frames := 0, cells := 0, slots := 0, locals := 0 } : Room)) (fun a U => a = #[(.int (9 : Int32))] ∧ Z.Warmed39 U.vm ∧ U.heap = h0) (fun _ _ _ _ _ => True) (fun _ U o U' => ∃ v L, o = .returned v ∧ own_QK (some (.ref (w 11))) h0 n0 v U'.heap L ∧ FrameEnd U o U' L ({ frames := 0, cells := 0, slots := 0, locals := 0 } : Room).cells ({ frames := 0, cells := 0, slots := 0, locals := 0 } : Room).slots) := by
  refine MetFree.of_bodySF (plainFor_of_name pn_com_example_punctual_proof_punctualproof_network_BinaryOperatorIsComparisonPinLaw) hisR ?_
  intro p e s m args below meth c s₁ Bd hml0 hP hK
  obtain ⟨rfl, hZ, hh⟩ := hP
  have hx := Bd.exec
  have hby := Bd.bytes
  have hml : c.maxLocals = 1 := hml0
  have hown : s.vm.findClass "com/example/punctual_proof/punctualproof/network/BinaryOperatorIsComparisonPinLaw" = some m.cls := findClass_of_methodNamed Bd.named
  have hnm := (name_of_methodNamed Bd.named Bd.method).1
  have X0 : Stand p l e ({ frames := 0, cells := 0, slots := 0, locals := 0 } : Room) s m #[(.int (9 : Int32))] below meth c s₁ [] 0 0 := Stand.of_body Bd
  have e0 : s₁.heap = h0 := by rw [← hh, Bd.state]; rfl
  have N0 := Fr.nil n0
  refine own_enter (ef_1_I m (9 : Int32)) ?_
  refine own_step (W' := s₁.setTop (mkF m 1 #[.val (.int (9 : Int32))] [(.int (9 : Int32))])) (fun _ k => XS.iloadN X0.here hx rfl (hb hby d1_0) rfl k) ?_
  refine own_step (W' := s₁.setTop (mkF m 8 #[.val (.int (9 : Int32))] [])) (fun _ k => XS.ifYes X0.here hx rfl (pc0 := 1) (pc' := 8) rfl (hb hby d1_1) rfl (by decide) (by decide) (by decide) k) ?_
  refine own_step (W' := s₁.setTop (mkF m 9 #[.val (.int (9 : Int32))] [(.int (9 : Int32))])) (fun _ k => XS.iloadN X0.here hx rfl (hb hby d1_8) rfl k) ?_
  refine own_step (W' := s₁.setTop (mkF m 10 #[.val (.int (9 : Int32))] [(.int (1 : Int32)), (.int (9 : Int32))])) (fun _ k => XS.iconst X0.here hx rfl (hb hby d1_9) k) ?_
  refine own_step (W' := s₁.setTop (mkF m 17 #[.val (.int (9 : Int32))] [])) (fun _ k => XS.icmpYes X0.here hx rfl (pc0 := 10) (pc' := 17) rfl (hb hby d1_10) rfl (by decide) (by decide) (by decide) k) ?_
  refine own_step (W' := s₁.setTop (mkF m 18 #[.val (.int (9 : Int32))] [(.int (9 : Int32))])) (fun _ k => XS.iloadN X0.here hx rfl (hb hby d1_17) rfl k) ?_
  refine own_step (W' := s₁.setTop (mkF m 19 #[.val (.int (9 : Int32))] [(.int (2 : Int32)), (.int (9 : Int32))])) (fun _ k => XS.iconst X0.here hx rfl (hb hby d1_18) k) ?_
  refine own_step (W' := s₁.setTop (mkF m 26 #[.val (.int (9 : Int32))] [])) (fun _ k => XS.icmpYes X0.here hx rfl (pc0 := 19) (pc' := 26) rfl (hb hby d1_19) rfl (by decide) (by decide) (by decide) k) ?_
  refine own_step (W' := s₁.setTop (mkF m 27 #[.val (.int (9 : Int32))] [(.int (9 : Int32))])) (fun _ k => XS.iloadN X0.here hx rfl (hb hby d1_26) rfl k) ?_
  refine own_step (W' := s₁.setTop (mkF m 28 #[.val (.int (9 : Int32))] [(.int (3 : Int32)), (.int (9 : Int32))])) (fun _ k => XS.iconst X0.here hx rfl (hb hby d1_27) k) ?_
  refine own_step (W' := s₁.setTop (mkF m 35 #[.val (.int (9 : Int32))] [])) (fun _ k => XS.icmpYes X0.here hx rfl (pc0 := 28) (pc' := 35) rfl (hb hby d1_28) rfl (by decide) (by decide) (by decide) k) ?_
  refine own_step (W' := s₁.setTop (mkF m 36 #[.val (.int (9 : Int32))] [(.int (9 : Int32))])) (fun _ k => XS.iloadN X0.here hx rfl (hb hby d1_35) rfl k) ?_
  refine own_step (W' := s₁.setTop (mkF m 37 #[.val (.int (9 : Int32))] [(.int (4 : Int32)), (.int (9 : Int32))])) (fun _ k => XS.iconst X0.here hx rfl (hb hby d1_36) k) ?_
  refine own_step (W' := s₁.setTop (mkF m 44 #[.val (.int (9 : Int32))] [])) (fun _ k => XS.icmpYes X0.here hx rfl (pc0 := 37) (pc' := 44) rfl (hb hby d1_37) rfl (by decide) (by decide) (by decide) k) ?_
  refine own_step (W' := s₁.setTop (mkF m 45 #[.val (.int (9 : Int32))] [(.int (9 : Int32))])) (fun _ k => XS.iloadN X0.here hx rfl (hb hby d1_44) rfl k) ?_
  refine own_step (W' := s₁.setTop (mkF m 46 #[.val (.int (9 : Int32))] [(.int (5 : Int32)), (.int (9 : Int32))])) (fun _ k => XS.iconst X0.here hx rfl (hb hby d1_45) k) ?_
  refine own_step (W' := s₁.setTop (mkF m 53 #[.val (.int (9 : Int32))] [])) (fun _ k => XS.icmpYes X0.here hx rfl (pc0 := 46) (pc' := 53) rfl (hb hby d1_46) rfl (by decide) (by decide) (by decide) k) ?_
  refine own_step (W' := s₁.setTop (mkF m 54 #[.val (.int (9 : Int32))] [(.int (9 : Int32))])) (fun _ k => XS.iloadN X0.here hx rfl (hb hby d1_53) rfl k) ?_
  refine own_step (W' := s₁.setTop (mkF m 56 #[.val (.int (9 : Int32))] [(.int (6 : Int32)), (.int (9 : Int32))])) (fun _ k => XS.bipush X0.here hx rfl (hb hby d1_54) k) ?_
  refine own_step (W' := s₁.setTop (mkF m 63 #[.val (.int (9 : Int32))] [])) (fun _ k => XS.icmpYes X0.here hx rfl (pc0 := 56) (pc' := 63) rfl (hb hby d1_56) rfl (by decide) (by decide) (by decide) k) ?_
  refine own_step (W' := s₁.setTop (mkF m 64 #[.val (.int (9 : Int32))] [(.int (9 : Int32))])) (fun _ k => XS.iloadN X0.here hx rfl (hb hby d1_63) rfl k) ?_
  refine own_step (W' := s₁.setTop (mkF m 66 #[.val (.int (9 : Int32))] [(.int (7 : Int32)), (.int (9 : Int32))])) (fun _ k => XS.bipush X0.here hx rfl (hb hby d1_64) k) ?_
  refine own_step (W' := s₁.setTop (mkF m 73 #[.val (.int (9 : Int32))] [])) (fun _ k => XS.icmpYes X0.here hx rfl (pc0 := 66) (pc' := 73) rfl (hb hby d1_66) rfl (by decide) (by decide) (by decide) k) ?_
  refine own_step (W' := s₁.setTop (mkF m 74 #[.val (.int (9 : Int32))] [(.int (9 : Int32))])) (fun _ k => XS.iloadN X0.here hx rfl (hb hby d1_73) rfl k) ?_
  refine own_step (W' := s₁.setTop (mkF m 76 #[.val (.int (9 : Int32))] [(.int (8 : Int32)), (.int (9 : Int32))])) (fun _ k => XS.bipush X0.here hx rfl (hb hby d1_74) k) ?_
  refine own_step (W' := s₁.setTop (mkF m 83 #[.val (.int (9 : Int32))] [])) (fun _ k => XS.icmpYes X0.here hx rfl (pc0 := 76) (pc' := 83) rfl (hb hby d1_76) rfl (by decide) (by decide) (by decide) k) ?_
  refine own_step (W' := s₁.setTop (mkF m 84 #[.val (.int (9 : Int32))] [(.int (9 : Int32))])) (fun _ k => XS.iloadN X0.here hx rfl (hb hby d1_83) rfl k) ?_
  refine own_step (W' := s₁.setTop (mkF m 86 #[.val (.int (9 : Int32))] [(.int (9 : Int32)), (.int (9 : Int32))])) (fun _ k => XS.bipush X0.here hx rfl (hb hby d1_84) k) ?_
  refine own_step (W' := s₁.setTop (mkF m 89 #[.val (.int (9 : Int32))] [])) (fun _ k => XS.icmpNo X0.here hx rfl (hb hby d1_86) rfl (by decide) k) ?_
  obtain ⟨T1, X1, e1, st1⟩ := getS2 X0 hx hZ hown (host := "") (Or.inl (hw _ (List.mem_of_getElem? (i := 35) rfl))) Via.refl e0 (pin_S11 P) (g := (mkF m 89 #[.val (.int (9 : Int32))] [])) rfl (hb hby d1_89)
  refine own_step (W' := T1.setTop (mkF m 92 #[.val (.int (9 : Int32))] [(.ref (w 11))])) (fun _ k => st1 _ k) ?_
  exact own_ret X1 Bd.notSynchronized Bd.returns (v := (.ref (w 11))) (fun fs hr => retOut X1 hx Bd.returns rfl (Or.inr (Or.inr (Or.inr (Or.inr ⟨rfl, rfl, rfl⟩)))) (hb hby d1_92) hr) ⟨rfl, N0, e1⟩ (by decide) (by decide)
set_option maxRecDepth 65536 in
set_option maxHeartbeats 40000000 in
theorem rm2_w11 (l : Launch) (Z : State) (a0 : Array Value) (hw : ∀ d ∈ tables_1, d.before a0 Z = true) (ws : List Jvm.Cond) (w : Nat → Addr) (h0 : Heap) (n0 : Nat) (Z0 : n0 ≤ h0.size) (P : Pins Z h0 w) :
    MetFree l (⟨"com/example/punctual_proof/punctualproof/network/BinaryOperator", "isComparison", "()Z"⟩ : MethodName) (head1 (Jvm.Cond.code (⟨"com/example/punctual_proof/punctualproof/network/BinaryOperator", "isComparison", "()Z"⟩ : MethodName) prog_59_method_8_code 1 (some .boolean) :: ws) ({ frames := 0, cells := 0, slots := 0, locals := 0 } : Room)) (fun a U => a = #[(.ref (w 11))] ∧ Z.Warmed39 U.vm ∧ U.heap = h0) (fun _ _ _ _ _ => True) (fun _ U o U' => ∃ v L, o = .returned v ∧ own_QK (some (.int (0 : Int32))) h0 n0 v U'.heap L ∧ FrameEnd U o U' L ({ frames := 0, cells := 0, slots := 0, locals := 0 } : Room).cells ({ frames := 0, cells := 0, slots := 0, locals := 0 } : Room).slots) := by
  refine MetFree.of_bodySF (plainFor_of_name pn_com_example_punctual_proof_punctualproof_network_BinaryOperator) hisR ?_
  intro p e s m args below meth c s₁ Bd hml0 hP hK
  obtain ⟨rfl, hZ, hh⟩ := hP
  have hx := Bd.exec
  have hby := Bd.bytes
  have hml : c.maxLocals = 1 := hml0
  have hown : s.vm.findClass "com/example/punctual_proof/punctualproof/network/BinaryOperator" = some m.cls := findClass_of_methodNamed Bd.named
  have hnm := (name_of_methodNamed Bd.named Bd.method).1
  have X0 : Stand p l e ({ frames := 0, cells := 0, slots := 0, locals := 0 } : Room) s m #[(.ref (w 11))] below meth c s₁ [] 0 0 := Stand.of_body Bd
  have e0 : s₁.heap = h0 := by rw [← hh, Bd.state]; rfl
  have N0 := Fr.nil n0
  refine own_enter (ef_2_R m (w 11)) ?_
  refine own_step (W' := s₁.setTop (mkF m 1 #[.val (.ref (w 11))] [(.ref (w 11))])) (fun _ k => XS.aloadN X0.here hx rfl (hb hby d2_0) rfl rfl k) ?_
  obtain ⟨T1, X1, e1, st1⟩ := getF X0 hx hZ hown (host := "") (Or.inl (hw _ (List.mem_of_getElem? (i := 13) rfl))) Via.refl e0 (pin_F11_precedence P) (g := (mkF m 1 #[.val (.ref (w 11))] [(.ref (w 11))])) rfl rfl (hb hby d2_1)
  refine own_step (W' := T1.setTop (mkF m 4 #[.val (.ref (w 11))] [(.int (6 : Int32))])) (fun _ k => st1 _ k) ?_
  refine own_step (W' := T1.setTop (mkF m 5 #[.val (.ref (w 11))] [(.int (5 : Int32)), (.int (6 : Int32))])) (fun _ k => XS.iconst X1.here hx rfl (hb hby d2_4) k) ?_
  refine own_step (W' := T1.setTop (mkF m 12 #[.val (.ref (w 11))] [])) (fun _ k => XS.icmpYes X1.here hx rfl (pc0 := 5) (pc' := 12) rfl (hb hby d2_5) rfl (by decide) (by decide) (by decide) k) ?_
  refine own_step (W' := T1.setTop (mkF m 13 #[.val (.ref (w 11))] [(.int (0 : Int32))])) (fun _ k => XS.iconst X1.here hx rfl (hb hby d2_12) k) ?_
  exact own_ret X1 Bd.notSynchronized Bd.returns (v := (.int (0 : Int32))) (fun fs hr => retN X1 hx (t := .boolean) Bd.returns (by simp) (hb hby d2_13) hr) ⟨rfl, N0, e1⟩ (by decide) (by decide)
set_option maxRecDepth 65536 in
set_option maxHeartbeats 40000000 in
theorem rm0_9 (l : Launch) (Z : State) (a0 : Array Value) (hw : ∀ d ∈ tables_1, d.before a0 Z = true) (ws : List Jvm.Cond) (p1 : Int32) (hk : ((p1 &&& (2147483647 : Int32)) % (14 : Int32)) = (9 : Int32)) (w : Nat → Addr) (h0 : Heap) (n0 : Nat) (Z0 : n0 ≤ h0.size) (P : Pins Z h0 w) :
    MetFree l x (head1 (Jvm.Cond.code x code maxLocals ret :: ws) room_1) (fun a U => a = #[(.int p1)] ∧ Z.Warmed39 U.vm ∧ U.heap = h0) (fun _ _ _ _ _ => True) (fun _ U o U' => ∃ v L, o = .returned v ∧ own_Q0 n0 v U'.heap L ∧ FrameEnd U o U' L room_1.cells room_1.slots) := by
  refine MetFree.of_bodySF (plainFor_of_name pn_com_example_punctual_proof_punctualproof_network_BinaryOperatorIsComparisonPinLaw) hisR ?_
  intro p e s m args below meth c s₁ Bd hml0 hP hK
  obtain ⟨rfl, hZ, hh⟩ := hP
  have hx := Bd.exec
  have hby := Bd.bytes
  have hml : c.maxLocals = 4 := hml0
  have hown : s.vm.findClass "com/example/punctual_proof/punctualproof/network/BinaryOperatorIsComparisonPinLaw" = some m.cls := findClass_of_methodNamed Bd.named
  have hnm := (name_of_methodNamed Bd.named Bd.method).1
  have X0 : Stand p l e room_1 s m #[(.int p1)] below meth c s₁ [] 0 0 := Stand.of_body Bd
  have e0 : s₁.heap = h0 := by rw [← hh, Bd.state]; rfl
  have N0 := Fr.nil n0
  refine own_enter (ef_0_I m p1) ?_
  refine own_step (W' := s₁.setTop (mkF m 1 #[.val (.int p1), .unset, .unset, .unset] [(.int p1)])) (fun _ k => XS.iloadN X0.here hx rfl (hb hby at_0) rfl k) ?_
  refine own_step (W' := s₁.setTop (mkF m 3 #[.val (.int p1), .unset, .unset, .unset] [(.int (2147483647 : Int32)), (.int p1)])) (fun _ k => X0.ldcInt hx hown (mvT hZ (hw _ (List.mem_of_getElem? (i := 0) rfl))) (g := (mkF m 1 #[.val (.int p1), .unset, .unset, .unset] [(.int p1)])) rfl (hb hby at_1) _ k) ?_
  refine own_step (W' := s₁.setTop (mkF m 4 #[.val (.int p1), .unset, .unset, .unset] [(.int (p1 &&& (2147483647 : Int32)))])) (fun _ k => XS.iand X0.here hx rfl (hb hby at_3) rfl k) ?_
  refine own_step (W' := s₁.setTop (mkF m 6 #[.val (.int p1), .unset, .unset, .unset] [(.int (14 : Int32)), (.int (p1 &&& (2147483647 : Int32)))])) (fun _ k => XS.bipush X0.here hx rfl (hb hby at_4) k) ?_
  refine own_step (W' := s₁.setTop (mkF m 7 #[.val (.int p1), .unset, .unset, .unset] [(.int ((p1 &&& (2147483647 : Int32)) % (14 : Int32)))])) (fun _ k => iremM X0 hx rfl (hb hby at_6) rfl (by decide) k) ?_
  rw [hk]
  refine own_step (W' := s₁.setTop (mkF m 8 #[.val (.int p1), .val (.int (9 : Int32)), .unset, .unset] [])) (fun _ k => XS.istoreN X0.here hx rfl (hb hby at_7) rfl (l' := #[.val (.int p1), .val (.int (9 : Int32)), .unset, .unset]) rfl k) ?_
  refine own_step (W' := s₁.setTop (mkF m 9 #[.val (.int p1), .val (.int (9 : Int32)), .unset, .unset] [(.int (9 : Int32))])) (fun _ k => XS.iloadN X0.here hx rfl (hb hby at_8) rfl k) ?_
  obtain ⟨_, _, ⟨T1, L1, k1, n1⟩, -, X1, ⟨Lc1, hQ1, l1, y1, z1⟩, st1⟩ := Jvm.LawKit.callS X0 hx (y := (⟨"com/example/punctual_proof/punctualproof/network/BinaryOperatorIsComparisonPinLaw", "pick", "(I)Lcom/example/punctual_proof/punctualproof/network/BinaryOperator;"⟩ : MethodName)) hown (mvT hZ (hw _ (List.mem_of_getElem? (i := 1) rfl))) (mvT hZ (hw _ (List.mem_of_getElem? (i := 2) rfl))) (mvT hZ (hw _ (List.mem_of_getElem? (i := 3) rfl))) (mvT hZ (hw _ (List.mem_of_getElem? (i := 4) rfl))) (by decide) (backOf (W := 0) (rm1_9 l Z a0 hw [] w h0 n0 Z0 P) hZ (hw _ (List.mem_of_getElem? (i := 4) rfl)) (hw _ (List.mem_of_getElem? (i := 3) rfl)) (by decide) (by decide)) (g := (mkF m 9 #[.val (.int p1), .val (.int (9 : Int32)), .unset, .unset] [(.int (9 : Int32))])) rfl (by rw [hml]; rfl) (argsL := [(.int (9 : Int32))]) (rest := []) (lenOf pd_0 rfl) rfl (by show 2 * 0 + _ ≤ _; exact Nat.le_of_eq rfl) (hb hby at_9) (fun _ _ => ⟨rfl, e0, (by decide : 0 + 0 ≤ _), (by decide : 0 + 0 ≤ _)⟩)
  dsimp only [Pt.U, Pt.locs, Pt.cells, Pt.slots] at X1 l1 y1 z1 st1 hQ1
  subst l1 y1 z1
  obtain ⟨rfl, N1q, e1⟩ := hQ1
  have N1 := Fr.app N0 N1q
  refine own_step (W' := T1.setTop (mkF m 12 #[.val (.int p1), .val (.int (9 : Int32)), .unset, .unset] [(.ref (w 11))])) (fun _ k => st1 _ k) ?_
  refine own_step (W' := T1.setTop (mkF m 13 #[.val (.int p1), .val (.int (9 : Int32)), .val (.ref (w 11)), .unset] [])) (fun _ k => XS.astoreN X1.here hx rfl (hb hby at_12) rfl rfl (l' := #[.val (.int p1), .val (.int (9 : Int32)), .val (.ref (w 11)), .unset]) rfl k) ?_
  refine own_step (W' := T1.setTop (mkF m 14 #[.val (.int p1), .val (.int (9 : Int32)), .val (.ref (w 11)), .unset] [(.int (9 : Int32))])) (fun _ k => XS.iloadN X1.here hx rfl (hb hby at_13) rfl k) ?_
  refine own_step (W' := T1.setTop (mkF m 15 #[.val (.int p1), .val (.int (9 : Int32)), .val (.ref (w 11)), .unset] [(.int (3 : Int32)), (.int (9 : Int32))])) (fun _ k => XS.iconst X1.here hx rfl (hb hby at_14) k) ?_
  refine own_step (W' := T1.setTop (mkF m 18 #[.val (.int p1), .val (.int (9 : Int32)), .val (.ref (w 11)), .unset] [])) (fun _ k => XS.icmpNo X1.here hx rfl (hb hby at_15) rfl (by decide) k) ?_
  refine own_step (W' := T1.setTop (mkF m 19 #[.val (.int p1), .val (.int (9 : Int32)), .val (.ref (w 11)), .unset] [(.int (9 : Int32))])) (fun _ k => XS.iloadN X1.here hx rfl (hb hby at_18) rfl k) ?_
  refine own_step (W' := T1.setTop (mkF m 20 #[.val (.int p1), .val (.int (9 : Int32)), .val (.ref (w 11)), .unset] [(.int (4 : Int32)), (.int (9 : Int32))])) (fun _ k => XS.iconst X1.here hx rfl (hb hby at_19) k) ?_
  refine own_step (W' := T1.setTop (mkF m 23 #[.val (.int p1), .val (.int (9 : Int32)), .val (.ref (w 11)), .unset] [])) (fun _ k => XS.icmpNo X1.here hx rfl (hb hby at_20) rfl (by decide) k) ?_
  refine own_step (W' := T1.setTop (mkF m 24 #[.val (.int p1), .val (.int (9 : Int32)), .val (.ref (w 11)), .unset] [(.int (9 : Int32))])) (fun _ k => XS.iloadN X1.here hx rfl (hb hby at_23) rfl k) ?_
  refine own_step (W' := T1.setTop (mkF m 25 #[.val (.int p1), .val (.int (9 : Int32)), .val (.ref (w 11)), .unset] [(.int (5 : Int32)), (.int (9 : Int32))])) (fun _ k => XS.iconst X1.here hx rfl (hb hby at_24) k) ?_
  refine own_step (W' := T1.setTop (mkF m 28 #[.val (.int p1), .val (.int (9 : Int32)), .val (.ref (w 11)), .unset] [])) (fun _ k => XS.icmpNo X1.here hx rfl (hb hby at_25) rfl (by decide) k) ?_
  refine own_step (W' := T1.setTop (mkF m 29 #[.val (.int p1), .val (.int (9 : Int32)), .val (.ref (w 11)), .unset] [(.int (9 : Int32))])) (fun _ k => XS.iloadN X1.here hx rfl (hb hby at_28) rfl k) ?_
  refine own_step (W' := T1.setTop (mkF m 31 #[.val (.int p1), .val (.int (9 : Int32)), .val (.ref (w 11)), .unset] [(.int (6 : Int32)), (.int (9 : Int32))])) (fun _ k => XS.bipush X1.here hx rfl (hb hby at_29) k) ?_
  refine own_step (W' := T1.setTop (mkF m 34 #[.val (.int p1), .val (.int (9 : Int32)), .val (.ref (w 11)), .unset] [])) (fun _ k => XS.icmpNo X1.here hx rfl (hb hby at_31) rfl (by decide) k) ?_
  refine own_step (W' := T1.setTop (mkF m 35 #[.val (.int p1), .val (.int (9 : Int32)), .val (.ref (w 11)), .unset] [(.int (9 : Int32))])) (fun _ k => XS.iloadN X1.here hx rfl (hb hby at_34) rfl k) ?_
  refine own_step (W' := T1.setTop (mkF m 37 #[.val (.int p1), .val (.int (9 : Int32)), .val (.ref (w 11)), .unset] [(.int (7 : Int32)), (.int (9 : Int32))])) (fun _ k => XS.bipush X1.here hx rfl (hb hby at_35) k) ?_
  refine own_step (W' := T1.setTop (mkF m 40 #[.val (.int p1), .val (.int (9 : Int32)), .val (.ref (w 11)), .unset] [])) (fun _ k => XS.icmpNo X1.here hx rfl (hb hby at_37) rfl (by decide) k) ?_
  refine own_step (W' := T1.setTop (mkF m 41 #[.val (.int p1), .val (.int (9 : Int32)), .val (.ref (w 11)), .unset] [(.int (9 : Int32))])) (fun _ k => XS.iloadN X1.here hx rfl (hb hby at_40) rfl k) ?_
  refine own_step (W' := T1.setTop (mkF m 43 #[.val (.int p1), .val (.int (9 : Int32)), .val (.ref (w 11)), .unset] [(.int (8 : Int32)), (.int (9 : Int32))])) (fun _ k => XS.bipush X1.here hx rfl (hb hby at_41) k) ?_
  refine own_step (W' := T1.setTop (mkF m 50 #[.val (.int p1), .val (.int (9 : Int32)), .val (.ref (w 11)), .unset] [])) (fun _ k => XS.icmpYes X1.here hx rfl (pc0 := 43) (pc' := 50) rfl (hb hby at_43) rfl (by decide) (by decide) (by decide) k) ?_
  refine own_step (W' := T1.setTop (mkF m 51 #[.val (.int p1), .val (.int (9 : Int32)), .val (.ref (w 11)), .unset] [(.int (0 : Int32))])) (fun _ k => XS.iconst X1.here hx rfl (hb hby at_50) k) ?_
  refine own_step (W' := T1.setTop (mkF m 52 #[.val (.int p1), .val (.int (9 : Int32)), .val (.ref (w 11)), .val (.int (0 : Int32))] [])) (fun _ k => XS.istoreN X1.here hx rfl (hb hby at_51) rfl (l' := #[.val (.int p1), .val (.int (9 : Int32)), .val (.ref (w 11)), .val (.int (0 : Int32))]) rfl k) ?_
  refine own_step (W' := T1.setTop (mkF m 53 #[.val (.int p1), .val (.int (9 : Int32)), .val (.ref (w 11)), .val (.int (0 : Int32))] [(.ref (w 11))])) (fun _ k => XS.aloadN X1.here hx rfl (hb hby at_52) rfl rfl k) ?_
  obtain ⟨cq2, kq2, q2a, q2b, q2c⟩ := isOf hZ e1 (pin_E11 P)
  obtain ⟨_, _, ⟨T2, L2, k2, n2⟩, -, X2, ⟨Lc2, hQ2, l2, y2, z2⟩, st2⟩ := X1.virtualBack hx (y := (⟨"com/example/punctual_proof/punctualproof/network/BinaryOperator", "isComparison", "()Z"⟩ : MethodName)) (z := (⟨"com/example/punctual_proof/punctualproof/network/BinaryOperator", "isComparison", "()Z"⟩ : MethodName)) hown (mvT hZ (hw _ (List.mem_of_getElem? (i := 8) rfl))) (mvT hZ (hw _ (List.mem_of_getElem? (i := 9) rfl))) (notFace_of_selects (args := #[]) (mvT hZ (hw _ (List.mem_of_getElem? (i := 11) rfl)))) (mvT hZ (hw _ (List.mem_of_getElem? (i := 11) rfl))) (mvT hZ (hw _ (List.mem_of_getElem? (i := 10) rfl))) (by decide) (backOf (W := 0) (rm2_w11 l Z a0 hw [] w h0 n0 Z0 P) hZ (hw _ (List.mem_of_getElem? (i := 12) rfl)) (hw _ (List.mem_of_getElem? (i := 6) rfl)) (by decide) (by decide)) q2a q2c (g := (mkF m 53 #[.val (.int p1), .val (.int (9 : Int32)), .val (.ref (w 11)), .val (.int (0 : Int32))] [(.ref (w 11))])) rfl (by rw [hml]; rfl) (Steps.refl _) (argsL := []) (rest := []) (lenOf pd_1 rfl) rfl (by show 2 * 0 + _ ≤ _; exact Nat.le_of_eq rfl) (hb hby at_53) (fun _ _ => ⟨rfl, e1, (by decide : 0 + 0 ≤ _), (by decide : 0 + 0 ≤ _)⟩)
  dsimp only [Pt.U, Pt.locs, Pt.cells, Pt.slots] at X2 l2 y2 z2 st2 hQ2
  subst l2 y2 z2
  obtain ⟨rfl, N2q, e2⟩ := hQ2
  have N2 := Fr.app N1 N2q
  refine own_step (W' := T2.setTop (mkF m 56 #[.val (.int p1), .val (.int (9 : Int32)), .val (.ref (w 11)), .val (.int (0 : Int32))] [(.int (0 : Int32))])) (fun _ k => st2.trans k) ?_
  refine own_step (W' := T2.setTop (mkF m 57 #[.val (.int p1), .val (.int (9 : Int32)), .val (.ref (w 11)), .val (.int (0 : Int32))] [(.int (0 : Int32)), (.int (0 : Int32))])) (fun _ k => XS.iloadN X2.here hx rfl (hb hby at_56) rfl k) ?_
  refine own_step (W' := T2.setTop (mkF m 60 #[.val (.int p1), .val (.int (9 : Int32)), .val (.ref (w 11)), .val (.int (0 : Int32))] [])) (fun _ k => XS.icmpNo X2.here hx rfl (hb hby at_57) rfl (by decide) k) ?_
  refine own_step (W' := T2.setTop (mkF m 61 #[.val (.int p1), .val (.int (9 : Int32)), .val (.ref (w 11)), .val (.int (0 : Int32))] [(.int (1 : Int32))])) (fun _ k => XS.iconst X2.here hx rfl (hb hby at_60) k) ?_
  refine own_step (W' := T2.setTop (mkF m 65 #[.val (.int p1), .val (.int (9 : Int32)), .val (.ref (w 11)), .val (.int (0 : Int32))] [(.int (1 : Int32))])) (fun _ k => XS.goto X2.here hx rfl (pc0 := 61) (pc' := 65) rfl (hb hby at_61) (by decide) (by decide) k) ?_
  exact own_ret X2 Bd.notSynchronized Bd.returns (v := (.int (1 : Int32))) (fun fs hr => retN X2 hx (t := .boolean) Bd.returns (by simp) (hb hby at_65) hr) ⟨rfl, N2⟩ (by decide) (by decide)
set_option maxRecDepth 65536 in
set_option maxHeartbeats 40000000 in
theorem rm1_10 (l : Launch) (Z : State) (a0 : Array Value) (hw : ∀ d ∈ tables_1, d.before a0 Z = true) (ws : List Jvm.Cond) (w : Nat → Addr) (h0 : Heap) (n0 : Nat) (Z0 : n0 ≤ h0.size) (P : Pins Z h0 w) :
    MetFree l (⟨"com/example/punctual_proof/punctualproof/network/BinaryOperatorIsComparisonPinLaw", "pick", "(I)Lcom/example/punctual_proof/punctualproof/network/BinaryOperator;"⟩ : MethodName) (head1 (Jvm.Cond.code (⟨"com/example/punctual_proof/punctualproof/network/BinaryOperatorIsComparisonPinLaw", "pick", "(I)Lcom/example/punctual_proof/punctualproof/network/BinaryOperator;"⟩ : MethodName) method_3_code 1 (some (.object "com/example/punctual_proof/punctualproof/network/BinaryOperator")) :: ws) ({ frames := 0, cells := 0, slots := 0, locals := 0 } : Room)) (fun a U => a = #[(.int (10 : Int32))] ∧ Z.Warmed39 U.vm ∧ U.heap = h0) (fun _ _ _ _ _ => True) (fun _ U o U' => ∃ v L, o = .returned v ∧ own_QK (some (.ref (w 8))) h0 n0 v U'.heap L ∧ FrameEnd U o U' L ({ frames := 0, cells := 0, slots := 0, locals := 0 } : Room).cells ({ frames := 0, cells := 0, slots := 0, locals := 0 } : Room).slots) := by
  refine MetFree.of_bodySF (plainFor_of_name pn_com_example_punctual_proof_punctualproof_network_BinaryOperatorIsComparisonPinLaw) hisR ?_
  intro p e s m args below meth c s₁ Bd hml0 hP hK
  obtain ⟨rfl, hZ, hh⟩ := hP
  have hx := Bd.exec
  have hby := Bd.bytes
  have hml : c.maxLocals = 1 := hml0
  have hown : s.vm.findClass "com/example/punctual_proof/punctualproof/network/BinaryOperatorIsComparisonPinLaw" = some m.cls := findClass_of_methodNamed Bd.named
  have hnm := (name_of_methodNamed Bd.named Bd.method).1
  have X0 : Stand p l e ({ frames := 0, cells := 0, slots := 0, locals := 0 } : Room) s m #[(.int (10 : Int32))] below meth c s₁ [] 0 0 := Stand.of_body Bd
  have e0 : s₁.heap = h0 := by rw [← hh, Bd.state]; rfl
  have N0 := Fr.nil n0
  refine own_enter (ef_1_I m (10 : Int32)) ?_
  refine own_step (W' := s₁.setTop (mkF m 1 #[.val (.int (10 : Int32))] [(.int (10 : Int32))])) (fun _ k => XS.iloadN X0.here hx rfl (hb hby d1_0) rfl k) ?_
  refine own_step (W' := s₁.setTop (mkF m 8 #[.val (.int (10 : Int32))] [])) (fun _ k => XS.ifYes X0.here hx rfl (pc0 := 1) (pc' := 8) rfl (hb hby d1_1) rfl (by decide) (by decide) (by decide) k) ?_
  refine own_step (W' := s₁.setTop (mkF m 9 #[.val (.int (10 : Int32))] [(.int (10 : Int32))])) (fun _ k => XS.iloadN X0.here hx rfl (hb hby d1_8) rfl k) ?_
  refine own_step (W' := s₁.setTop (mkF m 10 #[.val (.int (10 : Int32))] [(.int (1 : Int32)), (.int (10 : Int32))])) (fun _ k => XS.iconst X0.here hx rfl (hb hby d1_9) k) ?_
  refine own_step (W' := s₁.setTop (mkF m 17 #[.val (.int (10 : Int32))] [])) (fun _ k => XS.icmpYes X0.here hx rfl (pc0 := 10) (pc' := 17) rfl (hb hby d1_10) rfl (by decide) (by decide) (by decide) k) ?_
  refine own_step (W' := s₁.setTop (mkF m 18 #[.val (.int (10 : Int32))] [(.int (10 : Int32))])) (fun _ k => XS.iloadN X0.here hx rfl (hb hby d1_17) rfl k) ?_
  refine own_step (W' := s₁.setTop (mkF m 19 #[.val (.int (10 : Int32))] [(.int (2 : Int32)), (.int (10 : Int32))])) (fun _ k => XS.iconst X0.here hx rfl (hb hby d1_18) k) ?_
  refine own_step (W' := s₁.setTop (mkF m 26 #[.val (.int (10 : Int32))] [])) (fun _ k => XS.icmpYes X0.here hx rfl (pc0 := 19) (pc' := 26) rfl (hb hby d1_19) rfl (by decide) (by decide) (by decide) k) ?_
  refine own_step (W' := s₁.setTop (mkF m 27 #[.val (.int (10 : Int32))] [(.int (10 : Int32))])) (fun _ k => XS.iloadN X0.here hx rfl (hb hby d1_26) rfl k) ?_
  refine own_step (W' := s₁.setTop (mkF m 28 #[.val (.int (10 : Int32))] [(.int (3 : Int32)), (.int (10 : Int32))])) (fun _ k => XS.iconst X0.here hx rfl (hb hby d1_27) k) ?_
  refine own_step (W' := s₁.setTop (mkF m 35 #[.val (.int (10 : Int32))] [])) (fun _ k => XS.icmpYes X0.here hx rfl (pc0 := 28) (pc' := 35) rfl (hb hby d1_28) rfl (by decide) (by decide) (by decide) k) ?_
  refine own_step (W' := s₁.setTop (mkF m 36 #[.val (.int (10 : Int32))] [(.int (10 : Int32))])) (fun _ k => XS.iloadN X0.here hx rfl (hb hby d1_35) rfl k) ?_
  refine own_step (W' := s₁.setTop (mkF m 37 #[.val (.int (10 : Int32))] [(.int (4 : Int32)), (.int (10 : Int32))])) (fun _ k => XS.iconst X0.here hx rfl (hb hby d1_36) k) ?_
  refine own_step (W' := s₁.setTop (mkF m 44 #[.val (.int (10 : Int32))] [])) (fun _ k => XS.icmpYes X0.here hx rfl (pc0 := 37) (pc' := 44) rfl (hb hby d1_37) rfl (by decide) (by decide) (by decide) k) ?_
  refine own_step (W' := s₁.setTop (mkF m 45 #[.val (.int (10 : Int32))] [(.int (10 : Int32))])) (fun _ k => XS.iloadN X0.here hx rfl (hb hby d1_44) rfl k) ?_
  refine own_step (W' := s₁.setTop (mkF m 46 #[.val (.int (10 : Int32))] [(.int (5 : Int32)), (.int (10 : Int32))])) (fun _ k => XS.iconst X0.here hx rfl (hb hby d1_45) k) ?_
  refine own_step (W' := s₁.setTop (mkF m 53 #[.val (.int (10 : Int32))] [])) (fun _ k => XS.icmpYes X0.here hx rfl (pc0 := 46) (pc' := 53) rfl (hb hby d1_46) rfl (by decide) (by decide) (by decide) k) ?_
  refine own_step (W' := s₁.setTop (mkF m 54 #[.val (.int (10 : Int32))] [(.int (10 : Int32))])) (fun _ k => XS.iloadN X0.here hx rfl (hb hby d1_53) rfl k) ?_
  refine own_step (W' := s₁.setTop (mkF m 56 #[.val (.int (10 : Int32))] [(.int (6 : Int32)), (.int (10 : Int32))])) (fun _ k => XS.bipush X0.here hx rfl (hb hby d1_54) k) ?_
  refine own_step (W' := s₁.setTop (mkF m 63 #[.val (.int (10 : Int32))] [])) (fun _ k => XS.icmpYes X0.here hx rfl (pc0 := 56) (pc' := 63) rfl (hb hby d1_56) rfl (by decide) (by decide) (by decide) k) ?_
  refine own_step (W' := s₁.setTop (mkF m 64 #[.val (.int (10 : Int32))] [(.int (10 : Int32))])) (fun _ k => XS.iloadN X0.here hx rfl (hb hby d1_63) rfl k) ?_
  refine own_step (W' := s₁.setTop (mkF m 66 #[.val (.int (10 : Int32))] [(.int (7 : Int32)), (.int (10 : Int32))])) (fun _ k => XS.bipush X0.here hx rfl (hb hby d1_64) k) ?_
  refine own_step (W' := s₁.setTop (mkF m 73 #[.val (.int (10 : Int32))] [])) (fun _ k => XS.icmpYes X0.here hx rfl (pc0 := 66) (pc' := 73) rfl (hb hby d1_66) rfl (by decide) (by decide) (by decide) k) ?_
  refine own_step (W' := s₁.setTop (mkF m 74 #[.val (.int (10 : Int32))] [(.int (10 : Int32))])) (fun _ k => XS.iloadN X0.here hx rfl (hb hby d1_73) rfl k) ?_
  refine own_step (W' := s₁.setTop (mkF m 76 #[.val (.int (10 : Int32))] [(.int (8 : Int32)), (.int (10 : Int32))])) (fun _ k => XS.bipush X0.here hx rfl (hb hby d1_74) k) ?_
  refine own_step (W' := s₁.setTop (mkF m 83 #[.val (.int (10 : Int32))] [])) (fun _ k => XS.icmpYes X0.here hx rfl (pc0 := 76) (pc' := 83) rfl (hb hby d1_76) rfl (by decide) (by decide) (by decide) k) ?_
  refine own_step (W' := s₁.setTop (mkF m 84 #[.val (.int (10 : Int32))] [(.int (10 : Int32))])) (fun _ k => XS.iloadN X0.here hx rfl (hb hby d1_83) rfl k) ?_
  refine own_step (W' := s₁.setTop (mkF m 86 #[.val (.int (10 : Int32))] [(.int (9 : Int32)), (.int (10 : Int32))])) (fun _ k => XS.bipush X0.here hx rfl (hb hby d1_84) k) ?_
  refine own_step (W' := s₁.setTop (mkF m 93 #[.val (.int (10 : Int32))] [])) (fun _ k => XS.icmpYes X0.here hx rfl (pc0 := 86) (pc' := 93) rfl (hb hby d1_86) rfl (by decide) (by decide) (by decide) k) ?_
  refine own_step (W' := s₁.setTop (mkF m 94 #[.val (.int (10 : Int32))] [(.int (10 : Int32))])) (fun _ k => XS.iloadN X0.here hx rfl (hb hby d1_93) rfl k) ?_
  refine own_step (W' := s₁.setTop (mkF m 96 #[.val (.int (10 : Int32))] [(.int (10 : Int32)), (.int (10 : Int32))])) (fun _ k => XS.bipush X0.here hx rfl (hb hby d1_94) k) ?_
  refine own_step (W' := s₁.setTop (mkF m 99 #[.val (.int (10 : Int32))] [])) (fun _ k => XS.icmpNo X0.here hx rfl (hb hby d1_96) rfl (by decide) k) ?_
  obtain ⟨T1, X1, e1, st1⟩ := getS2 X0 hx hZ hown (host := "") (Or.inl (hw _ (List.mem_of_getElem? (i := 29) rfl))) Via.refl e0 (pin_S8 P) (g := (mkF m 99 #[.val (.int (10 : Int32))] [])) rfl (hb hby d1_99)
  refine own_step (W' := T1.setTop (mkF m 102 #[.val (.int (10 : Int32))] [(.ref (w 8))])) (fun _ k => st1 _ k) ?_
  exact own_ret X1 Bd.notSynchronized Bd.returns (v := (.ref (w 8))) (fun fs hr => retOut X1 hx Bd.returns rfl (Or.inr (Or.inr (Or.inr (Or.inr ⟨rfl, rfl, rfl⟩)))) (hb hby d1_102) hr) ⟨rfl, N0, e1⟩ (by decide) (by decide)
set_option maxRecDepth 65536 in
set_option maxHeartbeats 40000000 in
theorem rm2_w8 (l : Launch) (Z : State) (a0 : Array Value) (hw : ∀ d ∈ tables_1, d.before a0 Z = true) (ws : List Jvm.Cond) (w : Nat → Addr) (h0 : Heap) (n0 : Nat) (Z0 : n0 ≤ h0.size) (P : Pins Z h0 w) :
    MetFree l (⟨"com/example/punctual_proof/punctualproof/network/BinaryOperator", "isComparison", "()Z"⟩ : MethodName) (head1 (Jvm.Cond.code (⟨"com/example/punctual_proof/punctualproof/network/BinaryOperator", "isComparison", "()Z"⟩ : MethodName) prog_59_method_8_code 1 (some .boolean) :: ws) ({ frames := 0, cells := 0, slots := 0, locals := 0 } : Room)) (fun a U => a = #[(.ref (w 8))] ∧ Z.Warmed39 U.vm ∧ U.heap = h0) (fun _ _ _ _ _ => True) (fun _ U o U' => ∃ v L, o = .returned v ∧ own_QK (some (.int (0 : Int32))) h0 n0 v U'.heap L ∧ FrameEnd U o U' L ({ frames := 0, cells := 0, slots := 0, locals := 0 } : Room).cells ({ frames := 0, cells := 0, slots := 0, locals := 0 } : Room).slots) := by
  refine MetFree.of_bodySF (plainFor_of_name pn_com_example_punctual_proof_punctualproof_network_BinaryOperator) hisR ?_
  intro p e s m args below meth c s₁ Bd hml0 hP hK
  obtain ⟨rfl, hZ, hh⟩ := hP
  have hx := Bd.exec
  have hby := Bd.bytes
  have hml : c.maxLocals = 1 := hml0
  have hown : s.vm.findClass "com/example/punctual_proof/punctualproof/network/BinaryOperator" = some m.cls := findClass_of_methodNamed Bd.named
  have hnm := (name_of_methodNamed Bd.named Bd.method).1
  have X0 : Stand p l e ({ frames := 0, cells := 0, slots := 0, locals := 0 } : Room) s m #[(.ref (w 8))] below meth c s₁ [] 0 0 := Stand.of_body Bd
  have e0 : s₁.heap = h0 := by rw [← hh, Bd.state]; rfl
  have N0 := Fr.nil n0
  refine own_enter (ef_2_R m (w 8)) ?_
  refine own_step (W' := s₁.setTop (mkF m 1 #[.val (.ref (w 8))] [(.ref (w 8))])) (fun _ k => XS.aloadN X0.here hx rfl (hb hby d2_0) rfl rfl k) ?_
  obtain ⟨T1, X1, e1, st1⟩ := getF X0 hx hZ hown (host := "") (Or.inl (hw _ (List.mem_of_getElem? (i := 13) rfl))) Via.refl e0 (pin_F8_precedence P) (g := (mkF m 1 #[.val (.ref (w 8))] [(.ref (w 8))])) rfl rfl (hb hby d2_1)
  refine own_step (W' := T1.setTop (mkF m 4 #[.val (.ref (w 8))] [(.int (6 : Int32))])) (fun _ k => st1 _ k) ?_
  refine own_step (W' := T1.setTop (mkF m 5 #[.val (.ref (w 8))] [(.int (5 : Int32)), (.int (6 : Int32))])) (fun _ k => XS.iconst X1.here hx rfl (hb hby d2_4) k) ?_
  refine own_step (W' := T1.setTop (mkF m 12 #[.val (.ref (w 8))] [])) (fun _ k => XS.icmpYes X1.here hx rfl (pc0 := 5) (pc' := 12) rfl (hb hby d2_5) rfl (by decide) (by decide) (by decide) k) ?_
  refine own_step (W' := T1.setTop (mkF m 13 #[.val (.ref (w 8))] [(.int (0 : Int32))])) (fun _ k => XS.iconst X1.here hx rfl (hb hby d2_12) k) ?_
  exact own_ret X1 Bd.notSynchronized Bd.returns (v := (.int (0 : Int32))) (fun fs hr => retN X1 hx (t := .boolean) Bd.returns (by simp) (hb hby d2_13) hr) ⟨rfl, N0, e1⟩ (by decide) (by decide)
set_option maxRecDepth 65536 in
set_option maxHeartbeats 40000000 in
theorem rm0_10 (l : Launch) (Z : State) (a0 : Array Value) (hw : ∀ d ∈ tables_1, d.before a0 Z = true) (ws : List Jvm.Cond) (p1 : Int32) (hk : ((p1 &&& (2147483647 : Int32)) % (14 : Int32)) = (10 : Int32)) (w : Nat → Addr) (h0 : Heap) (n0 : Nat) (Z0 : n0 ≤ h0.size) (P : Pins Z h0 w) :
    MetFree l x (head1 (Jvm.Cond.code x code maxLocals ret :: ws) room_1) (fun a U => a = #[(.int p1)] ∧ Z.Warmed39 U.vm ∧ U.heap = h0) (fun _ _ _ _ _ => True) (fun _ U o U' => ∃ v L, o = .returned v ∧ own_Q0 n0 v U'.heap L ∧ FrameEnd U o U' L room_1.cells room_1.slots) := by
  refine MetFree.of_bodySF (plainFor_of_name pn_com_example_punctual_proof_punctualproof_network_BinaryOperatorIsComparisonPinLaw) hisR ?_
  intro p e s m args below meth c s₁ Bd hml0 hP hK
  obtain ⟨rfl, hZ, hh⟩ := hP
  have hx := Bd.exec
  have hby := Bd.bytes
  have hml : c.maxLocals = 4 := hml0
  have hown : s.vm.findClass "com/example/punctual_proof/punctualproof/network/BinaryOperatorIsComparisonPinLaw" = some m.cls := findClass_of_methodNamed Bd.named
  have hnm := (name_of_methodNamed Bd.named Bd.method).1
  have X0 : Stand p l e room_1 s m #[(.int p1)] below meth c s₁ [] 0 0 := Stand.of_body Bd
  have e0 : s₁.heap = h0 := by rw [← hh, Bd.state]; rfl
  have N0 := Fr.nil n0
  refine own_enter (ef_0_I m p1) ?_
  refine own_step (W' := s₁.setTop (mkF m 1 #[.val (.int p1), .unset, .unset, .unset] [(.int p1)])) (fun _ k => XS.iloadN X0.here hx rfl (hb hby at_0) rfl k) ?_
  refine own_step (W' := s₁.setTop (mkF m 3 #[.val (.int p1), .unset, .unset, .unset] [(.int (2147483647 : Int32)), (.int p1)])) (fun _ k => X0.ldcInt hx hown (mvT hZ (hw _ (List.mem_of_getElem? (i := 0) rfl))) (g := (mkF m 1 #[.val (.int p1), .unset, .unset, .unset] [(.int p1)])) rfl (hb hby at_1) _ k) ?_
  refine own_step (W' := s₁.setTop (mkF m 4 #[.val (.int p1), .unset, .unset, .unset] [(.int (p1 &&& (2147483647 : Int32)))])) (fun _ k => XS.iand X0.here hx rfl (hb hby at_3) rfl k) ?_
  refine own_step (W' := s₁.setTop (mkF m 6 #[.val (.int p1), .unset, .unset, .unset] [(.int (14 : Int32)), (.int (p1 &&& (2147483647 : Int32)))])) (fun _ k => XS.bipush X0.here hx rfl (hb hby at_4) k) ?_
  refine own_step (W' := s₁.setTop (mkF m 7 #[.val (.int p1), .unset, .unset, .unset] [(.int ((p1 &&& (2147483647 : Int32)) % (14 : Int32)))])) (fun _ k => iremM X0 hx rfl (hb hby at_6) rfl (by decide) k) ?_
  rw [hk]
  refine own_step (W' := s₁.setTop (mkF m 8 #[.val (.int p1), .val (.int (10 : Int32)), .unset, .unset] [])) (fun _ k => XS.istoreN X0.here hx rfl (hb hby at_7) rfl (l' := #[.val (.int p1), .val (.int (10 : Int32)), .unset, .unset]) rfl k) ?_
  refine own_step (W' := s₁.setTop (mkF m 9 #[.val (.int p1), .val (.int (10 : Int32)), .unset, .unset] [(.int (10 : Int32))])) (fun _ k => XS.iloadN X0.here hx rfl (hb hby at_8) rfl k) ?_
  obtain ⟨_, _, ⟨T1, L1, k1, n1⟩, -, X1, ⟨Lc1, hQ1, l1, y1, z1⟩, st1⟩ := Jvm.LawKit.callS X0 hx (y := (⟨"com/example/punctual_proof/punctualproof/network/BinaryOperatorIsComparisonPinLaw", "pick", "(I)Lcom/example/punctual_proof/punctualproof/network/BinaryOperator;"⟩ : MethodName)) hown (mvT hZ (hw _ (List.mem_of_getElem? (i := 1) rfl))) (mvT hZ (hw _ (List.mem_of_getElem? (i := 2) rfl))) (mvT hZ (hw _ (List.mem_of_getElem? (i := 3) rfl))) (mvT hZ (hw _ (List.mem_of_getElem? (i := 4) rfl))) (by decide) (backOf (W := 0) (rm1_10 l Z a0 hw [] w h0 n0 Z0 P) hZ (hw _ (List.mem_of_getElem? (i := 4) rfl)) (hw _ (List.mem_of_getElem? (i := 3) rfl)) (by decide) (by decide)) (g := (mkF m 9 #[.val (.int p1), .val (.int (10 : Int32)), .unset, .unset] [(.int (10 : Int32))])) rfl (by rw [hml]; rfl) (argsL := [(.int (10 : Int32))]) (rest := []) (lenOf pd_0 rfl) rfl (by show 2 * 0 + _ ≤ _; exact Nat.le_of_eq rfl) (hb hby at_9) (fun _ _ => ⟨rfl, e0, (by decide : 0 + 0 ≤ _), (by decide : 0 + 0 ≤ _)⟩)
  dsimp only [Pt.U, Pt.locs, Pt.cells, Pt.slots] at X1 l1 y1 z1 st1 hQ1
  subst l1 y1 z1
  obtain ⟨rfl, N1q, e1⟩ := hQ1
  have N1 := Fr.app N0 N1q
  refine own_step (W' := T1.setTop (mkF m 12 #[.val (.int p1), .val (.int (10 : Int32)), .unset, .unset] [(.ref (w 8))])) (fun _ k => st1 _ k) ?_
  refine own_step (W' := T1.setTop (mkF m 13 #[.val (.int p1), .val (.int (10 : Int32)), .val (.ref (w 8)), .unset] [])) (fun _ k => XS.astoreN X1.here hx rfl (hb hby at_12) rfl rfl (l' := #[.val (.int p1), .val (.int (10 : Int32)), .val (.ref (w 8)), .unset]) rfl k) ?_
  refine own_step (W' := T1.setTop (mkF m 14 #[.val (.int p1), .val (.int (10 : Int32)), .val (.ref (w 8)), .unset] [(.int (10 : Int32))])) (fun _ k => XS.iloadN X1.here hx rfl (hb hby at_13) rfl k) ?_
  refine own_step (W' := T1.setTop (mkF m 15 #[.val (.int p1), .val (.int (10 : Int32)), .val (.ref (w 8)), .unset] [(.int (3 : Int32)), (.int (10 : Int32))])) (fun _ k => XS.iconst X1.here hx rfl (hb hby at_14) k) ?_
  refine own_step (W' := T1.setTop (mkF m 18 #[.val (.int p1), .val (.int (10 : Int32)), .val (.ref (w 8)), .unset] [])) (fun _ k => XS.icmpNo X1.here hx rfl (hb hby at_15) rfl (by decide) k) ?_
  refine own_step (W' := T1.setTop (mkF m 19 #[.val (.int p1), .val (.int (10 : Int32)), .val (.ref (w 8)), .unset] [(.int (10 : Int32))])) (fun _ k => XS.iloadN X1.here hx rfl (hb hby at_18) rfl k) ?_
  refine own_step (W' := T1.setTop (mkF m 20 #[.val (.int p1), .val (.int (10 : Int32)), .val (.ref (w 8)), .unset] [(.int (4 : Int32)), (.int (10 : Int32))])) (fun _ k => XS.iconst X1.here hx rfl (hb hby at_19) k) ?_
  refine own_step (W' := T1.setTop (mkF m 23 #[.val (.int p1), .val (.int (10 : Int32)), .val (.ref (w 8)), .unset] [])) (fun _ k => XS.icmpNo X1.here hx rfl (hb hby at_20) rfl (by decide) k) ?_
  refine own_step (W' := T1.setTop (mkF m 24 #[.val (.int p1), .val (.int (10 : Int32)), .val (.ref (w 8)), .unset] [(.int (10 : Int32))])) (fun _ k => XS.iloadN X1.here hx rfl (hb hby at_23) rfl k) ?_
  refine own_step (W' := T1.setTop (mkF m 25 #[.val (.int p1), .val (.int (10 : Int32)), .val (.ref (w 8)), .unset] [(.int (5 : Int32)), (.int (10 : Int32))])) (fun _ k => XS.iconst X1.here hx rfl (hb hby at_24) k) ?_
  refine own_step (W' := T1.setTop (mkF m 28 #[.val (.int p1), .val (.int (10 : Int32)), .val (.ref (w 8)), .unset] [])) (fun _ k => XS.icmpNo X1.here hx rfl (hb hby at_25) rfl (by decide) k) ?_
  refine own_step (W' := T1.setTop (mkF m 29 #[.val (.int p1), .val (.int (10 : Int32)), .val (.ref (w 8)), .unset] [(.int (10 : Int32))])) (fun _ k => XS.iloadN X1.here hx rfl (hb hby at_28) rfl k) ?_
  refine own_step (W' := T1.setTop (mkF m 31 #[.val (.int p1), .val (.int (10 : Int32)), .val (.ref (w 8)), .unset] [(.int (6 : Int32)), (.int (10 : Int32))])) (fun _ k => XS.bipush X1.here hx rfl (hb hby at_29) k) ?_
  refine own_step (W' := T1.setTop (mkF m 34 #[.val (.int p1), .val (.int (10 : Int32)), .val (.ref (w 8)), .unset] [])) (fun _ k => XS.icmpNo X1.here hx rfl (hb hby at_31) rfl (by decide) k) ?_
  refine own_step (W' := T1.setTop (mkF m 35 #[.val (.int p1), .val (.int (10 : Int32)), .val (.ref (w 8)), .unset] [(.int (10 : Int32))])) (fun _ k => XS.iloadN X1.here hx rfl (hb hby at_34) rfl k) ?_
  refine own_step (W' := T1.setTop (mkF m 37 #[.val (.int p1), .val (.int (10 : Int32)), .val (.ref (w 8)), .unset] [(.int (7 : Int32)), (.int (10 : Int32))])) (fun _ k => XS.bipush X1.here hx rfl (hb hby at_35) k) ?_
  refine own_step (W' := T1.setTop (mkF m 40 #[.val (.int p1), .val (.int (10 : Int32)), .val (.ref (w 8)), .unset] [])) (fun _ k => XS.icmpNo X1.here hx rfl (hb hby at_37) rfl (by decide) k) ?_
  refine own_step (W' := T1.setTop (mkF m 41 #[.val (.int p1), .val (.int (10 : Int32)), .val (.ref (w 8)), .unset] [(.int (10 : Int32))])) (fun _ k => XS.iloadN X1.here hx rfl (hb hby at_40) rfl k) ?_
  refine own_step (W' := T1.setTop (mkF m 43 #[.val (.int p1), .val (.int (10 : Int32)), .val (.ref (w 8)), .unset] [(.int (8 : Int32)), (.int (10 : Int32))])) (fun _ k => XS.bipush X1.here hx rfl (hb hby at_41) k) ?_
  refine own_step (W' := T1.setTop (mkF m 50 #[.val (.int p1), .val (.int (10 : Int32)), .val (.ref (w 8)), .unset] [])) (fun _ k => XS.icmpYes X1.here hx rfl (pc0 := 43) (pc' := 50) rfl (hb hby at_43) rfl (by decide) (by decide) (by decide) k) ?_
  refine own_step (W' := T1.setTop (mkF m 51 #[.val (.int p1), .val (.int (10 : Int32)), .val (.ref (w 8)), .unset] [(.int (0 : Int32))])) (fun _ k => XS.iconst X1.here hx rfl (hb hby at_50) k) ?_
  refine own_step (W' := T1.setTop (mkF m 52 #[.val (.int p1), .val (.int (10 : Int32)), .val (.ref (w 8)), .val (.int (0 : Int32))] [])) (fun _ k => XS.istoreN X1.here hx rfl (hb hby at_51) rfl (l' := #[.val (.int p1), .val (.int (10 : Int32)), .val (.ref (w 8)), .val (.int (0 : Int32))]) rfl k) ?_
  refine own_step (W' := T1.setTop (mkF m 53 #[.val (.int p1), .val (.int (10 : Int32)), .val (.ref (w 8)), .val (.int (0 : Int32))] [(.ref (w 8))])) (fun _ k => XS.aloadN X1.here hx rfl (hb hby at_52) rfl rfl k) ?_
  obtain ⟨cq2, kq2, q2a, q2b, q2c⟩ := isOf hZ e1 (pin_E8 P)
  obtain ⟨_, _, ⟨T2, L2, k2, n2⟩, -, X2, ⟨Lc2, hQ2, l2, y2, z2⟩, st2⟩ := X1.virtualBack hx (y := (⟨"com/example/punctual_proof/punctualproof/network/BinaryOperator", "isComparison", "()Z"⟩ : MethodName)) (z := (⟨"com/example/punctual_proof/punctualproof/network/BinaryOperator", "isComparison", "()Z"⟩ : MethodName)) hown (mvT hZ (hw _ (List.mem_of_getElem? (i := 8) rfl))) (mvT hZ (hw _ (List.mem_of_getElem? (i := 9) rfl))) (notFace_of_selects (args := #[]) (mvT hZ (hw _ (List.mem_of_getElem? (i := 11) rfl)))) (mvT hZ (hw _ (List.mem_of_getElem? (i := 11) rfl))) (mvT hZ (hw _ (List.mem_of_getElem? (i := 10) rfl))) (by decide) (backOf (W := 0) (rm2_w8 l Z a0 hw [] w h0 n0 Z0 P) hZ (hw _ (List.mem_of_getElem? (i := 12) rfl)) (hw _ (List.mem_of_getElem? (i := 6) rfl)) (by decide) (by decide)) q2a q2c (g := (mkF m 53 #[.val (.int p1), .val (.int (10 : Int32)), .val (.ref (w 8)), .val (.int (0 : Int32))] [(.ref (w 8))])) rfl (by rw [hml]; rfl) (Steps.refl _) (argsL := []) (rest := []) (lenOf pd_1 rfl) rfl (by show 2 * 0 + _ ≤ _; exact Nat.le_of_eq rfl) (hb hby at_53) (fun _ _ => ⟨rfl, e1, (by decide : 0 + 0 ≤ _), (by decide : 0 + 0 ≤ _)⟩)
  dsimp only [Pt.U, Pt.locs, Pt.cells, Pt.slots] at X2 l2 y2 z2 st2 hQ2
  subst l2 y2 z2
  obtain ⟨rfl, N2q, e2⟩ := hQ2
  have N2 := Fr.app N1 N2q
  refine own_step (W' := T2.setTop (mkF m 56 #[.val (.int p1), .val (.int (10 : Int32)), .val (.ref (w 8)), .val (.int (0 : Int32))] [(.int (0 : Int32))])) (fun _ k => st2.trans k) ?_
  refine own_step (W' := T2.setTop (mkF m 57 #[.val (.int p1), .val (.int (10 : Int32)), .val (.ref (w 8)), .val (.int (0 : Int32))] [(.int (0 : Int32)), (.int (0 : Int32))])) (fun _ k => XS.iloadN X2.here hx rfl (hb hby at_56) rfl k) ?_
  refine own_step (W' := T2.setTop (mkF m 60 #[.val (.int p1), .val (.int (10 : Int32)), .val (.ref (w 8)), .val (.int (0 : Int32))] [])) (fun _ k => XS.icmpNo X2.here hx rfl (hb hby at_57) rfl (by decide) k) ?_
  refine own_step (W' := T2.setTop (mkF m 61 #[.val (.int p1), .val (.int (10 : Int32)), .val (.ref (w 8)), .val (.int (0 : Int32))] [(.int (1 : Int32))])) (fun _ k => XS.iconst X2.here hx rfl (hb hby at_60) k) ?_
  refine own_step (W' := T2.setTop (mkF m 65 #[.val (.int p1), .val (.int (10 : Int32)), .val (.ref (w 8)), .val (.int (0 : Int32))] [(.int (1 : Int32))])) (fun _ k => XS.goto X2.here hx rfl (pc0 := 61) (pc' := 65) rfl (hb hby at_61) (by decide) (by decide) k) ?_
  exact own_ret X2 Bd.notSynchronized Bd.returns (v := (.int (1 : Int32))) (fun fs hr => retN X2 hx (t := .boolean) Bd.returns (by simp) (hb hby at_65) hr) ⟨rfl, N2⟩ (by decide) (by decide)
set_option maxRecDepth 65536 in
set_option maxHeartbeats 40000000 in
theorem rm1_11 (l : Launch) (Z : State) (a0 : Array Value) (hw : ∀ d ∈ tables_1, d.before a0 Z = true) (ws : List Jvm.Cond) (w : Nat → Addr) (h0 : Heap) (n0 : Nat) (Z0 : n0 ≤ h0.size) (P : Pins Z h0 w) :
    MetFree l (⟨"com/example/punctual_proof/punctualproof/network/BinaryOperatorIsComparisonPinLaw", "pick", "(I)Lcom/example/punctual_proof/punctualproof/network/BinaryOperator;"⟩ : MethodName) (head1 (Jvm.Cond.code (⟨"com/example/punctual_proof/punctualproof/network/BinaryOperatorIsComparisonPinLaw", "pick", "(I)Lcom/example/punctual_proof/punctualproof/network/BinaryOperator;"⟩ : MethodName) method_3_code 1 (some (.object "com/example/punctual_proof/punctualproof/network/BinaryOperator")) :: ws) ({ frames := 0, cells := 0, slots := 0, locals := 0 } : Room)) (fun a U => a = #[(.int (11 : Int32))] ∧ Z.Warmed39 U.vm ∧ U.heap = h0) (fun _ _ _ _ _ => True) (fun _ U o U' => ∃ v L, o = .returned v ∧ own_QK (some (.ref (w 7))) h0 n0 v U'.heap L ∧ FrameEnd U o U' L ({ frames := 0, cells := 0, slots := 0, locals := 0 } : Room).cells ({ frames := 0, cells := 0, slots := 0, locals := 0 } : Room).slots) := by
  refine MetFree.of_bodySF (plainFor_of_name pn_com_example_punctual_proof_punctualproof_network_BinaryOperatorIsComparisonPinLaw) hisR ?_
  intro p e s m args below meth c s₁ Bd hml0 hP hK
  obtain ⟨rfl, hZ, hh⟩ := hP
  have hx := Bd.exec
  have hby := Bd.bytes
  have hml : c.maxLocals = 1 := hml0
  have hown : s.vm.findClass "com/example/punctual_proof/punctualproof/network/BinaryOperatorIsComparisonPinLaw" = some m.cls := findClass_of_methodNamed Bd.named
  have hnm := (name_of_methodNamed Bd.named Bd.method).1
  have X0 : Stand p l e ({ frames := 0, cells := 0, slots := 0, locals := 0 } : Room) s m #[(.int (11 : Int32))] below meth c s₁ [] 0 0 := Stand.of_body Bd
  have e0 : s₁.heap = h0 := by rw [← hh, Bd.state]; rfl
  have N0 := Fr.nil n0
  refine own_enter (ef_1_I m (11 : Int32)) ?_
  refine own_step (W' := s₁.setTop (mkF m 1 #[.val (.int (11 : Int32))] [(.int (11 : Int32))])) (fun _ k => XS.iloadN X0.here hx rfl (hb hby d1_0) rfl k) ?_
  refine own_step (W' := s₁.setTop (mkF m 8 #[.val (.int (11 : Int32))] [])) (fun _ k => XS.ifYes X0.here hx rfl (pc0 := 1) (pc' := 8) rfl (hb hby d1_1) rfl (by decide) (by decide) (by decide) k) ?_
  refine own_step (W' := s₁.setTop (mkF m 9 #[.val (.int (11 : Int32))] [(.int (11 : Int32))])) (fun _ k => XS.iloadN X0.here hx rfl (hb hby d1_8) rfl k) ?_
  refine own_step (W' := s₁.setTop (mkF m 10 #[.val (.int (11 : Int32))] [(.int (1 : Int32)), (.int (11 : Int32))])) (fun _ k => XS.iconst X0.here hx rfl (hb hby d1_9) k) ?_
  refine own_step (W' := s₁.setTop (mkF m 17 #[.val (.int (11 : Int32))] [])) (fun _ k => XS.icmpYes X0.here hx rfl (pc0 := 10) (pc' := 17) rfl (hb hby d1_10) rfl (by decide) (by decide) (by decide) k) ?_
  refine own_step (W' := s₁.setTop (mkF m 18 #[.val (.int (11 : Int32))] [(.int (11 : Int32))])) (fun _ k => XS.iloadN X0.here hx rfl (hb hby d1_17) rfl k) ?_
  refine own_step (W' := s₁.setTop (mkF m 19 #[.val (.int (11 : Int32))] [(.int (2 : Int32)), (.int (11 : Int32))])) (fun _ k => XS.iconst X0.here hx rfl (hb hby d1_18) k) ?_
  refine own_step (W' := s₁.setTop (mkF m 26 #[.val (.int (11 : Int32))] [])) (fun _ k => XS.icmpYes X0.here hx rfl (pc0 := 19) (pc' := 26) rfl (hb hby d1_19) rfl (by decide) (by decide) (by decide) k) ?_
  refine own_step (W' := s₁.setTop (mkF m 27 #[.val (.int (11 : Int32))] [(.int (11 : Int32))])) (fun _ k => XS.iloadN X0.here hx rfl (hb hby d1_26) rfl k) ?_
  refine own_step (W' := s₁.setTop (mkF m 28 #[.val (.int (11 : Int32))] [(.int (3 : Int32)), (.int (11 : Int32))])) (fun _ k => XS.iconst X0.here hx rfl (hb hby d1_27) k) ?_
  refine own_step (W' := s₁.setTop (mkF m 35 #[.val (.int (11 : Int32))] [])) (fun _ k => XS.icmpYes X0.here hx rfl (pc0 := 28) (pc' := 35) rfl (hb hby d1_28) rfl (by decide) (by decide) (by decide) k) ?_
  refine own_step (W' := s₁.setTop (mkF m 36 #[.val (.int (11 : Int32))] [(.int (11 : Int32))])) (fun _ k => XS.iloadN X0.here hx rfl (hb hby d1_35) rfl k) ?_
  refine own_step (W' := s₁.setTop (mkF m 37 #[.val (.int (11 : Int32))] [(.int (4 : Int32)), (.int (11 : Int32))])) (fun _ k => XS.iconst X0.here hx rfl (hb hby d1_36) k) ?_
  refine own_step (W' := s₁.setTop (mkF m 44 #[.val (.int (11 : Int32))] [])) (fun _ k => XS.icmpYes X0.here hx rfl (pc0 := 37) (pc' := 44) rfl (hb hby d1_37) rfl (by decide) (by decide) (by decide) k) ?_
  refine own_step (W' := s₁.setTop (mkF m 45 #[.val (.int (11 : Int32))] [(.int (11 : Int32))])) (fun _ k => XS.iloadN X0.here hx rfl (hb hby d1_44) rfl k) ?_
  refine own_step (W' := s₁.setTop (mkF m 46 #[.val (.int (11 : Int32))] [(.int (5 : Int32)), (.int (11 : Int32))])) (fun _ k => XS.iconst X0.here hx rfl (hb hby d1_45) k) ?_
  refine own_step (W' := s₁.setTop (mkF m 53 #[.val (.int (11 : Int32))] [])) (fun _ k => XS.icmpYes X0.here hx rfl (pc0 := 46) (pc' := 53) rfl (hb hby d1_46) rfl (by decide) (by decide) (by decide) k) ?_
  refine own_step (W' := s₁.setTop (mkF m 54 #[.val (.int (11 : Int32))] [(.int (11 : Int32))])) (fun _ k => XS.iloadN X0.here hx rfl (hb hby d1_53) rfl k) ?_
  refine own_step (W' := s₁.setTop (mkF m 56 #[.val (.int (11 : Int32))] [(.int (6 : Int32)), (.int (11 : Int32))])) (fun _ k => XS.bipush X0.here hx rfl (hb hby d1_54) k) ?_
  refine own_step (W' := s₁.setTop (mkF m 63 #[.val (.int (11 : Int32))] [])) (fun _ k => XS.icmpYes X0.here hx rfl (pc0 := 56) (pc' := 63) rfl (hb hby d1_56) rfl (by decide) (by decide) (by decide) k) ?_
  refine own_step (W' := s₁.setTop (mkF m 64 #[.val (.int (11 : Int32))] [(.int (11 : Int32))])) (fun _ k => XS.iloadN X0.here hx rfl (hb hby d1_63) rfl k) ?_
  refine own_step (W' := s₁.setTop (mkF m 66 #[.val (.int (11 : Int32))] [(.int (7 : Int32)), (.int (11 : Int32))])) (fun _ k => XS.bipush X0.here hx rfl (hb hby d1_64) k) ?_
  refine own_step (W' := s₁.setTop (mkF m 73 #[.val (.int (11 : Int32))] [])) (fun _ k => XS.icmpYes X0.here hx rfl (pc0 := 66) (pc' := 73) rfl (hb hby d1_66) rfl (by decide) (by decide) (by decide) k) ?_
  refine own_step (W' := s₁.setTop (mkF m 74 #[.val (.int (11 : Int32))] [(.int (11 : Int32))])) (fun _ k => XS.iloadN X0.here hx rfl (hb hby d1_73) rfl k) ?_
  refine own_step (W' := s₁.setTop (mkF m 76 #[.val (.int (11 : Int32))] [(.int (8 : Int32)), (.int (11 : Int32))])) (fun _ k => XS.bipush X0.here hx rfl (hb hby d1_74) k) ?_
  refine own_step (W' := s₁.setTop (mkF m 83 #[.val (.int (11 : Int32))] [])) (fun _ k => XS.icmpYes X0.here hx rfl (pc0 := 76) (pc' := 83) rfl (hb hby d1_76) rfl (by decide) (by decide) (by decide) k) ?_
  refine own_step (W' := s₁.setTop (mkF m 84 #[.val (.int (11 : Int32))] [(.int (11 : Int32))])) (fun _ k => XS.iloadN X0.here hx rfl (hb hby d1_83) rfl k) ?_
  refine own_step (W' := s₁.setTop (mkF m 86 #[.val (.int (11 : Int32))] [(.int (9 : Int32)), (.int (11 : Int32))])) (fun _ k => XS.bipush X0.here hx rfl (hb hby d1_84) k) ?_
  refine own_step (W' := s₁.setTop (mkF m 93 #[.val (.int (11 : Int32))] [])) (fun _ k => XS.icmpYes X0.here hx rfl (pc0 := 86) (pc' := 93) rfl (hb hby d1_86) rfl (by decide) (by decide) (by decide) k) ?_
  refine own_step (W' := s₁.setTop (mkF m 94 #[.val (.int (11 : Int32))] [(.int (11 : Int32))])) (fun _ k => XS.iloadN X0.here hx rfl (hb hby d1_93) rfl k) ?_
  refine own_step (W' := s₁.setTop (mkF m 96 #[.val (.int (11 : Int32))] [(.int (10 : Int32)), (.int (11 : Int32))])) (fun _ k => XS.bipush X0.here hx rfl (hb hby d1_94) k) ?_
  refine own_step (W' := s₁.setTop (mkF m 103 #[.val (.int (11 : Int32))] [])) (fun _ k => XS.icmpYes X0.here hx rfl (pc0 := 96) (pc' := 103) rfl (hb hby d1_96) rfl (by decide) (by decide) (by decide) k) ?_
  refine own_step (W' := s₁.setTop (mkF m 104 #[.val (.int (11 : Int32))] [(.int (11 : Int32))])) (fun _ k => XS.iloadN X0.here hx rfl (hb hby d1_103) rfl k) ?_
  refine own_step (W' := s₁.setTop (mkF m 106 #[.val (.int (11 : Int32))] [(.int (11 : Int32)), (.int (11 : Int32))])) (fun _ k => XS.bipush X0.here hx rfl (hb hby d1_104) k) ?_
  refine own_step (W' := s₁.setTop (mkF m 109 #[.val (.int (11 : Int32))] [])) (fun _ k => XS.icmpNo X0.here hx rfl (hb hby d1_106) rfl (by decide) k) ?_
  obtain ⟨T1, X1, e1, st1⟩ := getS2 X0 hx hZ hown (host := "") (Or.inl (hw _ (List.mem_of_getElem? (i := 27) rfl))) Via.refl e0 (pin_S7 P) (g := (mkF m 109 #[.val (.int (11 : Int32))] [])) rfl (hb hby d1_109)
  refine own_step (W' := T1.setTop (mkF m 112 #[.val (.int (11 : Int32))] [(.ref (w 7))])) (fun _ k => st1 _ k) ?_
  exact own_ret X1 Bd.notSynchronized Bd.returns (v := (.ref (w 7))) (fun fs hr => retOut X1 hx Bd.returns rfl (Or.inr (Or.inr (Or.inr (Or.inr ⟨rfl, rfl, rfl⟩)))) (hb hby d1_112) hr) ⟨rfl, N0, e1⟩ (by decide) (by decide)
set_option maxRecDepth 65536 in
set_option maxHeartbeats 40000000 in
theorem rm2_w7 (l : Launch) (Z : State) (a0 : Array Value) (hw : ∀ d ∈ tables_1, d.before a0 Z = true) (ws : List Jvm.Cond) (w : Nat → Addr) (h0 : Heap) (n0 : Nat) (Z0 : n0 ≤ h0.size) (P : Pins Z h0 w) :
    MetFree l (⟨"com/example/punctual_proof/punctualproof/network/BinaryOperator", "isComparison", "()Z"⟩ : MethodName) (head1 (Jvm.Cond.code (⟨"com/example/punctual_proof/punctualproof/network/BinaryOperator", "isComparison", "()Z"⟩ : MethodName) prog_59_method_8_code 1 (some .boolean) :: ws) ({ frames := 0, cells := 0, slots := 0, locals := 0 } : Room)) (fun a U => a = #[(.ref (w 7))] ∧ Z.Warmed39 U.vm ∧ U.heap = h0) (fun _ _ _ _ _ => True) (fun _ U o U' => ∃ v L, o = .returned v ∧ own_QK (some (.int (0 : Int32))) h0 n0 v U'.heap L ∧ FrameEnd U o U' L ({ frames := 0, cells := 0, slots := 0, locals := 0 } : Room).cells ({ frames := 0, cells := 0, slots := 0, locals := 0 } : Room).slots) := by
  refine MetFree.of_bodySF (plainFor_of_name pn_com_example_punctual_proof_punctualproof_network_BinaryOperator) hisR ?_
  intro p e s m args below meth c s₁ Bd hml0 hP hK
  obtain ⟨rfl, hZ, hh⟩ := hP
  have hx := Bd.exec
  have hby := Bd.bytes
  have hml : c.maxLocals = 1 := hml0
  have hown : s.vm.findClass "com/example/punctual_proof/punctualproof/network/BinaryOperator" = some m.cls := findClass_of_methodNamed Bd.named
  have hnm := (name_of_methodNamed Bd.named Bd.method).1
  have X0 : Stand p l e ({ frames := 0, cells := 0, slots := 0, locals := 0 } : Room) s m #[(.ref (w 7))] below meth c s₁ [] 0 0 := Stand.of_body Bd
  have e0 : s₁.heap = h0 := by rw [← hh, Bd.state]; rfl
  have N0 := Fr.nil n0
  refine own_enter (ef_2_R m (w 7)) ?_
  refine own_step (W' := s₁.setTop (mkF m 1 #[.val (.ref (w 7))] [(.ref (w 7))])) (fun _ k => XS.aloadN X0.here hx rfl (hb hby d2_0) rfl rfl k) ?_
  obtain ⟨T1, X1, e1, st1⟩ := getF X0 hx hZ hown (host := "") (Or.inl (hw _ (List.mem_of_getElem? (i := 13) rfl))) Via.refl e0 (pin_F7_precedence P) (g := (mkF m 1 #[.val (.ref (w 7))] [(.ref (w 7))])) rfl rfl (hb hby d2_1)
  refine own_step (W' := T1.setTop (mkF m 4 #[.val (.ref (w 7))] [(.int (7 : Int32))])) (fun _ k => st1 _ k) ?_
  refine own_step (W' := T1.setTop (mkF m 5 #[.val (.ref (w 7))] [(.int (5 : Int32)), (.int (7 : Int32))])) (fun _ k => XS.iconst X1.here hx rfl (hb hby d2_4) k) ?_
  refine own_step (W' := T1.setTop (mkF m 12 #[.val (.ref (w 7))] [])) (fun _ k => XS.icmpYes X1.here hx rfl (pc0 := 5) (pc' := 12) rfl (hb hby d2_5) rfl (by decide) (by decide) (by decide) k) ?_
  refine own_step (W' := T1.setTop (mkF m 13 #[.val (.ref (w 7))] [(.int (0 : Int32))])) (fun _ k => XS.iconst X1.here hx rfl (hb hby d2_12) k) ?_
  exact own_ret X1 Bd.notSynchronized Bd.returns (v := (.int (0 : Int32))) (fun fs hr => retN X1 hx (t := .boolean) Bd.returns (by simp) (hb hby d2_13) hr) ⟨rfl, N0, e1⟩ (by decide) (by decide)
set_option maxRecDepth 65536 in
set_option maxHeartbeats 40000000 in
theorem rm0_11 (l : Launch) (Z : State) (a0 : Array Value) (hw : ∀ d ∈ tables_1, d.before a0 Z = true) (ws : List Jvm.Cond) (p1 : Int32) (hk : ((p1 &&& (2147483647 : Int32)) % (14 : Int32)) = (11 : Int32)) (w : Nat → Addr) (h0 : Heap) (n0 : Nat) (Z0 : n0 ≤ h0.size) (P : Pins Z h0 w) :
    MetFree l x (head1 (Jvm.Cond.code x code maxLocals ret :: ws) room_1) (fun a U => a = #[(.int p1)] ∧ Z.Warmed39 U.vm ∧ U.heap = h0) (fun _ _ _ _ _ => True) (fun _ U o U' => ∃ v L, o = .returned v ∧ own_Q0 n0 v U'.heap L ∧ FrameEnd U o U' L room_1.cells room_1.slots) := by
  refine MetFree.of_bodySF (plainFor_of_name pn_com_example_punctual_proof_punctualproof_network_BinaryOperatorIsComparisonPinLaw) hisR ?_
  intro p e s m args below meth c s₁ Bd hml0 hP hK
  obtain ⟨rfl, hZ, hh⟩ := hP
  have hx := Bd.exec
  have hby := Bd.bytes
  have hml : c.maxLocals = 4 := hml0
  have hown : s.vm.findClass "com/example/punctual_proof/punctualproof/network/BinaryOperatorIsComparisonPinLaw" = some m.cls := findClass_of_methodNamed Bd.named
  have hnm := (name_of_methodNamed Bd.named Bd.method).1
  have X0 : Stand p l e room_1 s m #[(.int p1)] below meth c s₁ [] 0 0 := Stand.of_body Bd
  have e0 : s₁.heap = h0 := by rw [← hh, Bd.state]; rfl
  have N0 := Fr.nil n0
  refine own_enter (ef_0_I m p1) ?_
  refine own_step (W' := s₁.setTop (mkF m 1 #[.val (.int p1), .unset, .unset, .unset] [(.int p1)])) (fun _ k => XS.iloadN X0.here hx rfl (hb hby at_0) rfl k) ?_
  refine own_step (W' := s₁.setTop (mkF m 3 #[.val (.int p1), .unset, .unset, .unset] [(.int (2147483647 : Int32)), (.int p1)])) (fun _ k => X0.ldcInt hx hown (mvT hZ (hw _ (List.mem_of_getElem? (i := 0) rfl))) (g := (mkF m 1 #[.val (.int p1), .unset, .unset, .unset] [(.int p1)])) rfl (hb hby at_1) _ k) ?_
  refine own_step (W' := s₁.setTop (mkF m 4 #[.val (.int p1), .unset, .unset, .unset] [(.int (p1 &&& (2147483647 : Int32)))])) (fun _ k => XS.iand X0.here hx rfl (hb hby at_3) rfl k) ?_
  refine own_step (W' := s₁.setTop (mkF m 6 #[.val (.int p1), .unset, .unset, .unset] [(.int (14 : Int32)), (.int (p1 &&& (2147483647 : Int32)))])) (fun _ k => XS.bipush X0.here hx rfl (hb hby at_4) k) ?_
  refine own_step (W' := s₁.setTop (mkF m 7 #[.val (.int p1), .unset, .unset, .unset] [(.int ((p1 &&& (2147483647 : Int32)) % (14 : Int32)))])) (fun _ k => iremM X0 hx rfl (hb hby at_6) rfl (by decide) k) ?_
  rw [hk]
  refine own_step (W' := s₁.setTop (mkF m 8 #[.val (.int p1), .val (.int (11 : Int32)), .unset, .unset] [])) (fun _ k => XS.istoreN X0.here hx rfl (hb hby at_7) rfl (l' := #[.val (.int p1), .val (.int (11 : Int32)), .unset, .unset]) rfl k) ?_
  refine own_step (W' := s₁.setTop (mkF m 9 #[.val (.int p1), .val (.int (11 : Int32)), .unset, .unset] [(.int (11 : Int32))])) (fun _ k => XS.iloadN X0.here hx rfl (hb hby at_8) rfl k) ?_
  obtain ⟨_, _, ⟨T1, L1, k1, n1⟩, -, X1, ⟨Lc1, hQ1, l1, y1, z1⟩, st1⟩ := Jvm.LawKit.callS X0 hx (y := (⟨"com/example/punctual_proof/punctualproof/network/BinaryOperatorIsComparisonPinLaw", "pick", "(I)Lcom/example/punctual_proof/punctualproof/network/BinaryOperator;"⟩ : MethodName)) hown (mvT hZ (hw _ (List.mem_of_getElem? (i := 1) rfl))) (mvT hZ (hw _ (List.mem_of_getElem? (i := 2) rfl))) (mvT hZ (hw _ (List.mem_of_getElem? (i := 3) rfl))) (mvT hZ (hw _ (List.mem_of_getElem? (i := 4) rfl))) (by decide) (backOf (W := 0) (rm1_11 l Z a0 hw [] w h0 n0 Z0 P) hZ (hw _ (List.mem_of_getElem? (i := 4) rfl)) (hw _ (List.mem_of_getElem? (i := 3) rfl)) (by decide) (by decide)) (g := (mkF m 9 #[.val (.int p1), .val (.int (11 : Int32)), .unset, .unset] [(.int (11 : Int32))])) rfl (by rw [hml]; rfl) (argsL := [(.int (11 : Int32))]) (rest := []) (lenOf pd_0 rfl) rfl (by show 2 * 0 + _ ≤ _; exact Nat.le_of_eq rfl) (hb hby at_9) (fun _ _ => ⟨rfl, e0, (by decide : 0 + 0 ≤ _), (by decide : 0 + 0 ≤ _)⟩)
  dsimp only [Pt.U, Pt.locs, Pt.cells, Pt.slots] at X1 l1 y1 z1 st1 hQ1
  subst l1 y1 z1
  obtain ⟨rfl, N1q, e1⟩ := hQ1
  have N1 := Fr.app N0 N1q
  refine own_step (W' := T1.setTop (mkF m 12 #[.val (.int p1), .val (.int (11 : Int32)), .unset, .unset] [(.ref (w 7))])) (fun _ k => st1 _ k) ?_
  refine own_step (W' := T1.setTop (mkF m 13 #[.val (.int p1), .val (.int (11 : Int32)), .val (.ref (w 7)), .unset] [])) (fun _ k => XS.astoreN X1.here hx rfl (hb hby at_12) rfl rfl (l' := #[.val (.int p1), .val (.int (11 : Int32)), .val (.ref (w 7)), .unset]) rfl k) ?_
  refine own_step (W' := T1.setTop (mkF m 14 #[.val (.int p1), .val (.int (11 : Int32)), .val (.ref (w 7)), .unset] [(.int (11 : Int32))])) (fun _ k => XS.iloadN X1.here hx rfl (hb hby at_13) rfl k) ?_
  refine own_step (W' := T1.setTop (mkF m 15 #[.val (.int p1), .val (.int (11 : Int32)), .val (.ref (w 7)), .unset] [(.int (3 : Int32)), (.int (11 : Int32))])) (fun _ k => XS.iconst X1.here hx rfl (hb hby at_14) k) ?_
  refine own_step (W' := T1.setTop (mkF m 18 #[.val (.int p1), .val (.int (11 : Int32)), .val (.ref (w 7)), .unset] [])) (fun _ k => XS.icmpNo X1.here hx rfl (hb hby at_15) rfl (by decide) k) ?_
  refine own_step (W' := T1.setTop (mkF m 19 #[.val (.int p1), .val (.int (11 : Int32)), .val (.ref (w 7)), .unset] [(.int (11 : Int32))])) (fun _ k => XS.iloadN X1.here hx rfl (hb hby at_18) rfl k) ?_
  refine own_step (W' := T1.setTop (mkF m 20 #[.val (.int p1), .val (.int (11 : Int32)), .val (.ref (w 7)), .unset] [(.int (4 : Int32)), (.int (11 : Int32))])) (fun _ k => XS.iconst X1.here hx rfl (hb hby at_19) k) ?_
  refine own_step (W' := T1.setTop (mkF m 23 #[.val (.int p1), .val (.int (11 : Int32)), .val (.ref (w 7)), .unset] [])) (fun _ k => XS.icmpNo X1.here hx rfl (hb hby at_20) rfl (by decide) k) ?_
  refine own_step (W' := T1.setTop (mkF m 24 #[.val (.int p1), .val (.int (11 : Int32)), .val (.ref (w 7)), .unset] [(.int (11 : Int32))])) (fun _ k => XS.iloadN X1.here hx rfl (hb hby at_23) rfl k) ?_
  refine own_step (W' := T1.setTop (mkF m 25 #[.val (.int p1), .val (.int (11 : Int32)), .val (.ref (w 7)), .unset] [(.int (5 : Int32)), (.int (11 : Int32))])) (fun _ k => XS.iconst X1.here hx rfl (hb hby at_24) k) ?_
  refine own_step (W' := T1.setTop (mkF m 28 #[.val (.int p1), .val (.int (11 : Int32)), .val (.ref (w 7)), .unset] [])) (fun _ k => XS.icmpNo X1.here hx rfl (hb hby at_25) rfl (by decide) k) ?_
  refine own_step (W' := T1.setTop (mkF m 29 #[.val (.int p1), .val (.int (11 : Int32)), .val (.ref (w 7)), .unset] [(.int (11 : Int32))])) (fun _ k => XS.iloadN X1.here hx rfl (hb hby at_28) rfl k) ?_
  refine own_step (W' := T1.setTop (mkF m 31 #[.val (.int p1), .val (.int (11 : Int32)), .val (.ref (w 7)), .unset] [(.int (6 : Int32)), (.int (11 : Int32))])) (fun _ k => XS.bipush X1.here hx rfl (hb hby at_29) k) ?_
  refine own_step (W' := T1.setTop (mkF m 34 #[.val (.int p1), .val (.int (11 : Int32)), .val (.ref (w 7)), .unset] [])) (fun _ k => XS.icmpNo X1.here hx rfl (hb hby at_31) rfl (by decide) k) ?_
  refine own_step (W' := T1.setTop (mkF m 35 #[.val (.int p1), .val (.int (11 : Int32)), .val (.ref (w 7)), .unset] [(.int (11 : Int32))])) (fun _ k => XS.iloadN X1.here hx rfl (hb hby at_34) rfl k) ?_
  refine own_step (W' := T1.setTop (mkF m 37 #[.val (.int p1), .val (.int (11 : Int32)), .val (.ref (w 7)), .unset] [(.int (7 : Int32)), (.int (11 : Int32))])) (fun _ k => XS.bipush X1.here hx rfl (hb hby at_35) k) ?_
  refine own_step (W' := T1.setTop (mkF m 40 #[.val (.int p1), .val (.int (11 : Int32)), .val (.ref (w 7)), .unset] [])) (fun _ k => XS.icmpNo X1.here hx rfl (hb hby at_37) rfl (by decide) k) ?_
  refine own_step (W' := T1.setTop (mkF m 41 #[.val (.int p1), .val (.int (11 : Int32)), .val (.ref (w 7)), .unset] [(.int (11 : Int32))])) (fun _ k => XS.iloadN X1.here hx rfl (hb hby at_40) rfl k) ?_
  refine own_step (W' := T1.setTop (mkF m 43 #[.val (.int p1), .val (.int (11 : Int32)), .val (.ref (w 7)), .unset] [(.int (8 : Int32)), (.int (11 : Int32))])) (fun _ k => XS.bipush X1.here hx rfl (hb hby at_41) k) ?_
  refine own_step (W' := T1.setTop (mkF m 50 #[.val (.int p1), .val (.int (11 : Int32)), .val (.ref (w 7)), .unset] [])) (fun _ k => XS.icmpYes X1.here hx rfl (pc0 := 43) (pc' := 50) rfl (hb hby at_43) rfl (by decide) (by decide) (by decide) k) ?_
  refine own_step (W' := T1.setTop (mkF m 51 #[.val (.int p1), .val (.int (11 : Int32)), .val (.ref (w 7)), .unset] [(.int (0 : Int32))])) (fun _ k => XS.iconst X1.here hx rfl (hb hby at_50) k) ?_
  refine own_step (W' := T1.setTop (mkF m 52 #[.val (.int p1), .val (.int (11 : Int32)), .val (.ref (w 7)), .val (.int (0 : Int32))] [])) (fun _ k => XS.istoreN X1.here hx rfl (hb hby at_51) rfl (l' := #[.val (.int p1), .val (.int (11 : Int32)), .val (.ref (w 7)), .val (.int (0 : Int32))]) rfl k) ?_
  refine own_step (W' := T1.setTop (mkF m 53 #[.val (.int p1), .val (.int (11 : Int32)), .val (.ref (w 7)), .val (.int (0 : Int32))] [(.ref (w 7))])) (fun _ k => XS.aloadN X1.here hx rfl (hb hby at_52) rfl rfl k) ?_
  obtain ⟨cq2, kq2, q2a, q2b, q2c⟩ := isOf hZ e1 (pin_E7 P)
  obtain ⟨_, _, ⟨T2, L2, k2, n2⟩, -, X2, ⟨Lc2, hQ2, l2, y2, z2⟩, st2⟩ := X1.virtualBack hx (y := (⟨"com/example/punctual_proof/punctualproof/network/BinaryOperator", "isComparison", "()Z"⟩ : MethodName)) (z := (⟨"com/example/punctual_proof/punctualproof/network/BinaryOperator", "isComparison", "()Z"⟩ : MethodName)) hown (mvT hZ (hw _ (List.mem_of_getElem? (i := 8) rfl))) (mvT hZ (hw _ (List.mem_of_getElem? (i := 9) rfl))) (notFace_of_selects (args := #[]) (mvT hZ (hw _ (List.mem_of_getElem? (i := 11) rfl)))) (mvT hZ (hw _ (List.mem_of_getElem? (i := 11) rfl))) (mvT hZ (hw _ (List.mem_of_getElem? (i := 10) rfl))) (by decide) (backOf (W := 0) (rm2_w7 l Z a0 hw [] w h0 n0 Z0 P) hZ (hw _ (List.mem_of_getElem? (i := 12) rfl)) (hw _ (List.mem_of_getElem? (i := 6) rfl)) (by decide) (by decide)) q2a q2c (g := (mkF m 53 #[.val (.int p1), .val (.int (11 : Int32)), .val (.ref (w 7)), .val (.int (0 : Int32))] [(.ref (w 7))])) rfl (by rw [hml]; rfl) (Steps.refl _) (argsL := []) (rest := []) (lenOf pd_1 rfl) rfl (by show 2 * 0 + _ ≤ _; exact Nat.le_of_eq rfl) (hb hby at_53) (fun _ _ => ⟨rfl, e1, (by decide : 0 + 0 ≤ _), (by decide : 0 + 0 ≤ _)⟩)
  dsimp only [Pt.U, Pt.locs, Pt.cells, Pt.slots] at X2 l2 y2 z2 st2 hQ2
  subst l2 y2 z2
  obtain ⟨rfl, N2q, e2⟩ := hQ2
  have N2 := Fr.app N1 N2q
  refine own_step (W' := T2.setTop (mkF m 56 #[.val (.int p1), .val (.int (11 : Int32)), .val (.ref (w 7)), .val (.int (0 : Int32))] [(.int (0 : Int32))])) (fun _ k => st2.trans k) ?_
  refine own_step (W' := T2.setTop (mkF m 57 #[.val (.int p1), .val (.int (11 : Int32)), .val (.ref (w 7)), .val (.int (0 : Int32))] [(.int (0 : Int32)), (.int (0 : Int32))])) (fun _ k => XS.iloadN X2.here hx rfl (hb hby at_56) rfl k) ?_
  refine own_step (W' := T2.setTop (mkF m 60 #[.val (.int p1), .val (.int (11 : Int32)), .val (.ref (w 7)), .val (.int (0 : Int32))] [])) (fun _ k => XS.icmpNo X2.here hx rfl (hb hby at_57) rfl (by decide) k) ?_
  refine own_step (W' := T2.setTop (mkF m 61 #[.val (.int p1), .val (.int (11 : Int32)), .val (.ref (w 7)), .val (.int (0 : Int32))] [(.int (1 : Int32))])) (fun _ k => XS.iconst X2.here hx rfl (hb hby at_60) k) ?_
  refine own_step (W' := T2.setTop (mkF m 65 #[.val (.int p1), .val (.int (11 : Int32)), .val (.ref (w 7)), .val (.int (0 : Int32))] [(.int (1 : Int32))])) (fun _ k => XS.goto X2.here hx rfl (pc0 := 61) (pc' := 65) rfl (hb hby at_61) (by decide) (by decide) k) ?_
  exact own_ret X2 Bd.notSynchronized Bd.returns (v := (.int (1 : Int32))) (fun fs hr => retN X2 hx (t := .boolean) Bd.returns (by simp) (hb hby at_65) hr) ⟨rfl, N2⟩ (by decide) (by decide)
set_option maxRecDepth 65536 in
set_option maxHeartbeats 40000000 in
theorem rm1_12 (l : Launch) (Z : State) (a0 : Array Value) (hw : ∀ d ∈ tables_1, d.before a0 Z = true) (ws : List Jvm.Cond) (w : Nat → Addr) (h0 : Heap) (n0 : Nat) (Z0 : n0 ≤ h0.size) (P : Pins Z h0 w) :
    MetFree l (⟨"com/example/punctual_proof/punctualproof/network/BinaryOperatorIsComparisonPinLaw", "pick", "(I)Lcom/example/punctual_proof/punctualproof/network/BinaryOperator;"⟩ : MethodName) (head1 (Jvm.Cond.code (⟨"com/example/punctual_proof/punctualproof/network/BinaryOperatorIsComparisonPinLaw", "pick", "(I)Lcom/example/punctual_proof/punctualproof/network/BinaryOperator;"⟩ : MethodName) method_3_code 1 (some (.object "com/example/punctual_proof/punctualproof/network/BinaryOperator")) :: ws) ({ frames := 0, cells := 0, slots := 0, locals := 0 } : Room)) (fun a U => a = #[(.int (12 : Int32))] ∧ Z.Warmed39 U.vm ∧ U.heap = h0) (fun _ _ _ _ _ => True) (fun _ U o U' => ∃ v L, o = .returned v ∧ own_QK (some (.ref (w 2))) h0 n0 v U'.heap L ∧ FrameEnd U o U' L ({ frames := 0, cells := 0, slots := 0, locals := 0 } : Room).cells ({ frames := 0, cells := 0, slots := 0, locals := 0 } : Room).slots) := by
  refine MetFree.of_bodySF (plainFor_of_name pn_com_example_punctual_proof_punctualproof_network_BinaryOperatorIsComparisonPinLaw) hisR ?_
  intro p e s m args below meth c s₁ Bd hml0 hP hK
  obtain ⟨rfl, hZ, hh⟩ := hP
  have hx := Bd.exec
  have hby := Bd.bytes
  have hml : c.maxLocals = 1 := hml0
  have hown : s.vm.findClass "com/example/punctual_proof/punctualproof/network/BinaryOperatorIsComparisonPinLaw" = some m.cls := findClass_of_methodNamed Bd.named
  have hnm := (name_of_methodNamed Bd.named Bd.method).1
  have X0 : Stand p l e ({ frames := 0, cells := 0, slots := 0, locals := 0 } : Room) s m #[(.int (12 : Int32))] below meth c s₁ [] 0 0 := Stand.of_body Bd
  have e0 : s₁.heap = h0 := by rw [← hh, Bd.state]; rfl
  have N0 := Fr.nil n0
  refine own_enter (ef_1_I m (12 : Int32)) ?_
  refine own_step (W' := s₁.setTop (mkF m 1 #[.val (.int (12 : Int32))] [(.int (12 : Int32))])) (fun _ k => XS.iloadN X0.here hx rfl (hb hby d1_0) rfl k) ?_
  refine own_step (W' := s₁.setTop (mkF m 8 #[.val (.int (12 : Int32))] [])) (fun _ k => XS.ifYes X0.here hx rfl (pc0 := 1) (pc' := 8) rfl (hb hby d1_1) rfl (by decide) (by decide) (by decide) k) ?_
  refine own_step (W' := s₁.setTop (mkF m 9 #[.val (.int (12 : Int32))] [(.int (12 : Int32))])) (fun _ k => XS.iloadN X0.here hx rfl (hb hby d1_8) rfl k) ?_
  refine own_step (W' := s₁.setTop (mkF m 10 #[.val (.int (12 : Int32))] [(.int (1 : Int32)), (.int (12 : Int32))])) (fun _ k => XS.iconst X0.here hx rfl (hb hby d1_9) k) ?_
  refine own_step (W' := s₁.setTop (mkF m 17 #[.val (.int (12 : Int32))] [])) (fun _ k => XS.icmpYes X0.here hx rfl (pc0 := 10) (pc' := 17) rfl (hb hby d1_10) rfl (by decide) (by decide) (by decide) k) ?_
  refine own_step (W' := s₁.setTop (mkF m 18 #[.val (.int (12 : Int32))] [(.int (12 : Int32))])) (fun _ k => XS.iloadN X0.here hx rfl (hb hby d1_17) rfl k) ?_
  refine own_step (W' := s₁.setTop (mkF m 19 #[.val (.int (12 : Int32))] [(.int (2 : Int32)), (.int (12 : Int32))])) (fun _ k => XS.iconst X0.here hx rfl (hb hby d1_18) k) ?_
  refine own_step (W' := s₁.setTop (mkF m 26 #[.val (.int (12 : Int32))] [])) (fun _ k => XS.icmpYes X0.here hx rfl (pc0 := 19) (pc' := 26) rfl (hb hby d1_19) rfl (by decide) (by decide) (by decide) k) ?_
  refine own_step (W' := s₁.setTop (mkF m 27 #[.val (.int (12 : Int32))] [(.int (12 : Int32))])) (fun _ k => XS.iloadN X0.here hx rfl (hb hby d1_26) rfl k) ?_
  refine own_step (W' := s₁.setTop (mkF m 28 #[.val (.int (12 : Int32))] [(.int (3 : Int32)), (.int (12 : Int32))])) (fun _ k => XS.iconst X0.here hx rfl (hb hby d1_27) k) ?_
  refine own_step (W' := s₁.setTop (mkF m 35 #[.val (.int (12 : Int32))] [])) (fun _ k => XS.icmpYes X0.here hx rfl (pc0 := 28) (pc' := 35) rfl (hb hby d1_28) rfl (by decide) (by decide) (by decide) k) ?_
  refine own_step (W' := s₁.setTop (mkF m 36 #[.val (.int (12 : Int32))] [(.int (12 : Int32))])) (fun _ k => XS.iloadN X0.here hx rfl (hb hby d1_35) rfl k) ?_
  refine own_step (W' := s₁.setTop (mkF m 37 #[.val (.int (12 : Int32))] [(.int (4 : Int32)), (.int (12 : Int32))])) (fun _ k => XS.iconst X0.here hx rfl (hb hby d1_36) k) ?_
  refine own_step (W' := s₁.setTop (mkF m 44 #[.val (.int (12 : Int32))] [])) (fun _ k => XS.icmpYes X0.here hx rfl (pc0 := 37) (pc' := 44) rfl (hb hby d1_37) rfl (by decide) (by decide) (by decide) k) ?_
  refine own_step (W' := s₁.setTop (mkF m 45 #[.val (.int (12 : Int32))] [(.int (12 : Int32))])) (fun _ k => XS.iloadN X0.here hx rfl (hb hby d1_44) rfl k) ?_
  refine own_step (W' := s₁.setTop (mkF m 46 #[.val (.int (12 : Int32))] [(.int (5 : Int32)), (.int (12 : Int32))])) (fun _ k => XS.iconst X0.here hx rfl (hb hby d1_45) k) ?_
  refine own_step (W' := s₁.setTop (mkF m 53 #[.val (.int (12 : Int32))] [])) (fun _ k => XS.icmpYes X0.here hx rfl (pc0 := 46) (pc' := 53) rfl (hb hby d1_46) rfl (by decide) (by decide) (by decide) k) ?_
  refine own_step (W' := s₁.setTop (mkF m 54 #[.val (.int (12 : Int32))] [(.int (12 : Int32))])) (fun _ k => XS.iloadN X0.here hx rfl (hb hby d1_53) rfl k) ?_
  refine own_step (W' := s₁.setTop (mkF m 56 #[.val (.int (12 : Int32))] [(.int (6 : Int32)), (.int (12 : Int32))])) (fun _ k => XS.bipush X0.here hx rfl (hb hby d1_54) k) ?_
  refine own_step (W' := s₁.setTop (mkF m 63 #[.val (.int (12 : Int32))] [])) (fun _ k => XS.icmpYes X0.here hx rfl (pc0 := 56) (pc' := 63) rfl (hb hby d1_56) rfl (by decide) (by decide) (by decide) k) ?_
  refine own_step (W' := s₁.setTop (mkF m 64 #[.val (.int (12 : Int32))] [(.int (12 : Int32))])) (fun _ k => XS.iloadN X0.here hx rfl (hb hby d1_63) rfl k) ?_
  refine own_step (W' := s₁.setTop (mkF m 66 #[.val (.int (12 : Int32))] [(.int (7 : Int32)), (.int (12 : Int32))])) (fun _ k => XS.bipush X0.here hx rfl (hb hby d1_64) k) ?_
  refine own_step (W' := s₁.setTop (mkF m 73 #[.val (.int (12 : Int32))] [])) (fun _ k => XS.icmpYes X0.here hx rfl (pc0 := 66) (pc' := 73) rfl (hb hby d1_66) rfl (by decide) (by decide) (by decide) k) ?_
  refine own_step (W' := s₁.setTop (mkF m 74 #[.val (.int (12 : Int32))] [(.int (12 : Int32))])) (fun _ k => XS.iloadN X0.here hx rfl (hb hby d1_73) rfl k) ?_
  refine own_step (W' := s₁.setTop (mkF m 76 #[.val (.int (12 : Int32))] [(.int (8 : Int32)), (.int (12 : Int32))])) (fun _ k => XS.bipush X0.here hx rfl (hb hby d1_74) k) ?_
  refine own_step (W' := s₁.setTop (mkF m 83 #[.val (.int (12 : Int32))] [])) (fun _ k => XS.icmpYes X0.here hx rfl (pc0 := 76) (pc' := 83) rfl (hb hby d1_76) rfl (by decide) (by decide) (by decide) k) ?_
  refine own_step (W' := s₁.setTop (mkF m 84 #[.val (.int (12 : Int32))] [(.int (12 : Int32))])) (fun _ k => XS.iloadN X0.here hx rfl (hb hby d1_83) rfl k) ?_
  refine own_step (W' := s₁.setTop (mkF m 86 #[.val (.int (12 : Int32))] [(.int (9 : Int32)), (.int (12 : Int32))])) (fun _ k => XS.bipush X0.here hx rfl (hb hby d1_84) k) ?_
  refine own_step (W' := s₁.setTop (mkF m 93 #[.val (.int (12 : Int32))] [])) (fun _ k => XS.icmpYes X0.here hx rfl (pc0 := 86) (pc' := 93) rfl (hb hby d1_86) rfl (by decide) (by decide) (by decide) k) ?_
  refine own_step (W' := s₁.setTop (mkF m 94 #[.val (.int (12 : Int32))] [(.int (12 : Int32))])) (fun _ k => XS.iloadN X0.here hx rfl (hb hby d1_93) rfl k) ?_
  refine own_step (W' := s₁.setTop (mkF m 96 #[.val (.int (12 : Int32))] [(.int (10 : Int32)), (.int (12 : Int32))])) (fun _ k => XS.bipush X0.here hx rfl (hb hby d1_94) k) ?_
  refine own_step (W' := s₁.setTop (mkF m 103 #[.val (.int (12 : Int32))] [])) (fun _ k => XS.icmpYes X0.here hx rfl (pc0 := 96) (pc' := 103) rfl (hb hby d1_96) rfl (by decide) (by decide) (by decide) k) ?_
  refine own_step (W' := s₁.setTop (mkF m 104 #[.val (.int (12 : Int32))] [(.int (12 : Int32))])) (fun _ k => XS.iloadN X0.here hx rfl (hb hby d1_103) rfl k) ?_
  refine own_step (W' := s₁.setTop (mkF m 106 #[.val (.int (12 : Int32))] [(.int (11 : Int32)), (.int (12 : Int32))])) (fun _ k => XS.bipush X0.here hx rfl (hb hby d1_104) k) ?_
  refine own_step (W' := s₁.setTop (mkF m 113 #[.val (.int (12 : Int32))] [])) (fun _ k => XS.icmpYes X0.here hx rfl (pc0 := 106) (pc' := 113) rfl (hb hby d1_106) rfl (by decide) (by decide) (by decide) k) ?_
  refine own_step (W' := s₁.setTop (mkF m 114 #[.val (.int (12 : Int32))] [(.int (12 : Int32))])) (fun _ k => XS.iloadN X0.here hx rfl (hb hby d1_113) rfl k) ?_
  refine own_step (W' := s₁.setTop (mkF m 116 #[.val (.int (12 : Int32))] [(.int (12 : Int32)), (.int (12 : Int32))])) (fun _ k => XS.bipush X0.here hx rfl (hb hby d1_114) k) ?_
  refine own_step (W' := s₁.setTop (mkF m 119 #[.val (.int (12 : Int32))] [])) (fun _ k => XS.icmpNo X0.here hx rfl (hb hby d1_116) rfl (by decide) k) ?_
  obtain ⟨T1, X1, e1, st1⟩ := getS2 X0 hx hZ hown (host := "") (Or.inl (hw _ (List.mem_of_getElem? (i := 17) rfl))) Via.refl e0 (pin_S2 P) (g := (mkF m 119 #[.val (.int (12 : Int32))] [])) rfl (hb hby d1_119)
  refine own_step (W' := T1.setTop (mkF m 122 #[.val (.int (12 : Int32))] [(.ref (w 2))])) (fun _ k => st1 _ k) ?_
  exact own_ret X1 Bd.notSynchronized Bd.returns (v := (.ref (w 2))) (fun fs hr => retOut X1 hx Bd.returns rfl (Or.inr (Or.inr (Or.inr (Or.inr ⟨rfl, rfl, rfl⟩)))) (hb hby d1_122) hr) ⟨rfl, N0, e1⟩ (by decide) (by decide)
set_option maxRecDepth 65536 in
set_option maxHeartbeats 40000000 in
theorem rm2_w2 (l : Launch) (Z : State) (a0 : Array Value) (hw : ∀ d ∈ tables_1, d.before a0 Z = true) (ws : List Jvm.Cond) (w : Nat → Addr) (h0 : Heap) (n0 : Nat) (Z0 : n0 ≤ h0.size) (P : Pins Z h0 w) :
    MetFree l (⟨"com/example/punctual_proof/punctualproof/network/BinaryOperator", "isComparison", "()Z"⟩ : MethodName) (head1 (Jvm.Cond.code (⟨"com/example/punctual_proof/punctualproof/network/BinaryOperator", "isComparison", "()Z"⟩ : MethodName) prog_59_method_8_code 1 (some .boolean) :: ws) ({ frames := 0, cells := 0, slots := 0, locals := 0 } : Room)) (fun a U => a = #[(.ref (w 2))] ∧ Z.Warmed39 U.vm ∧ U.heap = h0) (fun _ _ _ _ _ => True) (fun _ U o U' => ∃ v L, o = .returned v ∧ own_QK (some (.int (0 : Int32))) h0 n0 v U'.heap L ∧ FrameEnd U o U' L ({ frames := 0, cells := 0, slots := 0, locals := 0 } : Room).cells ({ frames := 0, cells := 0, slots := 0, locals := 0 } : Room).slots) := by
  refine MetFree.of_bodySF (plainFor_of_name pn_com_example_punctual_proof_punctualproof_network_BinaryOperator) hisR ?_
  intro p e s m args below meth c s₁ Bd hml0 hP hK
  obtain ⟨rfl, hZ, hh⟩ := hP
  have hx := Bd.exec
  have hby := Bd.bytes
  have hml : c.maxLocals = 1 := hml0
  have hown : s.vm.findClass "com/example/punctual_proof/punctualproof/network/BinaryOperator" = some m.cls := findClass_of_methodNamed Bd.named
  have hnm := (name_of_methodNamed Bd.named Bd.method).1
  have X0 : Stand p l e ({ frames := 0, cells := 0, slots := 0, locals := 0 } : Room) s m #[(.ref (w 2))] below meth c s₁ [] 0 0 := Stand.of_body Bd
  have e0 : s₁.heap = h0 := by rw [← hh, Bd.state]; rfl
  have N0 := Fr.nil n0
  refine own_enter (ef_2_R m (w 2)) ?_
  refine own_step (W' := s₁.setTop (mkF m 1 #[.val (.ref (w 2))] [(.ref (w 2))])) (fun _ k => XS.aloadN X0.here hx rfl (hb hby d2_0) rfl rfl k) ?_
  obtain ⟨T1, X1, e1, st1⟩ := getF X0 hx hZ hown (host := "") (Or.inl (hw _ (List.mem_of_getElem? (i := 13) rfl))) Via.refl e0 (pin_F2_precedence P) (g := (mkF m 1 #[.val (.ref (w 2))] [(.ref (w 2))])) rfl rfl (hb hby d2_1)
  refine own_step (W' := T1.setTop (mkF m 4 #[.val (.ref (w 2))] [(.int (7 : Int32))])) (fun _ k => st1 _ k) ?_
  refine own_step (W' := T1.setTop (mkF m 5 #[.val (.ref (w 2))] [(.int (5 : Int32)), (.int (7 : Int32))])) (fun _ k => XS.iconst X1.here hx rfl (hb hby d2_4) k) ?_
  refine own_step (W' := T1.setTop (mkF m 12 #[.val (.ref (w 2))] [])) (fun _ k => XS.icmpYes X1.here hx rfl (pc0 := 5) (pc' := 12) rfl (hb hby d2_5) rfl (by decide) (by decide) (by decide) k) ?_
  refine own_step (W' := T1.setTop (mkF m 13 #[.val (.ref (w 2))] [(.int (0 : Int32))])) (fun _ k => XS.iconst X1.here hx rfl (hb hby d2_12) k) ?_
  exact own_ret X1 Bd.notSynchronized Bd.returns (v := (.int (0 : Int32))) (fun fs hr => retN X1 hx (t := .boolean) Bd.returns (by simp) (hb hby d2_13) hr) ⟨rfl, N0, e1⟩ (by decide) (by decide)
set_option maxRecDepth 65536 in
set_option maxHeartbeats 40000000 in
theorem rm0_12 (l : Launch) (Z : State) (a0 : Array Value) (hw : ∀ d ∈ tables_1, d.before a0 Z = true) (ws : List Jvm.Cond) (p1 : Int32) (hk : ((p1 &&& (2147483647 : Int32)) % (14 : Int32)) = (12 : Int32)) (w : Nat → Addr) (h0 : Heap) (n0 : Nat) (Z0 : n0 ≤ h0.size) (P : Pins Z h0 w) :
    MetFree l x (head1 (Jvm.Cond.code x code maxLocals ret :: ws) room_1) (fun a U => a = #[(.int p1)] ∧ Z.Warmed39 U.vm ∧ U.heap = h0) (fun _ _ _ _ _ => True) (fun _ U o U' => ∃ v L, o = .returned v ∧ own_Q0 n0 v U'.heap L ∧ FrameEnd U o U' L room_1.cells room_1.slots) := by
  refine MetFree.of_bodySF (plainFor_of_name pn_com_example_punctual_proof_punctualproof_network_BinaryOperatorIsComparisonPinLaw) hisR ?_
  intro p e s m args below meth c s₁ Bd hml0 hP hK
  obtain ⟨rfl, hZ, hh⟩ := hP
  have hx := Bd.exec
  have hby := Bd.bytes
  have hml : c.maxLocals = 4 := hml0
  have hown : s.vm.findClass "com/example/punctual_proof/punctualproof/network/BinaryOperatorIsComparisonPinLaw" = some m.cls := findClass_of_methodNamed Bd.named
  have hnm := (name_of_methodNamed Bd.named Bd.method).1
  have X0 : Stand p l e room_1 s m #[(.int p1)] below meth c s₁ [] 0 0 := Stand.of_body Bd
  have e0 : s₁.heap = h0 := by rw [← hh, Bd.state]; rfl
  have N0 := Fr.nil n0
  refine own_enter (ef_0_I m p1) ?_
  refine own_step (W' := s₁.setTop (mkF m 1 #[.val (.int p1), .unset, .unset, .unset] [(.int p1)])) (fun _ k => XS.iloadN X0.here hx rfl (hb hby at_0) rfl k) ?_
  refine own_step (W' := s₁.setTop (mkF m 3 #[.val (.int p1), .unset, .unset, .unset] [(.int (2147483647 : Int32)), (.int p1)])) (fun _ k => X0.ldcInt hx hown (mvT hZ (hw _ (List.mem_of_getElem? (i := 0) rfl))) (g := (mkF m 1 #[.val (.int p1), .unset, .unset, .unset] [(.int p1)])) rfl (hb hby at_1) _ k) ?_
  refine own_step (W' := s₁.setTop (mkF m 4 #[.val (.int p1), .unset, .unset, .unset] [(.int (p1 &&& (2147483647 : Int32)))])) (fun _ k => XS.iand X0.here hx rfl (hb hby at_3) rfl k) ?_
  refine own_step (W' := s₁.setTop (mkF m 6 #[.val (.int p1), .unset, .unset, .unset] [(.int (14 : Int32)), (.int (p1 &&& (2147483647 : Int32)))])) (fun _ k => XS.bipush X0.here hx rfl (hb hby at_4) k) ?_
  refine own_step (W' := s₁.setTop (mkF m 7 #[.val (.int p1), .unset, .unset, .unset] [(.int ((p1 &&& (2147483647 : Int32)) % (14 : Int32)))])) (fun _ k => iremM X0 hx rfl (hb hby at_6) rfl (by decide) k) ?_
  rw [hk]
  refine own_step (W' := s₁.setTop (mkF m 8 #[.val (.int p1), .val (.int (12 : Int32)), .unset, .unset] [])) (fun _ k => XS.istoreN X0.here hx rfl (hb hby at_7) rfl (l' := #[.val (.int p1), .val (.int (12 : Int32)), .unset, .unset]) rfl k) ?_
  refine own_step (W' := s₁.setTop (mkF m 9 #[.val (.int p1), .val (.int (12 : Int32)), .unset, .unset] [(.int (12 : Int32))])) (fun _ k => XS.iloadN X0.here hx rfl (hb hby at_8) rfl k) ?_
  obtain ⟨_, _, ⟨T1, L1, k1, n1⟩, -, X1, ⟨Lc1, hQ1, l1, y1, z1⟩, st1⟩ := Jvm.LawKit.callS X0 hx (y := (⟨"com/example/punctual_proof/punctualproof/network/BinaryOperatorIsComparisonPinLaw", "pick", "(I)Lcom/example/punctual_proof/punctualproof/network/BinaryOperator;"⟩ : MethodName)) hown (mvT hZ (hw _ (List.mem_of_getElem? (i := 1) rfl))) (mvT hZ (hw _ (List.mem_of_getElem? (i := 2) rfl))) (mvT hZ (hw _ (List.mem_of_getElem? (i := 3) rfl))) (mvT hZ (hw _ (List.mem_of_getElem? (i := 4) rfl))) (by decide) (backOf (W := 0) (rm1_12 l Z a0 hw [] w h0 n0 Z0 P) hZ (hw _ (List.mem_of_getElem? (i := 4) rfl)) (hw _ (List.mem_of_getElem? (i := 3) rfl)) (by decide) (by decide)) (g := (mkF m 9 #[.val (.int p1), .val (.int (12 : Int32)), .unset, .unset] [(.int (12 : Int32))])) rfl (by rw [hml]; rfl) (argsL := [(.int (12 : Int32))]) (rest := []) (lenOf pd_0 rfl) rfl (by show 2 * 0 + _ ≤ _; exact Nat.le_of_eq rfl) (hb hby at_9) (fun _ _ => ⟨rfl, e0, (by decide : 0 + 0 ≤ _), (by decide : 0 + 0 ≤ _)⟩)
  dsimp only [Pt.U, Pt.locs, Pt.cells, Pt.slots] at X1 l1 y1 z1 st1 hQ1
  subst l1 y1 z1
  obtain ⟨rfl, N1q, e1⟩ := hQ1
  have N1 := Fr.app N0 N1q
  refine own_step (W' := T1.setTop (mkF m 12 #[.val (.int p1), .val (.int (12 : Int32)), .unset, .unset] [(.ref (w 2))])) (fun _ k => st1 _ k) ?_
  refine own_step (W' := T1.setTop (mkF m 13 #[.val (.int p1), .val (.int (12 : Int32)), .val (.ref (w 2)), .unset] [])) (fun _ k => XS.astoreN X1.here hx rfl (hb hby at_12) rfl rfl (l' := #[.val (.int p1), .val (.int (12 : Int32)), .val (.ref (w 2)), .unset]) rfl k) ?_
  refine own_step (W' := T1.setTop (mkF m 14 #[.val (.int p1), .val (.int (12 : Int32)), .val (.ref (w 2)), .unset] [(.int (12 : Int32))])) (fun _ k => XS.iloadN X1.here hx rfl (hb hby at_13) rfl k) ?_
  refine own_step (W' := T1.setTop (mkF m 15 #[.val (.int p1), .val (.int (12 : Int32)), .val (.ref (w 2)), .unset] [(.int (3 : Int32)), (.int (12 : Int32))])) (fun _ k => XS.iconst X1.here hx rfl (hb hby at_14) k) ?_
  refine own_step (W' := T1.setTop (mkF m 18 #[.val (.int p1), .val (.int (12 : Int32)), .val (.ref (w 2)), .unset] [])) (fun _ k => XS.icmpNo X1.here hx rfl (hb hby at_15) rfl (by decide) k) ?_
  refine own_step (W' := T1.setTop (mkF m 19 #[.val (.int p1), .val (.int (12 : Int32)), .val (.ref (w 2)), .unset] [(.int (12 : Int32))])) (fun _ k => XS.iloadN X1.here hx rfl (hb hby at_18) rfl k) ?_
  refine own_step (W' := T1.setTop (mkF m 20 #[.val (.int p1), .val (.int (12 : Int32)), .val (.ref (w 2)), .unset] [(.int (4 : Int32)), (.int (12 : Int32))])) (fun _ k => XS.iconst X1.here hx rfl (hb hby at_19) k) ?_
  refine own_step (W' := T1.setTop (mkF m 23 #[.val (.int p1), .val (.int (12 : Int32)), .val (.ref (w 2)), .unset] [])) (fun _ k => XS.icmpNo X1.here hx rfl (hb hby at_20) rfl (by decide) k) ?_
  refine own_step (W' := T1.setTop (mkF m 24 #[.val (.int p1), .val (.int (12 : Int32)), .val (.ref (w 2)), .unset] [(.int (12 : Int32))])) (fun _ k => XS.iloadN X1.here hx rfl (hb hby at_23) rfl k) ?_
  refine own_step (W' := T1.setTop (mkF m 25 #[.val (.int p1), .val (.int (12 : Int32)), .val (.ref (w 2)), .unset] [(.int (5 : Int32)), (.int (12 : Int32))])) (fun _ k => XS.iconst X1.here hx rfl (hb hby at_24) k) ?_
  refine own_step (W' := T1.setTop (mkF m 28 #[.val (.int p1), .val (.int (12 : Int32)), .val (.ref (w 2)), .unset] [])) (fun _ k => XS.icmpNo X1.here hx rfl (hb hby at_25) rfl (by decide) k) ?_
  refine own_step (W' := T1.setTop (mkF m 29 #[.val (.int p1), .val (.int (12 : Int32)), .val (.ref (w 2)), .unset] [(.int (12 : Int32))])) (fun _ k => XS.iloadN X1.here hx rfl (hb hby at_28) rfl k) ?_
  refine own_step (W' := T1.setTop (mkF m 31 #[.val (.int p1), .val (.int (12 : Int32)), .val (.ref (w 2)), .unset] [(.int (6 : Int32)), (.int (12 : Int32))])) (fun _ k => XS.bipush X1.here hx rfl (hb hby at_29) k) ?_
  refine own_step (W' := T1.setTop (mkF m 34 #[.val (.int p1), .val (.int (12 : Int32)), .val (.ref (w 2)), .unset] [])) (fun _ k => XS.icmpNo X1.here hx rfl (hb hby at_31) rfl (by decide) k) ?_
  refine own_step (W' := T1.setTop (mkF m 35 #[.val (.int p1), .val (.int (12 : Int32)), .val (.ref (w 2)), .unset] [(.int (12 : Int32))])) (fun _ k => XS.iloadN X1.here hx rfl (hb hby at_34) rfl k) ?_
  refine own_step (W' := T1.setTop (mkF m 37 #[.val (.int p1), .val (.int (12 : Int32)), .val (.ref (w 2)), .unset] [(.int (7 : Int32)), (.int (12 : Int32))])) (fun _ k => XS.bipush X1.here hx rfl (hb hby at_35) k) ?_
  refine own_step (W' := T1.setTop (mkF m 40 #[.val (.int p1), .val (.int (12 : Int32)), .val (.ref (w 2)), .unset] [])) (fun _ k => XS.icmpNo X1.here hx rfl (hb hby at_37) rfl (by decide) k) ?_
  refine own_step (W' := T1.setTop (mkF m 41 #[.val (.int p1), .val (.int (12 : Int32)), .val (.ref (w 2)), .unset] [(.int (12 : Int32))])) (fun _ k => XS.iloadN X1.here hx rfl (hb hby at_40) rfl k) ?_
  refine own_step (W' := T1.setTop (mkF m 43 #[.val (.int p1), .val (.int (12 : Int32)), .val (.ref (w 2)), .unset] [(.int (8 : Int32)), (.int (12 : Int32))])) (fun _ k => XS.bipush X1.here hx rfl (hb hby at_41) k) ?_
  refine own_step (W' := T1.setTop (mkF m 50 #[.val (.int p1), .val (.int (12 : Int32)), .val (.ref (w 2)), .unset] [])) (fun _ k => XS.icmpYes X1.here hx rfl (pc0 := 43) (pc' := 50) rfl (hb hby at_43) rfl (by decide) (by decide) (by decide) k) ?_
  refine own_step (W' := T1.setTop (mkF m 51 #[.val (.int p1), .val (.int (12 : Int32)), .val (.ref (w 2)), .unset] [(.int (0 : Int32))])) (fun _ k => XS.iconst X1.here hx rfl (hb hby at_50) k) ?_
  refine own_step (W' := T1.setTop (mkF m 52 #[.val (.int p1), .val (.int (12 : Int32)), .val (.ref (w 2)), .val (.int (0 : Int32))] [])) (fun _ k => XS.istoreN X1.here hx rfl (hb hby at_51) rfl (l' := #[.val (.int p1), .val (.int (12 : Int32)), .val (.ref (w 2)), .val (.int (0 : Int32))]) rfl k) ?_
  refine own_step (W' := T1.setTop (mkF m 53 #[.val (.int p1), .val (.int (12 : Int32)), .val (.ref (w 2)), .val (.int (0 : Int32))] [(.ref (w 2))])) (fun _ k => XS.aloadN X1.here hx rfl (hb hby at_52) rfl rfl k) ?_
  obtain ⟨cq2, kq2, q2a, q2b, q2c⟩ := isOf hZ e1 (pin_E2 P)
  obtain ⟨_, _, ⟨T2, L2, k2, n2⟩, -, X2, ⟨Lc2, hQ2, l2, y2, z2⟩, st2⟩ := X1.virtualBack hx (y := (⟨"com/example/punctual_proof/punctualproof/network/BinaryOperator", "isComparison", "()Z"⟩ : MethodName)) (z := (⟨"com/example/punctual_proof/punctualproof/network/BinaryOperator", "isComparison", "()Z"⟩ : MethodName)) hown (mvT hZ (hw _ (List.mem_of_getElem? (i := 8) rfl))) (mvT hZ (hw _ (List.mem_of_getElem? (i := 9) rfl))) (notFace_of_selects (args := #[]) (mvT hZ (hw _ (List.mem_of_getElem? (i := 11) rfl)))) (mvT hZ (hw _ (List.mem_of_getElem? (i := 11) rfl))) (mvT hZ (hw _ (List.mem_of_getElem? (i := 10) rfl))) (by decide) (backOf (W := 0) (rm2_w2 l Z a0 hw [] w h0 n0 Z0 P) hZ (hw _ (List.mem_of_getElem? (i := 12) rfl)) (hw _ (List.mem_of_getElem? (i := 6) rfl)) (by decide) (by decide)) q2a q2c (g := (mkF m 53 #[.val (.int p1), .val (.int (12 : Int32)), .val (.ref (w 2)), .val (.int (0 : Int32))] [(.ref (w 2))])) rfl (by rw [hml]; rfl) (Steps.refl _) (argsL := []) (rest := []) (lenOf pd_1 rfl) rfl (by show 2 * 0 + _ ≤ _; exact Nat.le_of_eq rfl) (hb hby at_53) (fun _ _ => ⟨rfl, e1, (by decide : 0 + 0 ≤ _), (by decide : 0 + 0 ≤ _)⟩)
  dsimp only [Pt.U, Pt.locs, Pt.cells, Pt.slots] at X2 l2 y2 z2 st2 hQ2
  subst l2 y2 z2
  obtain ⟨rfl, N2q, e2⟩ := hQ2
  have N2 := Fr.app N1 N2q
  refine own_step (W' := T2.setTop (mkF m 56 #[.val (.int p1), .val (.int (12 : Int32)), .val (.ref (w 2)), .val (.int (0 : Int32))] [(.int (0 : Int32))])) (fun _ k => st2.trans k) ?_
  refine own_step (W' := T2.setTop (mkF m 57 #[.val (.int p1), .val (.int (12 : Int32)), .val (.ref (w 2)), .val (.int (0 : Int32))] [(.int (0 : Int32)), (.int (0 : Int32))])) (fun _ k => XS.iloadN X2.here hx rfl (hb hby at_56) rfl k) ?_
  refine own_step (W' := T2.setTop (mkF m 60 #[.val (.int p1), .val (.int (12 : Int32)), .val (.ref (w 2)), .val (.int (0 : Int32))] [])) (fun _ k => XS.icmpNo X2.here hx rfl (hb hby at_57) rfl (by decide) k) ?_
  refine own_step (W' := T2.setTop (mkF m 61 #[.val (.int p1), .val (.int (12 : Int32)), .val (.ref (w 2)), .val (.int (0 : Int32))] [(.int (1 : Int32))])) (fun _ k => XS.iconst X2.here hx rfl (hb hby at_60) k) ?_
  refine own_step (W' := T2.setTop (mkF m 65 #[.val (.int p1), .val (.int (12 : Int32)), .val (.ref (w 2)), .val (.int (0 : Int32))] [(.int (1 : Int32))])) (fun _ k => XS.goto X2.here hx rfl (pc0 := 61) (pc' := 65) rfl (hb hby at_61) (by decide) (by decide) k) ?_
  exact own_ret X2 Bd.notSynchronized Bd.returns (v := (.int (1 : Int32))) (fun fs hr => retN X2 hx (t := .boolean) Bd.returns (by simp) (hb hby at_65) hr) ⟨rfl, N2⟩ (by decide) (by decide)
set_option maxRecDepth 65536 in
set_option maxHeartbeats 40000000 in
theorem rm1_13 (l : Launch) (Z : State) (a0 : Array Value) (hw : ∀ d ∈ tables_1, d.before a0 Z = true) (ws : List Jvm.Cond) (w : Nat → Addr) (h0 : Heap) (n0 : Nat) (Z0 : n0 ≤ h0.size) (P : Pins Z h0 w) :
    MetFree l (⟨"com/example/punctual_proof/punctualproof/network/BinaryOperatorIsComparisonPinLaw", "pick", "(I)Lcom/example/punctual_proof/punctualproof/network/BinaryOperator;"⟩ : MethodName) (head1 (Jvm.Cond.code (⟨"com/example/punctual_proof/punctualproof/network/BinaryOperatorIsComparisonPinLaw", "pick", "(I)Lcom/example/punctual_proof/punctualproof/network/BinaryOperator;"⟩ : MethodName) method_3_code 1 (some (.object "com/example/punctual_proof/punctualproof/network/BinaryOperator")) :: ws) ({ frames := 0, cells := 0, slots := 0, locals := 0 } : Room)) (fun a U => a = #[(.int (13 : Int32))] ∧ Z.Warmed39 U.vm ∧ U.heap = h0) (fun _ _ _ _ _ => True) (fun _ U o U' => ∃ v L, o = .returned v ∧ own_QK (some (.ref (w 3))) h0 n0 v U'.heap L ∧ FrameEnd U o U' L ({ frames := 0, cells := 0, slots := 0, locals := 0 } : Room).cells ({ frames := 0, cells := 0, slots := 0, locals := 0 } : Room).slots) := by
  refine MetFree.of_bodySF (plainFor_of_name pn_com_example_punctual_proof_punctualproof_network_BinaryOperatorIsComparisonPinLaw) hisR ?_
  intro p e s m args below meth c s₁ Bd hml0 hP hK
  obtain ⟨rfl, hZ, hh⟩ := hP
  have hx := Bd.exec
  have hby := Bd.bytes
  have hml : c.maxLocals = 1 := hml0
  have hown : s.vm.findClass "com/example/punctual_proof/punctualproof/network/BinaryOperatorIsComparisonPinLaw" = some m.cls := findClass_of_methodNamed Bd.named
  have hnm := (name_of_methodNamed Bd.named Bd.method).1
  have X0 : Stand p l e ({ frames := 0, cells := 0, slots := 0, locals := 0 } : Room) s m #[(.int (13 : Int32))] below meth c s₁ [] 0 0 := Stand.of_body Bd
  have e0 : s₁.heap = h0 := by rw [← hh, Bd.state]; rfl
  have N0 := Fr.nil n0
  refine own_enter (ef_1_I m (13 : Int32)) ?_
  refine own_step (W' := s₁.setTop (mkF m 1 #[.val (.int (13 : Int32))] [(.int (13 : Int32))])) (fun _ k => XS.iloadN X0.here hx rfl (hb hby d1_0) rfl k) ?_
  refine own_step (W' := s₁.setTop (mkF m 8 #[.val (.int (13 : Int32))] [])) (fun _ k => XS.ifYes X0.here hx rfl (pc0 := 1) (pc' := 8) rfl (hb hby d1_1) rfl (by decide) (by decide) (by decide) k) ?_
  refine own_step (W' := s₁.setTop (mkF m 9 #[.val (.int (13 : Int32))] [(.int (13 : Int32))])) (fun _ k => XS.iloadN X0.here hx rfl (hb hby d1_8) rfl k) ?_
  refine own_step (W' := s₁.setTop (mkF m 10 #[.val (.int (13 : Int32))] [(.int (1 : Int32)), (.int (13 : Int32))])) (fun _ k => XS.iconst X0.here hx rfl (hb hby d1_9) k) ?_
  refine own_step (W' := s₁.setTop (mkF m 17 #[.val (.int (13 : Int32))] [])) (fun _ k => XS.icmpYes X0.here hx rfl (pc0 := 10) (pc' := 17) rfl (hb hby d1_10) rfl (by decide) (by decide) (by decide) k) ?_
  refine own_step (W' := s₁.setTop (mkF m 18 #[.val (.int (13 : Int32))] [(.int (13 : Int32))])) (fun _ k => XS.iloadN X0.here hx rfl (hb hby d1_17) rfl k) ?_
  refine own_step (W' := s₁.setTop (mkF m 19 #[.val (.int (13 : Int32))] [(.int (2 : Int32)), (.int (13 : Int32))])) (fun _ k => XS.iconst X0.here hx rfl (hb hby d1_18) k) ?_
  refine own_step (W' := s₁.setTop (mkF m 26 #[.val (.int (13 : Int32))] [])) (fun _ k => XS.icmpYes X0.here hx rfl (pc0 := 19) (pc' := 26) rfl (hb hby d1_19) rfl (by decide) (by decide) (by decide) k) ?_
  refine own_step (W' := s₁.setTop (mkF m 27 #[.val (.int (13 : Int32))] [(.int (13 : Int32))])) (fun _ k => XS.iloadN X0.here hx rfl (hb hby d1_26) rfl k) ?_
  refine own_step (W' := s₁.setTop (mkF m 28 #[.val (.int (13 : Int32))] [(.int (3 : Int32)), (.int (13 : Int32))])) (fun _ k => XS.iconst X0.here hx rfl (hb hby d1_27) k) ?_
  refine own_step (W' := s₁.setTop (mkF m 35 #[.val (.int (13 : Int32))] [])) (fun _ k => XS.icmpYes X0.here hx rfl (pc0 := 28) (pc' := 35) rfl (hb hby d1_28) rfl (by decide) (by decide) (by decide) k) ?_
  refine own_step (W' := s₁.setTop (mkF m 36 #[.val (.int (13 : Int32))] [(.int (13 : Int32))])) (fun _ k => XS.iloadN X0.here hx rfl (hb hby d1_35) rfl k) ?_
  refine own_step (W' := s₁.setTop (mkF m 37 #[.val (.int (13 : Int32))] [(.int (4 : Int32)), (.int (13 : Int32))])) (fun _ k => XS.iconst X0.here hx rfl (hb hby d1_36) k) ?_
  refine own_step (W' := s₁.setTop (mkF m 44 #[.val (.int (13 : Int32))] [])) (fun _ k => XS.icmpYes X0.here hx rfl (pc0 := 37) (pc' := 44) rfl (hb hby d1_37) rfl (by decide) (by decide) (by decide) k) ?_
  refine own_step (W' := s₁.setTop (mkF m 45 #[.val (.int (13 : Int32))] [(.int (13 : Int32))])) (fun _ k => XS.iloadN X0.here hx rfl (hb hby d1_44) rfl k) ?_
  refine own_step (W' := s₁.setTop (mkF m 46 #[.val (.int (13 : Int32))] [(.int (5 : Int32)), (.int (13 : Int32))])) (fun _ k => XS.iconst X0.here hx rfl (hb hby d1_45) k) ?_
  refine own_step (W' := s₁.setTop (mkF m 53 #[.val (.int (13 : Int32))] [])) (fun _ k => XS.icmpYes X0.here hx rfl (pc0 := 46) (pc' := 53) rfl (hb hby d1_46) rfl (by decide) (by decide) (by decide) k) ?_
  refine own_step (W' := s₁.setTop (mkF m 54 #[.val (.int (13 : Int32))] [(.int (13 : Int32))])) (fun _ k => XS.iloadN X0.here hx rfl (hb hby d1_53) rfl k) ?_
  refine own_step (W' := s₁.setTop (mkF m 56 #[.val (.int (13 : Int32))] [(.int (6 : Int32)), (.int (13 : Int32))])) (fun _ k => XS.bipush X0.here hx rfl (hb hby d1_54) k) ?_
  refine own_step (W' := s₁.setTop (mkF m 63 #[.val (.int (13 : Int32))] [])) (fun _ k => XS.icmpYes X0.here hx rfl (pc0 := 56) (pc' := 63) rfl (hb hby d1_56) rfl (by decide) (by decide) (by decide) k) ?_
  refine own_step (W' := s₁.setTop (mkF m 64 #[.val (.int (13 : Int32))] [(.int (13 : Int32))])) (fun _ k => XS.iloadN X0.here hx rfl (hb hby d1_63) rfl k) ?_
  refine own_step (W' := s₁.setTop (mkF m 66 #[.val (.int (13 : Int32))] [(.int (7 : Int32)), (.int (13 : Int32))])) (fun _ k => XS.bipush X0.here hx rfl (hb hby d1_64) k) ?_
  refine own_step (W' := s₁.setTop (mkF m 73 #[.val (.int (13 : Int32))] [])) (fun _ k => XS.icmpYes X0.here hx rfl (pc0 := 66) (pc' := 73) rfl (hb hby d1_66) rfl (by decide) (by decide) (by decide) k) ?_
  refine own_step (W' := s₁.setTop (mkF m 74 #[.val (.int (13 : Int32))] [(.int (13 : Int32))])) (fun _ k => XS.iloadN X0.here hx rfl (hb hby d1_73) rfl k) ?_
  refine own_step (W' := s₁.setTop (mkF m 76 #[.val (.int (13 : Int32))] [(.int (8 : Int32)), (.int (13 : Int32))])) (fun _ k => XS.bipush X0.here hx rfl (hb hby d1_74) k) ?_
  refine own_step (W' := s₁.setTop (mkF m 83 #[.val (.int (13 : Int32))] [])) (fun _ k => XS.icmpYes X0.here hx rfl (pc0 := 76) (pc' := 83) rfl (hb hby d1_76) rfl (by decide) (by decide) (by decide) k) ?_
  refine own_step (W' := s₁.setTop (mkF m 84 #[.val (.int (13 : Int32))] [(.int (13 : Int32))])) (fun _ k => XS.iloadN X0.here hx rfl (hb hby d1_83) rfl k) ?_
  refine own_step (W' := s₁.setTop (mkF m 86 #[.val (.int (13 : Int32))] [(.int (9 : Int32)), (.int (13 : Int32))])) (fun _ k => XS.bipush X0.here hx rfl (hb hby d1_84) k) ?_
  refine own_step (W' := s₁.setTop (mkF m 93 #[.val (.int (13 : Int32))] [])) (fun _ k => XS.icmpYes X0.here hx rfl (pc0 := 86) (pc' := 93) rfl (hb hby d1_86) rfl (by decide) (by decide) (by decide) k) ?_
  refine own_step (W' := s₁.setTop (mkF m 94 #[.val (.int (13 : Int32))] [(.int (13 : Int32))])) (fun _ k => XS.iloadN X0.here hx rfl (hb hby d1_93) rfl k) ?_
  refine own_step (W' := s₁.setTop (mkF m 96 #[.val (.int (13 : Int32))] [(.int (10 : Int32)), (.int (13 : Int32))])) (fun _ k => XS.bipush X0.here hx rfl (hb hby d1_94) k) ?_
  refine own_step (W' := s₁.setTop (mkF m 103 #[.val (.int (13 : Int32))] [])) (fun _ k => XS.icmpYes X0.here hx rfl (pc0 := 96) (pc' := 103) rfl (hb hby d1_96) rfl (by decide) (by decide) (by decide) k) ?_
  refine own_step (W' := s₁.setTop (mkF m 104 #[.val (.int (13 : Int32))] [(.int (13 : Int32))])) (fun _ k => XS.iloadN X0.here hx rfl (hb hby d1_103) rfl k) ?_
  refine own_step (W' := s₁.setTop (mkF m 106 #[.val (.int (13 : Int32))] [(.int (11 : Int32)), (.int (13 : Int32))])) (fun _ k => XS.bipush X0.here hx rfl (hb hby d1_104) k) ?_
  refine own_step (W' := s₁.setTop (mkF m 113 #[.val (.int (13 : Int32))] [])) (fun _ k => XS.icmpYes X0.here hx rfl (pc0 := 106) (pc' := 113) rfl (hb hby d1_106) rfl (by decide) (by decide) (by decide) k) ?_
  refine own_step (W' := s₁.setTop (mkF m 114 #[.val (.int (13 : Int32))] [(.int (13 : Int32))])) (fun _ k => XS.iloadN X0.here hx rfl (hb hby d1_113) rfl k) ?_
  refine own_step (W' := s₁.setTop (mkF m 116 #[.val (.int (13 : Int32))] [(.int (12 : Int32)), (.int (13 : Int32))])) (fun _ k => XS.bipush X0.here hx rfl (hb hby d1_114) k) ?_
  refine own_step (W' := s₁.setTop (mkF m 123 #[.val (.int (13 : Int32))] [])) (fun _ k => XS.icmpYes X0.here hx rfl (pc0 := 116) (pc' := 123) rfl (hb hby d1_116) rfl (by decide) (by decide) (by decide) k) ?_
  obtain ⟨T1, X1, e1, st1⟩ := getS2 X0 hx hZ hown (host := "") (Or.inl (hw _ (List.mem_of_getElem? (i := 19) rfl))) Via.refl e0 (pin_S3 P) (g := (mkF m 123 #[.val (.int (13 : Int32))] [])) rfl (hb hby d1_123)
  refine own_step (W' := T1.setTop (mkF m 126 #[.val (.int (13 : Int32))] [(.ref (w 3))])) (fun _ k => st1 _ k) ?_
  exact own_ret X1 Bd.notSynchronized Bd.returns (v := (.ref (w 3))) (fun fs hr => retOut X1 hx Bd.returns rfl (Or.inr (Or.inr (Or.inr (Or.inr ⟨rfl, rfl, rfl⟩)))) (hb hby d1_126) hr) ⟨rfl, N0, e1⟩ (by decide) (by decide)
set_option maxRecDepth 65536 in
set_option maxHeartbeats 40000000 in
theorem rm2_w3 (l : Launch) (Z : State) (a0 : Array Value) (hw : ∀ d ∈ tables_1, d.before a0 Z = true) (ws : List Jvm.Cond) (w : Nat → Addr) (h0 : Heap) (n0 : Nat) (Z0 : n0 ≤ h0.size) (P : Pins Z h0 w) :
    MetFree l (⟨"com/example/punctual_proof/punctualproof/network/BinaryOperator", "isComparison", "()Z"⟩ : MethodName) (head1 (Jvm.Cond.code (⟨"com/example/punctual_proof/punctualproof/network/BinaryOperator", "isComparison", "()Z"⟩ : MethodName) prog_59_method_8_code 1 (some .boolean) :: ws) ({ frames := 0, cells := 0, slots := 0, locals := 0 } : Room)) (fun a U => a = #[(.ref (w 3))] ∧ Z.Warmed39 U.vm ∧ U.heap = h0) (fun _ _ _ _ _ => True) (fun _ U o U' => ∃ v L, o = .returned v ∧ own_QK (some (.int (0 : Int32))) h0 n0 v U'.heap L ∧ FrameEnd U o U' L ({ frames := 0, cells := 0, slots := 0, locals := 0 } : Room).cells ({ frames := 0, cells := 0, slots := 0, locals := 0 } : Room).slots) := by
  refine MetFree.of_bodySF (plainFor_of_name pn_com_example_punctual_proof_punctualproof_network_BinaryOperator) hisR ?_
  intro p e s m args below meth c s₁ Bd hml0 hP hK
  obtain ⟨rfl, hZ, hh⟩ := hP
  have hx := Bd.exec
  have hby := Bd.bytes
  have hml : c.maxLocals = 1 := hml0
  have hown : s.vm.findClass "com/example/punctual_proof/punctualproof/network/BinaryOperator" = some m.cls := findClass_of_methodNamed Bd.named
  have hnm := (name_of_methodNamed Bd.named Bd.method).1
  have X0 : Stand p l e ({ frames := 0, cells := 0, slots := 0, locals := 0 } : Room) s m #[(.ref (w 3))] below meth c s₁ [] 0 0 := Stand.of_body Bd
  have e0 : s₁.heap = h0 := by rw [← hh, Bd.state]; rfl
  have N0 := Fr.nil n0
  refine own_enter (ef_2_R m (w 3)) ?_
  refine own_step (W' := s₁.setTop (mkF m 1 #[.val (.ref (w 3))] [(.ref (w 3))])) (fun _ k => XS.aloadN X0.here hx rfl (hb hby d2_0) rfl rfl k) ?_
  obtain ⟨T1, X1, e1, st1⟩ := getF X0 hx hZ hown (host := "") (Or.inl (hw _ (List.mem_of_getElem? (i := 13) rfl))) Via.refl e0 (pin_F3_precedence P) (g := (mkF m 1 #[.val (.ref (w 3))] [(.ref (w 3))])) rfl rfl (hb hby d2_1)
  refine own_step (W' := T1.setTop (mkF m 4 #[.val (.ref (w 3))] [(.int (7 : Int32))])) (fun _ k => st1 _ k) ?_
  refine own_step (W' := T1.setTop (mkF m 5 #[.val (.ref (w 3))] [(.int (5 : Int32)), (.int (7 : Int32))])) (fun _ k => XS.iconst X1.here hx rfl (hb hby d2_4) k) ?_
  refine own_step (W' := T1.setTop (mkF m 12 #[.val (.ref (w 3))] [])) (fun _ k => XS.icmpYes X1.here hx rfl (pc0 := 5) (pc' := 12) rfl (hb hby d2_5) rfl (by decide) (by decide) (by decide) k) ?_
  refine own_step (W' := T1.setTop (mkF m 13 #[.val (.ref (w 3))] [(.int (0 : Int32))])) (fun _ k => XS.iconst X1.here hx rfl (hb hby d2_12) k) ?_
  exact own_ret X1 Bd.notSynchronized Bd.returns (v := (.int (0 : Int32))) (fun fs hr => retN X1 hx (t := .boolean) Bd.returns (by simp) (hb hby d2_13) hr) ⟨rfl, N0, e1⟩ (by decide) (by decide)
set_option maxRecDepth 65536 in
set_option maxHeartbeats 40000000 in
theorem rm0_13 (l : Launch) (Z : State) (a0 : Array Value) (hw : ∀ d ∈ tables_1, d.before a0 Z = true) (ws : List Jvm.Cond) (p1 : Int32) (hk : ((p1 &&& (2147483647 : Int32)) % (14 : Int32)) = (13 : Int32)) (w : Nat → Addr) (h0 : Heap) (n0 : Nat) (Z0 : n0 ≤ h0.size) (P : Pins Z h0 w) :
    MetFree l x (head1 (Jvm.Cond.code x code maxLocals ret :: ws) room_1) (fun a U => a = #[(.int p1)] ∧ Z.Warmed39 U.vm ∧ U.heap = h0) (fun _ _ _ _ _ => True) (fun _ U o U' => ∃ v L, o = .returned v ∧ own_Q0 n0 v U'.heap L ∧ FrameEnd U o U' L room_1.cells room_1.slots) := by
  refine MetFree.of_bodySF (plainFor_of_name pn_com_example_punctual_proof_punctualproof_network_BinaryOperatorIsComparisonPinLaw) hisR ?_
  intro p e s m args below meth c s₁ Bd hml0 hP hK
  obtain ⟨rfl, hZ, hh⟩ := hP
  have hx := Bd.exec
  have hby := Bd.bytes
  have hml : c.maxLocals = 4 := hml0
  have hown : s.vm.findClass "com/example/punctual_proof/punctualproof/network/BinaryOperatorIsComparisonPinLaw" = some m.cls := findClass_of_methodNamed Bd.named
  have hnm := (name_of_methodNamed Bd.named Bd.method).1
  have X0 : Stand p l e room_1 s m #[(.int p1)] below meth c s₁ [] 0 0 := Stand.of_body Bd
  have e0 : s₁.heap = h0 := by rw [← hh, Bd.state]; rfl
  have N0 := Fr.nil n0
  refine own_enter (ef_0_I m p1) ?_
  refine own_step (W' := s₁.setTop (mkF m 1 #[.val (.int p1), .unset, .unset, .unset] [(.int p1)])) (fun _ k => XS.iloadN X0.here hx rfl (hb hby at_0) rfl k) ?_
  refine own_step (W' := s₁.setTop (mkF m 3 #[.val (.int p1), .unset, .unset, .unset] [(.int (2147483647 : Int32)), (.int p1)])) (fun _ k => X0.ldcInt hx hown (mvT hZ (hw _ (List.mem_of_getElem? (i := 0) rfl))) (g := (mkF m 1 #[.val (.int p1), .unset, .unset, .unset] [(.int p1)])) rfl (hb hby at_1) _ k) ?_
  refine own_step (W' := s₁.setTop (mkF m 4 #[.val (.int p1), .unset, .unset, .unset] [(.int (p1 &&& (2147483647 : Int32)))])) (fun _ k => XS.iand X0.here hx rfl (hb hby at_3) rfl k) ?_
  refine own_step (W' := s₁.setTop (mkF m 6 #[.val (.int p1), .unset, .unset, .unset] [(.int (14 : Int32)), (.int (p1 &&& (2147483647 : Int32)))])) (fun _ k => XS.bipush X0.here hx rfl (hb hby at_4) k) ?_
  refine own_step (W' := s₁.setTop (mkF m 7 #[.val (.int p1), .unset, .unset, .unset] [(.int ((p1 &&& (2147483647 : Int32)) % (14 : Int32)))])) (fun _ k => iremM X0 hx rfl (hb hby at_6) rfl (by decide) k) ?_
  rw [hk]
  refine own_step (W' := s₁.setTop (mkF m 8 #[.val (.int p1), .val (.int (13 : Int32)), .unset, .unset] [])) (fun _ k => XS.istoreN X0.here hx rfl (hb hby at_7) rfl (l' := #[.val (.int p1), .val (.int (13 : Int32)), .unset, .unset]) rfl k) ?_
  refine own_step (W' := s₁.setTop (mkF m 9 #[.val (.int p1), .val (.int (13 : Int32)), .unset, .unset] [(.int (13 : Int32))])) (fun _ k => XS.iloadN X0.here hx rfl (hb hby at_8) rfl k) ?_
  obtain ⟨_, _, ⟨T1, L1, k1, n1⟩, -, X1, ⟨Lc1, hQ1, l1, y1, z1⟩, st1⟩ := Jvm.LawKit.callS X0 hx (y := (⟨"com/example/punctual_proof/punctualproof/network/BinaryOperatorIsComparisonPinLaw", "pick", "(I)Lcom/example/punctual_proof/punctualproof/network/BinaryOperator;"⟩ : MethodName)) hown (mvT hZ (hw _ (List.mem_of_getElem? (i := 1) rfl))) (mvT hZ (hw _ (List.mem_of_getElem? (i := 2) rfl))) (mvT hZ (hw _ (List.mem_of_getElem? (i := 3) rfl))) (mvT hZ (hw _ (List.mem_of_getElem? (i := 4) rfl))) (by decide) (backOf (W := 0) (rm1_13 l Z a0 hw [] w h0 n0 Z0 P) hZ (hw _ (List.mem_of_getElem? (i := 4) rfl)) (hw _ (List.mem_of_getElem? (i := 3) rfl)) (by decide) (by decide)) (g := (mkF m 9 #[.val (.int p1), .val (.int (13 : Int32)), .unset, .unset] [(.int (13 : Int32))])) rfl (by rw [hml]; rfl) (argsL := [(.int (13 : Int32))]) (rest := []) (lenOf pd_0 rfl) rfl (by show 2 * 0 + _ ≤ _; exact Nat.le_of_eq rfl) (hb hby at_9) (fun _ _ => ⟨rfl, e0, (by decide : 0 + 0 ≤ _), (by decide : 0 + 0 ≤ _)⟩)
  dsimp only [Pt.U, Pt.locs, Pt.cells, Pt.slots] at X1 l1 y1 z1 st1 hQ1
  subst l1 y1 z1
  obtain ⟨rfl, N1q, e1⟩ := hQ1
  have N1 := Fr.app N0 N1q
  refine own_step (W' := T1.setTop (mkF m 12 #[.val (.int p1), .val (.int (13 : Int32)), .unset, .unset] [(.ref (w 3))])) (fun _ k => st1 _ k) ?_
  refine own_step (W' := T1.setTop (mkF m 13 #[.val (.int p1), .val (.int (13 : Int32)), .val (.ref (w 3)), .unset] [])) (fun _ k => XS.astoreN X1.here hx rfl (hb hby at_12) rfl rfl (l' := #[.val (.int p1), .val (.int (13 : Int32)), .val (.ref (w 3)), .unset]) rfl k) ?_
  refine own_step (W' := T1.setTop (mkF m 14 #[.val (.int p1), .val (.int (13 : Int32)), .val (.ref (w 3)), .unset] [(.int (13 : Int32))])) (fun _ k => XS.iloadN X1.here hx rfl (hb hby at_13) rfl k) ?_
  refine own_step (W' := T1.setTop (mkF m 15 #[.val (.int p1), .val (.int (13 : Int32)), .val (.ref (w 3)), .unset] [(.int (3 : Int32)), (.int (13 : Int32))])) (fun _ k => XS.iconst X1.here hx rfl (hb hby at_14) k) ?_
  refine own_step (W' := T1.setTop (mkF m 18 #[.val (.int p1), .val (.int (13 : Int32)), .val (.ref (w 3)), .unset] [])) (fun _ k => XS.icmpNo X1.here hx rfl (hb hby at_15) rfl (by decide) k) ?_
  refine own_step (W' := T1.setTop (mkF m 19 #[.val (.int p1), .val (.int (13 : Int32)), .val (.ref (w 3)), .unset] [(.int (13 : Int32))])) (fun _ k => XS.iloadN X1.here hx rfl (hb hby at_18) rfl k) ?_
  refine own_step (W' := T1.setTop (mkF m 20 #[.val (.int p1), .val (.int (13 : Int32)), .val (.ref (w 3)), .unset] [(.int (4 : Int32)), (.int (13 : Int32))])) (fun _ k => XS.iconst X1.here hx rfl (hb hby at_19) k) ?_
  refine own_step (W' := T1.setTop (mkF m 23 #[.val (.int p1), .val (.int (13 : Int32)), .val (.ref (w 3)), .unset] [])) (fun _ k => XS.icmpNo X1.here hx rfl (hb hby at_20) rfl (by decide) k) ?_
  refine own_step (W' := T1.setTop (mkF m 24 #[.val (.int p1), .val (.int (13 : Int32)), .val (.ref (w 3)), .unset] [(.int (13 : Int32))])) (fun _ k => XS.iloadN X1.here hx rfl (hb hby at_23) rfl k) ?_
  refine own_step (W' := T1.setTop (mkF m 25 #[.val (.int p1), .val (.int (13 : Int32)), .val (.ref (w 3)), .unset] [(.int (5 : Int32)), (.int (13 : Int32))])) (fun _ k => XS.iconst X1.here hx rfl (hb hby at_24) k) ?_
  refine own_step (W' := T1.setTop (mkF m 28 #[.val (.int p1), .val (.int (13 : Int32)), .val (.ref (w 3)), .unset] [])) (fun _ k => XS.icmpNo X1.here hx rfl (hb hby at_25) rfl (by decide) k) ?_
  refine own_step (W' := T1.setTop (mkF m 29 #[.val (.int p1), .val (.int (13 : Int32)), .val (.ref (w 3)), .unset] [(.int (13 : Int32))])) (fun _ k => XS.iloadN X1.here hx rfl (hb hby at_28) rfl k) ?_
  refine own_step (W' := T1.setTop (mkF m 31 #[.val (.int p1), .val (.int (13 : Int32)), .val (.ref (w 3)), .unset] [(.int (6 : Int32)), (.int (13 : Int32))])) (fun _ k => XS.bipush X1.here hx rfl (hb hby at_29) k) ?_
  refine own_step (W' := T1.setTop (mkF m 34 #[.val (.int p1), .val (.int (13 : Int32)), .val (.ref (w 3)), .unset] [])) (fun _ k => XS.icmpNo X1.here hx rfl (hb hby at_31) rfl (by decide) k) ?_
  refine own_step (W' := T1.setTop (mkF m 35 #[.val (.int p1), .val (.int (13 : Int32)), .val (.ref (w 3)), .unset] [(.int (13 : Int32))])) (fun _ k => XS.iloadN X1.here hx rfl (hb hby at_34) rfl k) ?_
  refine own_step (W' := T1.setTop (mkF m 37 #[.val (.int p1), .val (.int (13 : Int32)), .val (.ref (w 3)), .unset] [(.int (7 : Int32)), (.int (13 : Int32))])) (fun _ k => XS.bipush X1.here hx rfl (hb hby at_35) k) ?_
  refine own_step (W' := T1.setTop (mkF m 40 #[.val (.int p1), .val (.int (13 : Int32)), .val (.ref (w 3)), .unset] [])) (fun _ k => XS.icmpNo X1.here hx rfl (hb hby at_37) rfl (by decide) k) ?_
  refine own_step (W' := T1.setTop (mkF m 41 #[.val (.int p1), .val (.int (13 : Int32)), .val (.ref (w 3)), .unset] [(.int (13 : Int32))])) (fun _ k => XS.iloadN X1.here hx rfl (hb hby at_40) rfl k) ?_
  refine own_step (W' := T1.setTop (mkF m 43 #[.val (.int p1), .val (.int (13 : Int32)), .val (.ref (w 3)), .unset] [(.int (8 : Int32)), (.int (13 : Int32))])) (fun _ k => XS.bipush X1.here hx rfl (hb hby at_41) k) ?_
  refine own_step (W' := T1.setTop (mkF m 50 #[.val (.int p1), .val (.int (13 : Int32)), .val (.ref (w 3)), .unset] [])) (fun _ k => XS.icmpYes X1.here hx rfl (pc0 := 43) (pc' := 50) rfl (hb hby at_43) rfl (by decide) (by decide) (by decide) k) ?_
  refine own_step (W' := T1.setTop (mkF m 51 #[.val (.int p1), .val (.int (13 : Int32)), .val (.ref (w 3)), .unset] [(.int (0 : Int32))])) (fun _ k => XS.iconst X1.here hx rfl (hb hby at_50) k) ?_
  refine own_step (W' := T1.setTop (mkF m 52 #[.val (.int p1), .val (.int (13 : Int32)), .val (.ref (w 3)), .val (.int (0 : Int32))] [])) (fun _ k => XS.istoreN X1.here hx rfl (hb hby at_51) rfl (l' := #[.val (.int p1), .val (.int (13 : Int32)), .val (.ref (w 3)), .val (.int (0 : Int32))]) rfl k) ?_
  refine own_step (W' := T1.setTop (mkF m 53 #[.val (.int p1), .val (.int (13 : Int32)), .val (.ref (w 3)), .val (.int (0 : Int32))] [(.ref (w 3))])) (fun _ k => XS.aloadN X1.here hx rfl (hb hby at_52) rfl rfl k) ?_
  obtain ⟨cq2, kq2, q2a, q2b, q2c⟩ := isOf hZ e1 (pin_E3 P)
  obtain ⟨_, _, ⟨T2, L2, k2, n2⟩, -, X2, ⟨Lc2, hQ2, l2, y2, z2⟩, st2⟩ := X1.virtualBack hx (y := (⟨"com/example/punctual_proof/punctualproof/network/BinaryOperator", "isComparison", "()Z"⟩ : MethodName)) (z := (⟨"com/example/punctual_proof/punctualproof/network/BinaryOperator", "isComparison", "()Z"⟩ : MethodName)) hown (mvT hZ (hw _ (List.mem_of_getElem? (i := 8) rfl))) (mvT hZ (hw _ (List.mem_of_getElem? (i := 9) rfl))) (notFace_of_selects (args := #[]) (mvT hZ (hw _ (List.mem_of_getElem? (i := 11) rfl)))) (mvT hZ (hw _ (List.mem_of_getElem? (i := 11) rfl))) (mvT hZ (hw _ (List.mem_of_getElem? (i := 10) rfl))) (by decide) (backOf (W := 0) (rm2_w3 l Z a0 hw [] w h0 n0 Z0 P) hZ (hw _ (List.mem_of_getElem? (i := 12) rfl)) (hw _ (List.mem_of_getElem? (i := 6) rfl)) (by decide) (by decide)) q2a q2c (g := (mkF m 53 #[.val (.int p1), .val (.int (13 : Int32)), .val (.ref (w 3)), .val (.int (0 : Int32))] [(.ref (w 3))])) rfl (by rw [hml]; rfl) (Steps.refl _) (argsL := []) (rest := []) (lenOf pd_1 rfl) rfl (by show 2 * 0 + _ ≤ _; exact Nat.le_of_eq rfl) (hb hby at_53) (fun _ _ => ⟨rfl, e1, (by decide : 0 + 0 ≤ _), (by decide : 0 + 0 ≤ _)⟩)
  dsimp only [Pt.U, Pt.locs, Pt.cells, Pt.slots] at X2 l2 y2 z2 st2 hQ2
  subst l2 y2 z2
  obtain ⟨rfl, N2q, e2⟩ := hQ2
  have N2 := Fr.app N1 N2q
  refine own_step (W' := T2.setTop (mkF m 56 #[.val (.int p1), .val (.int (13 : Int32)), .val (.ref (w 3)), .val (.int (0 : Int32))] [(.int (0 : Int32))])) (fun _ k => st2.trans k) ?_
  refine own_step (W' := T2.setTop (mkF m 57 #[.val (.int p1), .val (.int (13 : Int32)), .val (.ref (w 3)), .val (.int (0 : Int32))] [(.int (0 : Int32)), (.int (0 : Int32))])) (fun _ k => XS.iloadN X2.here hx rfl (hb hby at_56) rfl k) ?_
  refine own_step (W' := T2.setTop (mkF m 60 #[.val (.int p1), .val (.int (13 : Int32)), .val (.ref (w 3)), .val (.int (0 : Int32))] [])) (fun _ k => XS.icmpNo X2.here hx rfl (hb hby at_57) rfl (by decide) k) ?_
  refine own_step (W' := T2.setTop (mkF m 61 #[.val (.int p1), .val (.int (13 : Int32)), .val (.ref (w 3)), .val (.int (0 : Int32))] [(.int (1 : Int32))])) (fun _ k => XS.iconst X2.here hx rfl (hb hby at_60) k) ?_
  refine own_step (W' := T2.setTop (mkF m 65 #[.val (.int p1), .val (.int (13 : Int32)), .val (.ref (w 3)), .val (.int (0 : Int32))] [(.int (1 : Int32))])) (fun _ k => XS.goto X2.here hx rfl (pc0 := 61) (pc' := 65) rfl (hb hby at_61) (by decide) (by decide) k) ?_
  exact own_ret X2 Bd.notSynchronized Bd.returns (v := (.int (1 : Int32))) (fun fs hr => retN X2 hx (t := .boolean) Bd.returns (by simp) (hb hby at_65) hr) ⟨rfl, N2⟩ (by decide) (by decide)
theorem rm0 (l : Launch) (Z : State) (a0 : Array Value) (hw : ∀ d ∈ tables_1, d.before a0 Z = true) (ws : List Jvm.Cond) (p1 : Int32) (w : Nat → Addr) (h0 : Heap) (n0 : Nat) (Z0 : n0 ≤ h0.size) (P : Pins Z h0 w) :
    MetFree l x (head1 (Jvm.Cond.code x code maxLocals ret :: ws) room_1) (fun a U => a = #[(.int p1)] ∧ Z.Warmed39 U.vm ∧ U.heap = h0) (fun _ _ _ _ _ => True) (fun _ U o U' => ∃ v L, o = .returned v ∧ own_Q0 n0 v U'.heap L ∧ FrameEnd U o U' L room_1.cells room_1.slots) := by
  rcases own_m14 p1 with hk | hk | hk | hk | hk | hk | hk | hk | hk | hk | hk | hk | hk | hk
  · exact rm0_0 l Z a0 hw ws p1 hk w h0 n0 Z0 P
  · exact rm0_1 l Z a0 hw ws p1 hk w h0 n0 Z0 P
  · exact rm0_2 l Z a0 hw ws p1 hk w h0 n0 Z0 P
  · exact rm0_3 l Z a0 hw ws p1 hk w h0 n0 Z0 P
  · exact rm0_4 l Z a0 hw ws p1 hk w h0 n0 Z0 P
  · exact rm0_5 l Z a0 hw ws p1 hk w h0 n0 Z0 P
  · exact rm0_6 l Z a0 hw ws p1 hk w h0 n0 Z0 P
  · exact rm0_7 l Z a0 hw ws p1 hk w h0 n0 Z0 P
  · exact rm0_8 l Z a0 hw ws p1 hk w h0 n0 Z0 P
  · exact rm0_9 l Z a0 hw ws p1 hk w h0 n0 Z0 P
  · exact rm0_10 l Z a0 hw ws p1 hk w h0 n0 Z0 P
  · exact rm0_11 l Z a0 hw ws p1 hk w h0 n0 Z0 P
  · exact rm0_12 l Z a0 hw ws p1 hk w h0 n0 Z0 P
  · exact rm0_13 l Z a0 hw ws p1 hk w h0 n0 Z0 P
set_option maxRecDepth 65536 in
set_option maxHeartbeats 40000000 in
theorem comes_1 {Post : Tables → Env → Array Value → State → Outcome → State → Prop} (hpost : ∀ tb e args s v u, (limb_1_1.after args s (.returned v) u = true ∧ limb_1_2.after args s (.returned v) u = true ∧ True) → FrameEnd s (.returned v) u (Jvm.fieldLocs frame_1_writes args s ++ Jvm.arrayLocs frame_1_arrays args s ++ Jvm.staticLocs frame_1_statics s) 0 0 → Post tb e args s (.returned v) u) :
    ArmFor flags0 classFile x code maxLocals ret World_1 tables_1 room_1 Calls_1 rest_1 Pre_1 Post := by
  intro l hfl _ _ p e ha hc hk s m args below hf hA hF happ hP
  obtain ⟨hcalls, hrest, hpre⟩ := hP
  obtain ⟨-, -, -, hnamed, -, -, -, hat⟩ := (Spec.applies_iff hf).mp happ
  obtain ⟨hg, hn⟩ := and_e (Cond.before_iff.mp (show (Jvm.Cond.and given_1 narrow_1).before args s = true from hpre))
  obtain ⟨gc, hg⟩ := and_e hg
  obtain ⟨w0, rfl⟩ : ∃ w0 : Value, args = #[w0] := by
    have hs : args.size = 1 := by simpa [Cond.value, given_1] using gc
    obtain ⟨L⟩ := args
    match L, hs with
    | [w0], _ => exact ⟨w0, rfl⟩
  have hw := fun d (hd : d ∈ tables_1) => atoms_spec (ws := Jvm.Cond.code x code maxLocals ret :: tables_1) hat d (List.mem_cons_of_mem _ hd)
  obtain ⟨i0, ei0⟩ := is_v hg
  obtain rfl : w0 = (.int i0) := Option.some.inj ei0
  obtain ⟨w, P⟩ := own_pins hw hn
  obtain ⟨n, o, h1, h2, h3, _, L, rfl, ⟨rfl, N⟩, hq⟩ := rm0 l s _ hw tables_1 i0 w s.heap s.heap.size (Nat.le_refl _) P p e ha hc hk s m _ below hf ((Spec.applies_iff_loose hf).mp happ).1 ⟨rfl, State.Warmed39.refl s, rfl⟩ trivial
  refine ⟨n, _, h1, h2, h3, hpost _ _ _ _ _ _ ⟨Cond.after_iff.mpr rfl, Cond.after_iff.mpr (eq_i res_at (Term.int_eval (1)) rfl), trivial⟩ ⟨hq.1, hq.2.1, (hq.2.2.sift fun y hy => Or.inr (N y hy)).mono (by decide) (by decide)⟩⟩
theorem main_1_1 : Claimed_1_1 := comes_1 fun _ _ _ _ _ _ h hF => ⟨h.1, hF⟩
theorem main_1_2 : Claimed_1_2 := comes_1 fun _ _ _ _ _ _ h hF => ⟨h.2.1, hF⟩
end Jvm.Pilot.@@N@@
namespace Jvm.Pilot.@@N@@
open Jvm Jvm.ClassFile Sem Op Lib Jvm.Free Jvm.Stand Jvm.Pilot.@@N@@.Jvm.D
/-! MADE BY PROGRAM (witnessworld.py) out of the Statement's table words and the real class files: 12 classes; the members and pool entries that the words name. The judged class is class 1, her method 1. -/
namespace start1
open Jvm.ClassFile
def u (s : String) : CpInfo := .utf8 (stringToUtf16 s)
/-- a pool by its gaps: so many unusable entries, then the entry; so many at the end -/
def gap : Nat → List CpInfo → List CpInfo
  | 0, r => r
  | n + 1, r => .unusable :: gap n r
def poolList (es : List (Nat × CpInfo)) (last : Nat) : List CpInfo := es.foldr (fun e r => gap e.1 (e.2 :: r)) (gap last [])
def pool (es : List (Nat × CpInfo)) (last : Nat) : Array CpInfo := ⟨poolList es last⟩
def fileOf (pool : Array CpInfo) (this : Nat) (attrs : Array Attribute := #[]) (ms : Array MethodInfo := #[]) (fl : Nat := 33) (sup : Nat := 0) (ifs : Array Nat := #[]) (fds : Array FieldInfo := #[]) : ClassFile where
  minorVersion := 0
  majorVersion := 65
  constantPool := pool
  accessFlags := fl
  thisClass := this
  superClass := sup
  interfaces := ifs
  fields := fds
  methods := ms
  attributes := attrs
def plain (name : String) (sup : Option ClassId) : Class where
  name := name
  kind := .ordinary
  loader := none
  accessFlags := 33
  super := sup
  interfaces := #[]
  cf := none
  fields := #[]
  methods := #[]
  instanceTypes := #[]
  staticTypes := #[]
  resolved := #[]
  callSites := []
  init := .initialized
  statics := none
  mirror := none

def pool0 : Array CpInfo := pool [(5, u "<init>"), (0, u "()V"), (1, .class_ 10), (1, u "java/lang/Object")] 113

def k0m0 : Method := { name := "<init>", desc := "()V", sig := { parameters := [], returnType := none }, accessFlags := 1, code := none }
/-- java/lang/Object -/
def k0 : Class := { plain "java/lang/Object" none with
  accessFlags := 33
  interfaces := #[]
  cf := some (fileOf pool0 8 #[] #[{ accessFlags := 1, nameIndex := 5, descriptorIndex := 6, attributes := #[] }] 33 0 #[] #[])
  fields := #[]
  methods := #[k0m0]
  instanceTypes := #[]
  staticTypes := #[]
  resolved := Array.replicate 124 none
  statics := none }

def pool1 : Array CpInfo := pool [(2, .class_ 4), (1, u "java/lang/Object"), (0, u "<init>"), (0, u "()V"), (0, .integer 2147483647), (0, .methodref 9 10), (0, .class_ 11), (0, .nameAndType 12 13), (0, u "com/example/punctual_proof/punctualproof/network/BinaryOperatorIsComparisonPinLaw"), (0, u "pick"), (0, u "(I)Lcom/example/punctual_proof/punctualproof/network/BinaryOperator;"), (0, .methodref 15 16), (0, .class_ 17), (0, .nameAndType 18 19), (0, u "com/example/punctual_proof/punctualproof/network/BinaryOperator"), (0, u "isComparison"), (0, u "()Z"), (0, .fieldref 15 21), (0, .nameAndType 22 23), (0, u "IMPLY"), (0, u "Lcom/example/punctual_proof/punctualproof/network/BinaryOperator;"), (0, .fieldref 15 25), (0, .nameAndType 26 23), (0, u "OR"), (0, .fieldref 15 28), (0, .nameAndType 29 23), (0, u "AND"), (0, .fieldref 15 31), (0, .nameAndType 32 23), (0, u "EQUAL"), (0, .fieldref 15 34), (0, .nameAndType 35 23), (0, u "NOT_EQUAL"), (0, .fieldref 15 37), (0, .nameAndType 38 23), (0, u "LESS"), (0, .fieldref 15 40), (0, .nameAndType 41 23), (0, u "LESS_EQUAL"), (0, .fieldref 15 43), (0, .nameAndType 44 23), (0, u "GREATER_EQUAL"), (0, .fieldref 15 46), (0, .nameAndType 47 23), (0, u "GREATER"), (0, .fieldref 15 49), (0, .nameAndType 50 23), (0, u "ADD"), (0, .fieldref 15 52), (0, .nameAndType 53 23), (0, u "SUBTRACT"), (0, .fieldref 15 55), (0, .nameAndType 56 23), (0, u "MULTIPLY"), (0, .fieldref 15 58), (0, .nameAndType 59 23), (0, u "DIVIDE"), (0, .fieldref 15 61), (0, .nameAndType 62 23), (0, u "REMAINDER"), (2, u "law"), (0, u "(I)Z")] 3

def k1m0 : Method := { name := "<init>", desc := "()V", sig := { parameters := [], returnType := none }, accessFlags := 1, code := none }
def k1c1 : Code := { maxStack := 2, maxLocals := 4, code := code, exceptionTable := #[], attributes := #[] }
def k1m1 : Method := { name := "law", desc := "(I)Z", sig := { parameters := [.int], returnType := some .boolean }, accessFlags := 9, code := some k1c1 }
def k1c2 : Code := { maxStack := 2, maxLocals := 1, code := method_3_code, exceptionTable := #[], attributes := #[] }
def k1m2 : Method := { name := "pick", desc := "(I)Lcom/example/punctual_proof/punctualproof/network/BinaryOperator;", sig := { parameters := [.int], returnType := some (.object "com/example/punctual_proof/punctualproof/network/BinaryOperator") }, accessFlags := 10, code := some k1c2 }
/-- com/example/punctual_proof/punctualproof/network/BinaryOperatorIsComparisonPinLaw -/
def k1 : Class := { plain "com/example/punctual_proof/punctualproof/network/BinaryOperatorIsComparisonPinLaw" (some 0) with
  accessFlags := 49
  interfaces := #[]
  cf := some (fileOf pool1 9 #[] #[{ accessFlags := 1, nameIndex := 5, descriptorIndex := 6, attributes := #[] }, { accessFlags := 9, nameIndex := 65, descriptorIndex := 66, attributes := #[] }, { accessFlags := 10, nameIndex := 12, descriptorIndex := 13, attributes := #[] }] 49 2 #[] #[])
  fields := #[]
  methods := #[k1m0, k1m1, k1m2]
  instanceTypes := #[]
  staticTypes := #[]
  resolved := Array.replicate 70 none
  statics := none }

def pool2 : Array CpInfo := pool [(1, .class_ 2), (0, u "java/lang/constant/Constable"), (0, .class_ 4), (0, u "java/lang/Object")] 6

/-- java/lang/constant/Constable -/
def k2 : Class := { plain "java/lang/constant/Constable" (some 0) with
  accessFlags := 1537
  interfaces := #[]
  cf := some (fileOf pool2 1 #[] #[] 1537 3 #[] #[])
  fields := #[]
  methods := #[]
  instanceTypes := #[]
  staticTypes := #[]
  resolved := Array.replicate 11 none
  statics := none }

def pool3 : Array CpInfo := pool [(1, .class_ 2), (0, u "java/lang/Comparable"), (0, .class_ 4), (0, u "java/lang/Object")] 7

/-- java/lang/Comparable -/
def k3 : Class := { plain "java/lang/Comparable" (some 0) with
  accessFlags := 1537
  interfaces := #[]
  cf := some (fileOf pool3 1 #[] #[] 1537 3 #[] #[])
  fields := #[]
  methods := #[]
  instanceTypes := #[]
  staticTypes := #[]
  resolved := Array.replicate 12 none
  statics := none }

def pool4 : Array CpInfo := pool [(1, .class_ 2), (0, u "java/io/Serializable"), (0, .class_ 4), (0, u "java/lang/Object")] 2

/-- java/io/Serializable -/
def k4 : Class := { plain "java/io/Serializable" (some 0) with
  accessFlags := 1537
  interfaces := #[]
  cf := some (fileOf pool4 1 #[] #[] 1537 3 #[] #[])
  fields := #[]
  methods := #[]
  instanceTypes := #[]
  staticTypes := #[]
  resolved := Array.replicate 7 none
  statics := none }

def pool5 : Array CpInfo := pool [(2, .class_ 4), (1, u "java/lang/Enum"), (0, u "name"), (0, u "Ljava/lang/String;"), (2, u "ordinal"), (0, u "I"), (1, .class_ 14), (1, u "java/lang/Object"), (4, u "hash"), (86, .class_ 108), (1, u "java/lang/Enum$EnumDesc"), (2, .class_ 112), (0, u "java/lang/constant/Constable"), (0, .class_ 114), (0, u "java/lang/Comparable"), (0, .class_ 116), (0, u "java/io/Serializable")] 87

/-- java/lang/Enum -/
def k5 : Class := { plain "java/lang/Enum" (some 0) with
  accessFlags := 1057
  interfaces := #[2, 3, 4]
  cf := some (fileOf pool5 2 #[.nestMembers #[106]] #[] 1057 12 #[111, 113, 115] #[{ accessFlags := 18, nameIndex := 5, descriptorIndex := 6, attributes := #[] }, { accessFlags := 18, nameIndex := 9, descriptorIndex := 10, attributes := #[] }, { accessFlags := 2, nameIndex := 19, descriptorIndex := 10, attributes := #[] }])
  fields := #[{ name := "name", type := (.object "java/lang/String"), accessFlags := 18, slot := 0, constantValue := 0 }, { name := "ordinal", type := .int, accessFlags := 18, slot := 1, constantValue := 0 }, { name := "hash", type := .int, accessFlags := 2, slot := 2, constantValue := 0 }]
  methods := #[]
  instanceTypes := #[(.object "java/lang/String"), .int, .int]
  staticTypes := #[]
  resolved := Array.replicate 204 none
  statics := none }

def pool6 : Array CpInfo := pool [(1, .class_ 2), (0, u "com/example/punctual_proof/punctualproof/network/BinaryOperator"), (2, u "IMPLY"), (0, u "Lcom/example/punctual_proof/punctualproof/network/BinaryOperator;"), (2, u "OR"), (2, u "AND"), (2, u "EQUAL"), (2, u "NOT_EQUAL"), (2, u "LESS"), (2, u "LESS_EQUAL"), (2, u "GREATER_EQUAL"), (2, u "GREATER"), (2, u "ADD"), (2, u "SUBTRACT"), (2, u "MULTIPLY"), (2, u "DIVIDE"), (2, u "REMAINDER"), (2, u "$VALUES"), (0, u "[Lcom/example/punctual_proof/punctualproof/network/BinaryOperator;"), (6, .class_ 58), (1, u "java/lang/Enum"), (8, u "symbol"), (0, u "Ljava/lang/String;"), (2, u "keyword"), (0, .fieldref 1 73), (0, .nameAndType 74 75), (0, u "precedence"), (0, u "I"), (2, u "queryOnly"), (0, u "Z"), (119, u "COMPARISON_PRECEDENCE"), (11, u "()Z"), (0, u "isComparison")] 32

def k6c0 : Code := { maxStack := 2, maxLocals := 1, code := prog_59_method_8_code, exceptionTable := #[], attributes := #[] }
def k6m0 : Method := { name := "isComparison", desc := "()Z", sig := { parameters := [], returnType := some .boolean }, accessFlags := 1, code := some k6c0 }
/-- com/example/punctual_proof/punctualproof/network/BinaryOperator -/
def k6 : Class := { plain "com/example/punctual_proof/punctualproof/network/BinaryOperator" (some 5) with
  accessFlags := 16433
  interfaces := #[]
  cf := some (fileOf pool6 1 #[] #[{ accessFlags := 1, nameIndex := 212, descriptorIndex := 211, attributes := #[] }] 16433 56 #[] #[{ accessFlags := 16409, nameIndex := 5, descriptorIndex := 6, attributes := #[] }, { accessFlags := 16409, nameIndex := 9, descriptorIndex := 6, attributes := #[] }, { accessFlags := 16409, nameIndex := 12, descriptorIndex := 6, attributes := #[] }, { accessFlags := 16409, nameIndex := 15, descriptorIndex := 6, attributes := #[] }, { accessFlags := 16409, nameIndex := 18, descriptorIndex := 6, attributes := #[] }, { accessFlags := 16409, nameIndex := 21, descriptorIndex := 6, attributes := #[] }, { accessFlags := 16409, nameIndex := 24, descriptorIndex := 6, attributes := #[] }, { accessFlags := 16409, nameIndex := 27, descriptorIndex := 6, attributes := #[] }, { accessFlags := 16409, nameIndex := 30, descriptorIndex := 6, attributes := #[] }, { accessFlags := 16409, nameIndex := 33, descriptorIndex := 6, attributes := #[] }, { accessFlags := 16409, nameIndex := 36, descriptorIndex := 6, attributes := #[] }, { accessFlags := 16409, nameIndex := 39, descriptorIndex := 6, attributes := #[] }, { accessFlags := 16409, nameIndex := 42, descriptorIndex := 6, attributes := #[] }, { accessFlags := 16409, nameIndex := 45, descriptorIndex := 6, attributes := #[] }, { accessFlags := 26, nameIndex := 199, descriptorIndex := 75, attributes := #[] }, { accessFlags := 18, nameIndex := 67, descriptorIndex := 68, attributes := #[] }, { accessFlags := 18, nameIndex := 71, descriptorIndex := 68, attributes := #[] }, { accessFlags := 18, nameIndex := 74, descriptorIndex := 75, attributes := #[] }, { accessFlags := 18, nameIndex := 78, descriptorIndex := 79, attributes := #[] }, { accessFlags := 4122, nameIndex := 48, descriptorIndex := 49, attributes := #[] }])
  fields := #[{ name := "IMPLY", type := (.object "com/example/punctual_proof/punctualproof/network/BinaryOperator"), accessFlags := 16409, slot := 0, constantValue := 0 }, { name := "OR", type := (.object "com/example/punctual_proof/punctualproof/network/BinaryOperator"), accessFlags := 16409, slot := 1, constantValue := 0 }, { name := "AND", type := (.object "com/example/punctual_proof/punctualproof/network/BinaryOperator"), accessFlags := 16409, slot := 2, constantValue := 0 }, { name := "EQUAL", type := (.object "com/example/punctual_proof/punctualproof/network/BinaryOperator"), accessFlags := 16409, slot := 3, constantValue := 0 }, { name := "NOT_EQUAL", type := (.object "com/example/punctual_proof/punctualproof/network/BinaryOperator"), accessFlags := 16409, slot := 4, constantValue := 0 }, { name := "LESS", type := (.object "com/example/punctual_proof/punctualproof/network/BinaryOperator"), accessFlags := 16409, slot := 5, constantValue := 0 }, { name := "LESS_EQUAL", type := (.object "com/example/punctual_proof/punctualproof/network/BinaryOperator"), accessFlags := 16409, slot := 6, constantValue := 0 }, { name := "GREATER_EQUAL", type := (.object "com/example/punctual_proof/punctualproof/network/BinaryOperator"), accessFlags := 16409, slot := 7, constantValue := 0 }, { name := "GREATER", type := (.object "com/example/punctual_proof/punctualproof/network/BinaryOperator"), accessFlags := 16409, slot := 8, constantValue := 0 }, { name := "ADD", type := (.object "com/example/punctual_proof/punctualproof/network/BinaryOperator"), accessFlags := 16409, slot := 9, constantValue := 0 }, { name := "SUBTRACT", type := (.object "com/example/punctual_proof/punctualproof/network/BinaryOperator"), accessFlags := 16409, slot := 10, constantValue := 0 }, { name := "MULTIPLY", type := (.object "com/example/punctual_proof/punctualproof/network/BinaryOperator"), accessFlags := 16409, slot := 11, constantValue := 0 }, { name := "DIVIDE", type := (.object "com/example/punctual_proof/punctualproof/network/BinaryOperator"), accessFlags := 16409, slot := 12, constantValue := 0 }, { name := "REMAINDER", type := (.object "com/example/punctual_proof/punctualproof/network/BinaryOperator"), accessFlags := 16409, slot := 13, constantValue := 0 }, { name := "COMPARISON_PRECEDENCE", type := .int, accessFlags := 26, slot := 14, constantValue := 0 }, { name := "symbol", type := (.object "java/lang/String"), accessFlags := 18, slot := 3, constantValue := 0 }, { name := "keyword", type := (.object "java/lang/String"), accessFlags := 18, slot := 4, constantValue := 0 }, { name := "precedence", type := .int, accessFlags := 18, slot := 5, constantValue := 0 }, { name := "queryOnly", type := .boolean, accessFlags := 18, slot := 6, constantValue := 0 }, { name := "$VALUES", type := (.array (.object "com/example/punctual_proof/punctualproof/network/BinaryOperator")), accessFlags := 4122, slot := 15, constantValue := 0 }]
  methods := #[k6m0]
  instanceTypes := #[(.object "java/lang/String"), .int, .int, (.object "java/lang/String"), (.object "java/lang/String"), .int, .boolean]
  staticTypes := #[(.object "com/example/punctual_proof/punctualproof/network/BinaryOperator"), (.object "com/example/punctual_proof/punctualproof/network/BinaryOperator"), (.object "com/example/punctual_proof/punctualproof/network/BinaryOperator"), (.object "com/example/punctual_proof/punctualproof/network/BinaryOperator"), (.object "com/example/punctual_proof/punctualproof/network/BinaryOperator"), (.object "com/example/punctual_proof/punctualproof/network/BinaryOperator"), (.object "com/example/punctual_proof/punctualproof/network/BinaryOperator"), (.object "com/example/punctual_proof/punctualproof/network/BinaryOperator"), (.object "com/example/punctual_proof/punctualproof/network/BinaryOperator"), (.object "com/example/punctual_proof/punctualproof/network/BinaryOperator"), (.object "com/example/punctual_proof/punctualproof/network/BinaryOperator"), (.object "com/example/punctual_proof/punctualproof/network/BinaryOperator"), (.object "com/example/punctual_proof/punctualproof/network/BinaryOperator"), (.object "com/example/punctual_proof/punctualproof/network/BinaryOperator"), .int, (.array (.object "com/example/punctual_proof/punctualproof/network/BinaryOperator"))]
  resolved := Array.replicate 245 none
  statics := some 0 }

def pool7 : Array CpInfo := pool [(1, u "java/lang/Cloneable"), (0, .class_ 1), (0, u "java/lang/Object"), (0, .class_ 3)] 3

/-- java/lang/Cloneable -/
def k7 : Class := { plain "java/lang/Cloneable" (some 0) with
  accessFlags := 1537
  interfaces := #[]
  cf := some (fileOf pool7 2 #[] #[] 1537 4 #[] #[])
  fields := #[]
  methods := #[]
  instanceTypes := #[]
  staticTypes := #[]
  resolved := Array.replicate 8 none
  statics := none }

/-- the primitive byte -/
def k8 : Class := { plain "byte" none with kind := .primitive 'B', accessFlags := 0x411 }
/-- [B -/
def k9 : Class := { plain "[B" (some 0) with kind := .array 8 .byte, interfaces := #[7, 4], accessFlags := 1041 }

/-- the primitive int -/
def k10 : Class := { plain "int" none with kind := .primitive 'I', accessFlags := 0x411 }
/-- [I -/
def k11 : Class := { plain "[I" (some 0) with kind := .array 10 .int, interfaces := #[7, 4], accessFlags := 1041 }

def heap : Heap := #[{ cls := 6, slots := #[.ref 1, .ref 11, .ref 7, .ref 2, .ref 5, .ref 13, .ref 14, .ref 6, .ref 10, .ref 12, .ref 9, .ref 8, .ref 3, .ref 4, .int 0, .null], vm := .statics 6 },
  { cls := 6, slots := #[.null, .int 0, .int 0, .null, .null, .int 1, .int 0], vm := .none },
  { cls := 6, slots := #[.null, .int 0, .int 0, .null, .null, .int 5, .int 0], vm := .none },
  { cls := 6, slots := #[.null, .int 0, .int 0, .null, .null, .int 7, .int 0], vm := .none },
  { cls := 6, slots := #[.null, .int 0, .int 0, .null, .null, .int 7, .int 0], vm := .none },
  { cls := 6, slots := #[.null, .int 0, .int 0, .null, .null, .int 5, .int 0], vm := .none },
  { cls := 6, slots := #[.null, .int 0, .int 0, .null, .null, .int 5, .int 0], vm := .none },
  { cls := 6, slots := #[.null, .int 0, .int 0, .null, .null, .int 3, .int 0], vm := .none },
  { cls := 6, slots := #[.null, .int 0, .int 0, .null, .null, .int 7, .int 0], vm := .none },
  { cls := 6, slots := #[.null, .int 0, .int 0, .null, .null, .int 6, .int 0], vm := .none },
  { cls := 6, slots := #[.null, .int 0, .int 0, .null, .null, .int 5, .int 0], vm := .none },
  { cls := 6, slots := #[.null, .int 0, .int 0, .null, .null, .int 2, .int 0], vm := .none },
  { cls := 6, slots := #[.null, .int 0, .int 0, .null, .null, .int 6, .int 0], vm := .none },
  { cls := 6, slots := #[.null, .int 0, .int 0, .null, .null, .int 5, .int 0], vm := .none },
  { cls := 6, slots := #[.null, .int 0, .int 0, .null, .null, .int 5, .int 0], vm := .none }]
def classes : Array Class := #[k0, k1, k2, k3, k4, k5, k6, k7, k8, k9, k10, k11]
def interned : List (Array UInt16 × Addr) := []
def slotsUsed : Nat := 114
def theMethod : MethodId := ⟨1, 1⟩
def args0 : Array Value := #[.int 5]
def aboutOver (below : List Frame) : State where
  vm := { classes := classes, interned := interned.toArray }
  heap := heap
  slotsUsed := slotsUsed
  threads := #[{ frames := .invoking theMethod args0 :: below }]
def below0 : List Frame := [.native { method := ⟨0, 0⟩, args := #[] }]
def about1 : State := aboutOver below0
def p0 : Program := .bare "" "" ""
def e0 : Env := launch0.env 0 0 0
theorem w_frames : about1.frames = Frame.invoking theMethod args0 :: below0 := rfl
set_option maxRecDepth 65536 in
theorem w_args : argsFit about1.vm theMethod args0 = true := by decide +kernel
set_option maxRecDepth 65536 in
theorem w_heap : heapFits about1 = true := by decide +kernel
set_option maxRecDepth 65536 in
theorem w_runnable : about1.curStatus? = some .runnable := by decide +kernel
set_option maxRecDepth 65536 in
theorem w_alone : about1.alone = true := by decide +kernel
set_option maxRecDepth 65536 in
theorem w_named : about1.methodNamed? x = some theMethod := by decide +kernel
set_option maxRecDepth 65536 in
theorem w_hears : about1.hears theMethod below0 = true := by decide +kernel
set_option maxRecDepth 65536 in
theorem w_ripe : about1.ripe theMethod args0 below0 = true := by decide +kernel
theorem w_running : about1.status = .running := rfl
set_option maxRecDepth 65536 in
theorem w_room : about1.hasRoom e0.platform room_1 = true :=
  launch0.hasRoom_least _ room_1 (by decide +kernel) (by decide +kernel) (by decide +kernel) (by decide +kernel) (by decide +kernel) (by decide +kernel)
theorem allAtoms_all (ts : List Jvm.Cond) (a : Array Jvm.Value) (st : Jvm.State) : (allAtoms ts).before a st = ts.all (fun c => c.before a st) := by
  induction ts with
  | nil => rfl
  | cons c t ih =>
    show (Jvm.Cond.and c (allAtoms t)).before a st = _
    rw [Jvm.Cond.before_and, ih, List.all_cons]
def words1 : List Jvm.Cond := Jvm.Cond.code x code maxLocals ret :: tables_1
/-- a 'code' word, met by the world's own term for the bytes: nothing is compared byte by byte -/
theorem code_word {y : MethodName} {bytes : ByteArray} {mx : Nat} {rt : Option FieldType} {a : Array Value} {s : State} {m : MethodId} {meth : Method} {c : Code} (h1 : s.methodNamed? y = some m) (h2 : s.vm.method? m = some meth) (h3 : meth.code = some c) (h4 : c.code = bytes)
    (h5 : (c.maxLocals == mx && c.exceptionTable.isEmpty && decide (c.maxStack ≤ mostOperands) && decide (meth.sig.returnType = rt) && !meth.locks && decide (parseMethodDescriptor y.desc = some meth.sig)) = true) : (Jvm.Cond.code y bytes mx rt).before a s = true := by
  simp only [Bool.and_eq_true, beq_iff_eq, Bool.not_eq_true', decide_eq_true_eq] at h5
  obtain ⟨⟨⟨⟨⟨g1, g2⟩, g3⟩, g4⟩, g5⟩, g6⟩ := h5
  simp [Cond.before, Cond.holds, Cond.value, h1, h2, h3, h4, g1, g2, g3, g4, g5, g6]
def isCode : Jvm.Cond → Bool
  | .code _ _ _ _ => true
  | _ => false
theorem all_split {L : List Jvm.Cond} {P : Jvm.Cond → Bool} (h1 : L.all (fun c => isCode c || P c) = true) (h2 : ∀ c ∈ L.filter isCode, P c = true) : L.all P = true := by
  refine List.all_eq_true.mpr fun c hc => ?_
  have h := List.all_eq_true.mp h1 c hc
  rcases Bool.eq_false_or_eq_true (isCode c) with hi | hi
  · exact h2 c (List.mem_filter.mpr ⟨hc, hi⟩)
  · simpa [hi] using h
set_option maxRecDepth 65536 in
theorem w_c0 : (Jvm.Cond.code x code maxLocals ret).before args0 about1 = true := code_word (m := ⟨1, 1⟩) (meth := k1m1) (c := k1c1) (by decide +kernel) rfl rfl rfl (by decide +kernel)
set_option maxRecDepth 65536 in
theorem w_c1 : (Jvm.Cond.code ({ cls := "com/example/punctual_proof/punctualproof/network/BinaryOperatorIsComparisonPinLaw", name := "pick", desc := "(I)Lcom/example/punctual_proof/punctualproof/network/BinaryOperator;" } : Jvm.MethodName) method_3_code (1 : Nat) (Option.some (Jvm.ClassFile.FieldType.object "com/example/punctual_proof/punctualproof/network/BinaryOperator"))).before args0 about1 = true := code_word (m := ⟨1, 2⟩) (meth := k1m2) (c := k1c2) (by decide +kernel) rfl rfl rfl (by decide +kernel)
set_option maxRecDepth 65536 in
theorem w_c2 : (Jvm.Cond.code ({ cls := "com/example/punctual_proof/punctualproof/network/BinaryOperator", name := "isComparison", desc := "()Z" } : Jvm.MethodName) prog_59_method_8_code (1 : Nat) (Option.some Jvm.ClassFile.FieldType.boolean)).before args0 about1 = true := code_word (m := ⟨6, 0⟩) (meth := k6m0) (c := k6c0) (by decide +kernel) rfl rfl rfl (by decide +kernel)
def codes1 : List Jvm.Cond := [Jvm.Cond.code x code maxLocals ret, Jvm.Cond.code ({ cls := "com/example/punctual_proof/punctualproof/network/BinaryOperatorIsComparisonPinLaw", name := "pick", desc := "(I)Lcom/example/punctual_proof/punctualproof/network/BinaryOperator;" } : Jvm.MethodName) method_3_code (1 : Nat) (Option.some (Jvm.ClassFile.FieldType.object "com/example/punctual_proof/punctualproof/network/BinaryOperator")), Jvm.Cond.code ({ cls := "com/example/punctual_proof/punctualproof/network/BinaryOperator", name := "isComparison", desc := "()Z" } : Jvm.MethodName) prog_59_method_8_code (1 : Nat) (Option.some Jvm.ClassFile.FieldType.boolean)]
set_option maxRecDepth 65536 in
theorem codes_eq : words1.filter isCode = codes1 := rfl
theorem w_codes : ∀ c ∈ words1.filter isCode, c.before args0 about1 = true := by
  rw [codes_eq]
  intro c hc
  simp only [codes1, List.mem_cons, List.not_mem_nil, or_false] at hc
  rcases hc with rfl | rfl | rfl
  · exact w_c0
  · exact w_c1
  · exact w_c2
set_option maxRecDepth 65536 in
theorem w_t1 : (words1.take 24).all (fun c => isCode c || c.before args0 about1) = true := by decide +kernel
set_option maxRecDepth 65536 in
theorem w_t2 : (words1.drop 24).all (fun c => isCode c || c.before args0 about1) = true := by decide +kernel
theorem w_tables : (allAtoms (Jvm.Cond.code x code maxLocals ret :: tables_1)).before args0 about1 = true := by
  rw [allAtoms_all]
  show words1.all (fun c => c.before args0 about1) = true
  refine all_split ?_ w_codes
  rw [← List.take_append_drop 24 words1, List.all_append, w_t1, w_t2]
  rfl
set_option maxRecDepth 65536 in
theorem w_case : (Jvm.Cond.and given_1 narrow_1).before args0 about1 = true := by decide +kernel
theorem w_applies : (headSpec (Jvm.Cond.code x code maxLocals ret :: tables_1) room_1).applies x e0.platform about1 = true :=
  (Spec.applies_iff w_frames).mpr ⟨w_running, w_runnable, w_alone, w_named, w_hears, w_ripe, w_room, w_tables⟩
theorem atStart : AtStart classFile x code maxLocals ret World_1 tables_1 room_1 Calls_1 rest_1 Pre_1 launch0 p0 e0 about1 theMethod args0 below0 :=
  ⟨lists_1, trivial, launch0.admits_env _ _ _, launch0.least_env, fairChoices_fair.cas, fairChoices_fair.clock, w_frames, w_args, w_heap, w_applies, trivial, trivial, w_case⟩
end start1
theorem witness_1 : WitnessClaimed_1 := ⟨start1.p0, start1.e0, start1.about1, start1.theMethod, start1.args0, start1.below0, start1.atStart⟩
end Jvm.Pilot.@@N@@
