import JvmDerived
import JvmDerived.Pilot.@@N@@Statement
import JvmDerived.Pilot.@@N@@Code
set_option linter.unusedVariables false
set_option linter.unusedSimpArgs false
@@BLOCK:NumsL.lean.txt@@
namespace Jvm.Pilot.@@N@@
open Jvm Jvm.ClassFile Sem Op Lib Jvm.Free Jvm.Stand Jvm.LawKit Jvm.RoadKit Bundle Jvm.Pilot.@@N@@.Jvm.D

/-! the walk's goal, read backwards: from here the run comes to its end -/
def own_Done (p : Program) (e : Env) (below : List Frame) (W : State) (Q : Outcome → State → Prop) : Prop := ∃ s₂ o, Steps p.tables e below W s₂ ∧ s₂.status = .running ∧ Ended s₂ below o ∧ Q o s₂
theorem own_step {p : Program} {e : Env} {below : List Frame} {W W' : State} {Q : Outcome → State → Prop} (st : ∀ t, Steps p.tables e below W' t → Steps p.tables e below W t) (h : own_Done p e below W' Q) : own_Done p e below W Q := by
  obtain ⟨s2, o, h1, r⟩ := h
  exact ⟨s2, o, st _ h1, r⟩
theorem own_enter {p : Program} {e : Env} {below : List Frame} {T : State} {g g' : JFrame} {Q : Outcome → State → Prop} (q : g = g') (h : own_Done p e below (T.setTop g') Q) : ∃ s₂ o, Steps p.tables e below (T.setTop g) s₂ ∧ s₂.status = .running ∧ Ended s₂ below o ∧ Q o s₂ := by
  subst q; exact h
theorem own_ret {p : Program} {l : Launch} {e : Env} {R : Room} {s : State} {m : MethodId} {args : Array Value} {below : List Frame} {meth : Method} {c : Code} {T W : State} {locs : List Loc} {cells slots k n : Nat} {r : Option Value → Heap → List Loc → Prop} {v : Value} {t : FieldType}
    (X : Stand p l e R s m args below meth c T locs cells slots) (hlocks : meth.locks = false) (hret : meth.sig.returnType = some t)
    (hs : ∀ fs : List Frame, (∀ (f : JFrame) (acts : List Action), f.method = m → f.locked = none → f.entered = [] → (doReturn e (T.setTop f) acts (some v)).1 = T.setFrames fs) → Steps p.tables e below W (T.setFrames fs))
    (hq : r (some v) T.heap locs) (hk : cells ≤ k) (hn : slots ≤ n) : own_Done p e below W (fun o U' => ∃ v L, o = .returned v ∧ r v U'.heap L ∧ FrameEnd s o U' L k n) := by
  obtain ⟨fs, hr, hrun, hended, hW, hsame⟩ := X.leave (v := some v) (fun h => by rw [hret] at h; cases h) hlocks
  exact ⟨_, _, hs fs hr, hrun, hended, _, _, rfl, hq, ⟨_, rfl⟩, hW, hsame.mono hk hn⟩
theorem own_ret0 {p : Program} {l : Launch} {e : Env} {R : Room} {s : State} {m : MethodId} {args : Array Value} {below : List Frame} {meth : Method} {c : Code} {T W : State} {locs : List Loc} {cells slots k n : Nat} {r : Option Value → Heap → List Loc → Prop}
    (X : Stand p l e R s m args below meth c T locs cells slots) (hlocks : meth.locks = false) (hret : meth.sig.returnType = none)
    (hs : ∀ fs : List Frame, (∀ (f : JFrame) (acts : List Action), f.method = m → f.locked = none → f.entered = [] → (doReturn e (T.setTop f) acts none).1 = T.setFrames fs) → Steps p.tables e below W (T.setFrames fs))
    (hq : r none T.heap locs) (hk : cells ≤ k) (hn : slots ≤ n) : own_Done p e below W (fun o U' => ∃ v L, o = .returned v ∧ r v U'.heap L ∧ FrameEnd s o U' L k n) := by
  obtain ⟨fs, hr, hrun, hended, hW, hsame⟩ := X.leave (v := none) (fun _ => rfl) hlocks
  exact ⟨_, _, hs fs hr, hrun, hended, _, _, rfl, hq, ⟨_, rfl⟩, hW, hsame.mono hk hn⟩
/-- a body that writes nothing and returns r -/
def own_QK (r : Option Value) (h0 : Heap) (n0 : Nat) (v : Option Value) (h : Heap) (L : List Loc) : Prop := v = r ∧ Fr n0 L ∧ h = h0
/-- the law itself -/
def own_Q0 (n0 : Nat) (v : Option Value) (h : Heap) (L : List Loc) : Prop := v = some (.int (1 : Int32)) ∧ Fr n0 L

theorem own_eqJ {args : Array Value} {first s : State} {o : Option Outcome} {idx : List Nat} {t : Term} {k : Int64} (h : (Cond.eq t (.long k)).value args first o s idx = some true) : t.eval args first o idx s = some (.long k) := by
  obtain ⟨u, w, e1, e2, -, k2⟩ := cmp_v (Or.inl h)
  have e3 : (Term.long k).eval args first o idx s = some (.long k) := rfl
  cases e3.symm.trans e2
  obtain ⟨z, rfl⟩ := k2
  rw [e1]
  have := gotT (eq_L e1 e3) h
  rw [this]
theorem own_fldI {Z : State} {args : Array Value} {t : Term} {a : Addr} {C n d : String} {k : Int32} (ev : t.eval args Z none [] Z = some (.ref a)) (h : (Cond.eq (.field t C n d) (.int k)).value args Z none Z [] = some true) : Fld Z Z.heap a C n d (.int k) := by
  refine Fld.start ?_
  rw [← fld_at (C := C) (n := n) (dd := d) ev]
  obtain ⟨u, w, e1, e2, -, k2⟩ := cmp_v (Or.inl h)
  cases (Term.int_eval k).symm.trans e2
  obtain ⟨z, rfl⟩ := k2
  rw [e1]
  simp [Cond.value, e1, Term.int_eval] at h
  rw [h]
theorem own_fldN {Z : State} {args : Array Value} {t : Term} {a : Addr} {C n d : String} (ev : t.eval args Z none [] Z = some (.ref a)) (h : (Cond.eq (.field t C n d) .null).value args Z none Z [] = some true) : Fld Z Z.heap a C n d .null := by
  refine Fld.start ?_
  rw [← fld_at (C := C) (n := n) (dd := d) ev]
  exact null_v h
theorem own_fldR {Z : State} {args : Array Value} {t u : Term} {a b : Addr} {C n d : String} (ev : t.eval args Z none [] Z = some (.ref a)) (eu : u.eval args Z none [] Z = some (.ref b)) (h : (Cond.eq (.field t C n d) u).value args Z none Z [] = some true) : Fld Z Z.heap a C n d (.ref b) := by
  refine Fld.start ?_
  rw [← fld_at (C := C) (n := n) (dd := d) ev]
  obtain ⟨x, w, e1, e2, k1, k2⟩ := cmp_v (Or.inl h)
  cases eu.symm.trans e2
  obtain ⟨-, hx⟩ := k2
  rw [e1]
  have := gotT (eq_R e1 eu hx rfl) h
  rw [this]
theorem own_a4 (p : Int32) : (p &&& (3 : Int32)) = (0 : Int32) ∨ (p &&& (3 : Int32)) = (1 : Int32) ∨ (p &&& (3 : Int32)) = (2 : Int32) ∨ (p &&& (3 : Int32)) = (3 : Int32) := by
  have h : (p &&& (3 : Int32)).toInt = p.toInt % 2 ^ 2 := Jvm.Kit.i32_mask p 3 (k := 2) (by decide) (by decide)
  generalize (p &&& (3 : Int32)) = z at h
  have hz : z.toInt = 0 ∨ z.toInt = 1 ∨ z.toInt = 2 ∨ z.toInt = 3 := by omega
  rcases hz with hz | hz | hz | hz
  · exact Or.inl (Int32.toInt_inj.mp (hz.trans (by decide)))
  · exact Or.inr (Or.inl (Int32.toInt_inj.mp (hz.trans (by decide))))
  · exact Or.inr (Or.inr (Or.inl (Int32.toInt_inj.mp (hz.trans (by decide)))))
  · exact Or.inr (Or.inr (Or.inr ((Int32.toInt_inj.mp (hz.trans (by decide))))))

/-- what Math.floorDiv(a, 86400) returns -/
def own_fd (a : Int64) : Int64 := if lcmpW (a ^^^ (86400 : Int64)) (0 : Int64) < 0 then (if lcmpW ((a / (86400 : Int64)) * (86400 : Int64)) a = 0 then a / (86400 : Int64) else (a / (86400 : Int64)) - (1 : Int64)) else a / (86400 : Int64)
theorem own_ltW (x y : Int64) : lcmpW x y < 0 ↔ x < y := by rw [lcW]; exact lc_lt x y
theorem own_gtW (x y : Int64) : 0 < lcmpW x y ↔ y < x := by rw [lcW]; exact lc_gt x y
theorem own_eqW (x y : Int64) : lcmpW x y = 0 ↔ x = y := by rw [lcW]; exact lc_eq x y
theorem own_xor (a : Int64) : a ^^^ (86400 : Int64) < 0 ↔ a < 0 := by
  rw [Int64.lt_iff_toBitVec_slt, Int64.lt_iff_toBitVec_slt, Int64.toBitVec_xor]
  generalize a.toBitVec = x
  have e0 : (0 : Int64).toBitVec = 0#64 := rfl
  have e1 : (86400 : Int64).toBitVec = 86400#64 := rfl
  rw [e0, e1, BitVec.slt_zero_eq_msb, BitVec.slt_zero_eq_msb, BitVec.msb_xor]
  have e2 : (86400#64).msb = false := by decide
  rw [e2, Bool.xor_false]
theorem own_td (x : Int) : (x < 0 ∧ x.tdiv 86400 = -((-x) / 86400)) ∨ (¬ x < 0 ∧ x.tdiv 86400 = x / 86400) := by
  by_cases h : x < 0
  · have e : (-x).tdiv 86400 = (-x) / 86400 := Int.tdiv_eq_ediv_of_nonneg (by omega)
    rw [Int.neg_tdiv] at e
    exact Or.inl ⟨h, by omega⟩
  · exact Or.inr ⟨h, Int.tdiv_eq_ediv_of_nonneg (by omega)⟩
theorem own_fd_toInt (a : Int64) : (own_fd a).toInt = a.toInt / 86400 := by
  have hk : (86400 : Int64).toInt = 86400 := by decide
  have h1 : (1 : Int64).toInt = 1 := by decide
  have hlo := Int64.le_toInt a
  have hhi := Int64.toInt_lt a
  have ht := own_td a.toInt
  have hq : (a / (86400 : Int64)).toInt = a.toInt.tdiv 86400 := by
    rw [Int64.toInt_div, hk]
    apply Int.bmod_eq_of_le <;> omega
  have hm : ((a / (86400 : Int64)) * (86400 : Int64)).toInt = a.toInt.tdiv 86400 * 86400 := by
    rw [Int64.toInt_mul, hq, hk]
    apply Int.bmod_eq_of_le <;> omega
  unfold own_fd
  simp only [own_ltW, own_eqW, own_xor, ← Int64.toInt_inj, hm]
  by_cases h : a < 0
  · have h' : a.toInt < 0 := by rw [Int64.lt_iff_toInt_lt] at h; exact h
    rw [if_pos h]
    by_cases g : a.toInt.tdiv 86400 * 86400 = a.toInt
    · rw [if_pos g, hq]; omega
    · rw [if_neg g, Int64.toInt_sub, hq, h1]
      rw [Int.bmod_eq_of_le (by omega) (by omega)]; omega
  · have h' : ¬ a.toInt < 0 := by rw [Int64.lt_iff_toInt_lt] at h; exact h
    rw [if_neg h, hq]; omega
theorem own_first (a : Int64) : lcmpW (own_fd a) (-719528 : Int64) < 0 ↔ lcmpW a (-62167219200 : Int64) < 0 := by
  have e1 : (-719528 : Int64).toInt = -719528 := by decide
  have e2 : (-62167219200 : Int64).toInt = -62167219200 := by decide
  rw [own_ltW, own_ltW, Int64.lt_iff_toInt_lt, Int64.lt_iff_toInt_lt, own_fd_toInt, e1, e2]
  omega
theorem own_last (a : Int64) : 0 < lcmpW (own_fd a) (2932896 : Int64) ↔ 0 < lcmpW a (253402300799 : Int64) := by
  have e1 : (2932896 : Int64).toInt = 2932896 := by decide
  have e2 : (253402300799 : Int64).toInt = 253402300799 := by decide
  rw [own_gtW, own_gtW, Int64.lt_iff_toInt_lt, Int64.lt_iff_toInt_lt, own_fd_toInt, e1, e2]
  omega
theorem d2_0 : decode jdk_29_method_49_code 0 = .ok (.lload_n 0, 1) := by decide +kernel
theorem d2_1 : decode jdk_29_method_49_code 1 = .ok (.lload_n 2, 1) := by decide +kernel
theorem d2_2 : decode jdk_29_method_49_code 2 = .ok (.ldiv, 1) := by decide +kernel
theorem d2_3 : decode jdk_29_method_49_code 3 = .ok (.lstore 4, 2) := by decide +kernel
theorem d2_5 : decode jdk_29_method_49_code 5 = .ok (.lload_n 0, 1) := by decide +kernel
theorem d2_6 : decode jdk_29_method_49_code 6 = .ok (.lload_n 2, 1) := by decide +kernel
theorem d2_7 : decode jdk_29_method_49_code 7 = .ok (.lxor, 1) := by decide +kernel
theorem d2_8 : decode jdk_29_method_49_code 8 = .ok (.lconst 0, 1) := by decide +kernel
theorem d2_9 : decode jdk_29_method_49_code 9 = .ok (.lcmp, 1) := by decide +kernel
theorem d2_10 : decode jdk_29_method_49_code 10 = .ok (.ifCond .ge 17, 3) := by decide +kernel
theorem d2_27 : decode jdk_29_method_49_code 27 = .ok (.lload 4, 2) := by decide +kernel
theorem d2_29 : decode jdk_29_method_49_code 29 = .ok (.lreturn, 1) := by decide +kernel
theorem ef_2_JJ (m : MethodId) (x0 : Int64) (x1 : Int64) : entryFrame m #[(.long x0), (.long x1)] 6 = mkF m 0 #[.val (.long x0), .second, .val (.long x1), .second, .unset, .unset] [] := by first | (simp [entryFrame, mkF, argsToLocals, Value.category]; done) | rfl
theorem d2_13 : decode jdk_29_method_49_code 13 = .ok (.lload 4, 2) := by decide +kernel
theorem d2_15 : decode jdk_29_method_49_code 15 = .ok (.lload_n 2, 1) := by decide +kernel
theorem d2_16 : decode jdk_29_method_49_code 16 = .ok (.lmul, 1) := by decide +kernel
theorem d2_17 : decode jdk_29_method_49_code 17 = .ok (.lload_n 0, 1) := by decide +kernel
theorem d2_18 : decode jdk_29_method_49_code 18 = .ok (.lcmp, 1) := by decide +kernel
theorem d2_19 : decode jdk_29_method_49_code 19 = .ok (.ifCond .eq 8, 3) := by decide +kernel
theorem d2_22 : decode jdk_29_method_49_code 22 = .ok (.lload 4, 2) := by decide +kernel
theorem d2_24 : decode jdk_29_method_49_code 24 = .ok (.lconst 1, 1) := by decide +kernel
theorem d2_25 : decode jdk_29_method_49_code 25 = .ok (.lsub, 1) := by decide +kernel
theorem d2_26 : decode jdk_29_method_49_code 26 = .ok (.lreturn, 1) := by decide +kernel
theorem d1_0 : decode prog_24_method_4_code 0 = .ok (.lload_n 0, 1) := by decide +kernel
theorem d1_1 : decode prog_24_method_4_code 1 = .ok (.ldc2_w 86, 3) := by decide +kernel
theorem d1_4 : decode prog_24_method_4_code 4 = .ok (.invokestatic 138, 3) := by decide +kernel
theorem pd_0 : parseMethodDescriptor "(JJ)J" = some ⟨[.long, .long], some .long⟩ := by decide +kernel
theorem d1_7 : decode prog_24_method_4_code 7 = .ok (.lstore_n 2, 1) := by decide +kernel
theorem d1_8 : decode prog_24_method_4_code 8 = .ok (.lload_n 2, 1) := by decide +kernel
theorem d1_9 : decode prog_24_method_4_code 9 = .ok (.getstatic 144, 3) := by decide +kernel
theorem d1_12 : decode prog_24_method_4_code 12 = .ok (.lcmp, 1) := by decide +kernel
theorem d1_13 : decode prog_24_method_4_code 13 = .ok (.ifCond .lt 15, 3) := by decide +kernel
theorem d1_28 : decode prog_24_method_4_code 28 = .ok (.iconst 0, 1) := by decide +kernel
theorem d1_29 : decode prog_24_method_4_code 29 = .ok (.ireturn, 1) := by decide +kernel
theorem ef_1_J (m : MethodId) (x0 : Int64) : entryFrame m #[(.long x0)] 4 = mkF m 0 #[.val (.long x0), .second, .unset, .unset] [] := by first | (simp [entryFrame, mkF, argsToLocals, Value.category]; done) | rfl
theorem pn_com_example_levy_levy_Timestamps : plainName "com/example/levy/levy/Timestamps" = true := by first | (simp [plainName, overriddenIn]; done) | decide +kernel
theorem d1_16 : decode prog_24_method_4_code 16 = .ok (.lload_n 2, 1) := by decide +kernel
theorem d1_17 : decode prog_24_method_4_code 17 = .ok (.getstatic 148, 3) := by decide +kernel
theorem d1_20 : decode prog_24_method_4_code 20 = .ok (.lcmp, 1) := by decide +kernel
theorem d1_21 : decode prog_24_method_4_code 21 = .ok (.ifCond .gt 7, 3) := by decide +kernel
theorem d1_24 : decode prog_24_method_4_code 24 = .ok (.iconst 1, 1) := by decide +kernel
theorem d1_25 : decode prog_24_method_4_code 25 = .ok (.goto 4, 3) := by decide +kernel
theorem pd_1 : parseMethodDescriptor "(J)Z" = some ⟨[.long], some .boolean⟩ := by decide +kernel
theorem ef_0_JII (m : MethodId) (x0 : Int64) (x1 : Int32) (x2 : Int32) : entryFrame m #[(.long x0), (.int x1), (.int x2)] maxLocals = mkF m 0 #[.val (.long x0), .second, .val (.int x1), .val (.int x2), .unset, .unset, .unset, .unset, .unset, .unset, .unset, .unset, .unset, .unset] [] := by first | (simp [entryFrame, mkF, argsToLocals, Value.category, maxLocals]; done) | rfl
theorem pn_com_example_levy_levy_TimestampsWritesDateTimePinLaw : plainName "com/example/levy/levy/TimestampsWritesDateTimePinLaw" = true := by first | (simp [plainName, overriddenIn]; done) | decide +kernel
/-- what the case pins of the constants -/
def Pins (Z : State) (h : Heap) (w : Nat → Addr) : Prop := Sta Z h "com/example/levy/levy/Timestamps" "FIRST_WRITTEN_DAY" "J" (.long (-719528 : Int64)) ∧ Sta Z h "com/example/levy/levy/Timestamps" "LAST_WRITTEN_DAY" "J" (.long (2932896 : Int64))
theorem pin_S0 {Z : State} {h : Heap} {w : Nat → Addr} (P : Pins Z h w) : Sta Z h "com/example/levy/levy/Timestamps" "FIRST_WRITTEN_DAY" "J" (.long (-719528 : Int64)) := P.1
theorem pin_S1 {Z : State} {h : Heap} {w : Nat → Addr} (P : Pins Z h w) : Sta Z h "com/example/levy/levy/Timestamps" "LAST_WRITTEN_DAY" "J" (.long (2932896 : Int64)) := P.2
theorem Pins.ext {Z : State} {h h' : Heap} {w : Nat → Addr} (E : Ext h h') (P : Pins Z h w) : Pins Z h' w := ⟨Sta.ext E (pin_S0 P), Sta.ext E (pin_S1 P)⟩
set_option maxRecDepth 65536 in
theorem own_pins {s : State} {args : Array Value} (hw : ∀ d ∈ tables_1, d.before args s = true) (hn : narrow_1.value args s none s [] = some true) : ∃ w, Pins s s.heap w := by
  obtain ⟨c0, hn⟩ := and_e hn
  have c1 := hn
  have S0 := Sta.start (own_eqJ c0) (Or.inr ⟨(hw _ (List.mem_of_getElem? (i := 5) rfl)), (hw _ (List.mem_of_getElem? (i := 13) rfl))⟩)
  have S1 := Sta.start (own_eqJ c1) (Or.inr ⟨(hw _ (List.mem_of_getElem? (i := 5) rfl)), (hw _ (List.mem_of_getElem? (i := 15) rfl))⟩)
  exact ⟨fun i => [].getD i 0, S0, S1⟩
set_option maxRecDepth 65536 in
set_option maxHeartbeats 40000000 in
theorem rm2_p (l : Launch) (Z : State) (a0 : Array Value) (hw : ∀ d ∈ tables_1, d.before a0 Z = true) (ws : List Jvm.Cond) (a : Int64) (c1 : ¬ (lcmpW (a ^^^ (86400 : Int64)) (0 : Int64) < 0)) (w : Nat → Addr) (h0 : Heap) (n0 : Nat) (Z0 : n0 ≤ h0.size) (P : Pins Z h0 w) :
    MetFree l (⟨"java/lang/Math", "floorDiv", "(JJ)J"⟩ : MethodName) (head1 (Jvm.Cond.code (⟨"java/lang/Math", "floorDiv", "(JJ)J"⟩ : MethodName) jdk_29_method_49_code 6 (some .long) :: ws) ({ frames := 0, cells := 0, slots := 0, locals := 0 } : Room)) (fun aA U => aA = #[(.long a), (.long (86400 : Int64))] ∧ Z.Warmed39 U.vm ∧ U.heap = h0) (fun _ _ _ _ _ => True) (fun _ U o U' => ∃ v L, o = .returned v ∧ own_QK (some (.long (a / (86400 : Int64)))) h0 n0 v U'.heap L ∧ FrameEnd U o U' L ({ frames := 0, cells := 0, slots := 0, locals := 0 } : Room).cells ({ frames := 0, cells := 0, slots := 0, locals := 0 } : Room).slots) := by
  refine MetFree.of_bodySF (by decide +kernel) hisR ?_
  intro p e s m args below meth c s₁ Bd hml0 hP hK
  obtain ⟨rfl, hZ, hh⟩ := hP
  have hx := Bd.exec
  have hby := Bd.bytes
  have hml : c.maxLocals = 6 := hml0
  have hown : s.vm.findClass "java/lang/Math" = some m.cls := findClass_of_methodNamed Bd.named
  have hnm := (name_of_methodNamed Bd.named Bd.method).1
  have X0 : Stand p l e ({ frames := 0, cells := 0, slots := 0, locals := 0 } : Room) s m #[(.long a), (.long (86400 : Int64))] below meth c s₁ [] 0 0 := Stand.of_body Bd
  have e0 : s₁.heap = h0 := by rw [← hh, Bd.state]; rfl
  have N0 := Fr.nil n0
  refine own_enter (ef_2_JJ m a (86400 : Int64)) ?_
  refine own_step (W' := s₁.setTop (mkF m 1 #[.val (.long a), .second, .val (.long (86400 : Int64)), .second, .unset, .unset] [(.long a)])) (fun _ k => XS.lloadN X0.here hx rfl (hb hby d2_0) rfl k) ?_
  refine own_step (W' := s₁.setTop (mkF m 2 #[.val (.long a), .second, .val (.long (86400 : Int64)), .second, .unset, .unset] [(.long (86400 : Int64)), (.long a)])) (fun _ k => XS.lloadN X0.here hx rfl (hb hby d2_1) rfl k) ?_
  refine own_step (W' := s₁.setTop (mkF m 3 #[.val (.long a), .second, .val (.long (86400 : Int64)), .second, .unset, .unset] [(.long (a / (86400 : Int64)))])) (fun _ k => XS.ldiv X0.here hx rfl (hb hby d2_2) rfl (by decide) k) ?_
  refine own_step (W' := s₁.setTop (mkF m 5 #[.val (.long a), .second, .val (.long (86400 : Int64)), .second, .val (.long (a / (86400 : Int64))), .second] [])) (fun _ k => XS.lstore X0.here hx rfl (hb hby d2_3) rfl (l' := #[.val (.long a), .second, .val (.long (86400 : Int64)), .second, .val (.long (a / (86400 : Int64))), .second]) rfl k) ?_
  refine own_step (W' := s₁.setTop (mkF m 6 #[.val (.long a), .second, .val (.long (86400 : Int64)), .second, .val (.long (a / (86400 : Int64))), .second] [(.long a)])) (fun _ k => XS.lloadN X0.here hx rfl (hb hby d2_5) rfl k) ?_
  refine own_step (W' := s₁.setTop (mkF m 7 #[.val (.long a), .second, .val (.long (86400 : Int64)), .second, .val (.long (a / (86400 : Int64))), .second] [(.long (86400 : Int64)), (.long a)])) (fun _ k => XS.lloadN X0.here hx rfl (hb hby d2_6) rfl k) ?_
  refine own_step (W' := s₁.setTop (mkF m 8 #[.val (.long a), .second, .val (.long (86400 : Int64)), .second, .val (.long (a / (86400 : Int64))), .second] [(.long (a ^^^ (86400 : Int64)))])) (fun _ k => XS.lxor X0.here hx rfl (hb hby d2_7) rfl k) ?_
  refine own_step (W' := s₁.setTop (mkF m 9 #[.val (.long a), .second, .val (.long (86400 : Int64)), .second, .val (.long (a / (86400 : Int64))), .second] [(.long (0 : Int64)), (.long (a ^^^ (86400 : Int64)))])) (fun _ k => XS.lconst X0.here hx rfl (hb hby d2_8) k) ?_
  refine own_step (W' := s₁.setTop (mkF m 10 #[.val (.long a), .second, .val (.long (86400 : Int64)), .second, .val (.long (a / (86400 : Int64))), .second] [(.int (lcmpW (a ^^^ (86400 : Int64)) (0 : Int64)))])) (fun _ k => XS.lcmp X0.here hx rfl (hb hby d2_9) rfl k) ?_
  refine own_step (W' := s₁.setTop (mkF m 27 #[.val (.long a), .second, .val (.long (86400 : Int64)), .second, .val (.long (a / (86400 : Int64))), .second] [])) (fun _ k => XS.ifYes X0.here hx rfl (pc0 := 10) (pc' := 27) rfl (hb hby d2_10) rfl ((if0 _ _).trans (flt c1).2.1) (by decide) (by decide) k) ?_
  refine own_step (W' := s₁.setTop (mkF m 29 #[.val (.long a), .second, .val (.long (86400 : Int64)), .second, .val (.long (a / (86400 : Int64))), .second] [(.long (a / (86400 : Int64)))])) (fun _ k => XS.lload X0.here hx rfl (hb hby d2_27) rfl k) ?_
  exact own_ret X0 Bd.notSynchronized Bd.returns (v := (.long (a / (86400 : Int64)))) (fun fs hr => retOut X0 hx Bd.returns rfl (Or.inr (Or.inl ⟨rfl, rfl, _, rfl⟩)) (hb hby d2_29) hr) ⟨rfl, N0, e0⟩ (by decide) (by decide)
set_option maxRecDepth 65536 in
set_option maxHeartbeats 40000000 in
theorem rm2_z (l : Launch) (Z : State) (a0 : Array Value) (hw : ∀ d ∈ tables_1, d.before a0 Z = true) (ws : List Jvm.Cond) (a : Int64) (c1 : lcmpW (a ^^^ (86400 : Int64)) (0 : Int64) < 0) (c2 : lcmpW ((a / (86400 : Int64)) * (86400 : Int64)) a = 0) (w : Nat → Addr) (h0 : Heap) (n0 : Nat) (Z0 : n0 ≤ h0.size) (P : Pins Z h0 w) :
    MetFree l (⟨"java/lang/Math", "floorDiv", "(JJ)J"⟩ : MethodName) (head1 (Jvm.Cond.code (⟨"java/lang/Math", "floorDiv", "(JJ)J"⟩ : MethodName) jdk_29_method_49_code 6 (some .long) :: ws) ({ frames := 0, cells := 0, slots := 0, locals := 0 } : Room)) (fun aA U => aA = #[(.long a), (.long (86400 : Int64))] ∧ Z.Warmed39 U.vm ∧ U.heap = h0) (fun _ _ _ _ _ => True) (fun _ U o U' => ∃ v L, o = .returned v ∧ own_QK (some (.long (a / (86400 : Int64)))) h0 n0 v U'.heap L ∧ FrameEnd U o U' L ({ frames := 0, cells := 0, slots := 0, locals := 0 } : Room).cells ({ frames := 0, cells := 0, slots := 0, locals := 0 } : Room).slots) := by
  refine MetFree.of_bodySF (by decide +kernel) hisR ?_
  intro p e s m args below meth c s₁ Bd hml0 hP hK
  obtain ⟨rfl, hZ, hh⟩ := hP
  have hx := Bd.exec
  have hby := Bd.bytes
  have hml : c.maxLocals = 6 := hml0
  have hown : s.vm.findClass "java/lang/Math" = some m.cls := findClass_of_methodNamed Bd.named
  have hnm := (name_of_methodNamed Bd.named Bd.method).1
  have X0 : Stand p l e ({ frames := 0, cells := 0, slots := 0, locals := 0 } : Room) s m #[(.long a), (.long (86400 : Int64))] below meth c s₁ [] 0 0 := Stand.of_body Bd
  have e0 : s₁.heap = h0 := by rw [← hh, Bd.state]; rfl
  have N0 := Fr.nil n0
  refine own_enter (ef_2_JJ m a (86400 : Int64)) ?_
  refine own_step (W' := s₁.setTop (mkF m 1 #[.val (.long a), .second, .val (.long (86400 : Int64)), .second, .unset, .unset] [(.long a)])) (fun _ k => XS.lloadN X0.here hx rfl (hb hby d2_0) rfl k) ?_
  refine own_step (W' := s₁.setTop (mkF m 2 #[.val (.long a), .second, .val (.long (86400 : Int64)), .second, .unset, .unset] [(.long (86400 : Int64)), (.long a)])) (fun _ k => XS.lloadN X0.here hx rfl (hb hby d2_1) rfl k) ?_
  refine own_step (W' := s₁.setTop (mkF m 3 #[.val (.long a), .second, .val (.long (86400 : Int64)), .second, .unset, .unset] [(.long (a / (86400 : Int64)))])) (fun _ k => XS.ldiv X0.here hx rfl (hb hby d2_2) rfl (by decide) k) ?_
  refine own_step (W' := s₁.setTop (mkF m 5 #[.val (.long a), .second, .val (.long (86400 : Int64)), .second, .val (.long (a / (86400 : Int64))), .second] [])) (fun _ k => XS.lstore X0.here hx rfl (hb hby d2_3) rfl (l' := #[.val (.long a), .second, .val (.long (86400 : Int64)), .second, .val (.long (a / (86400 : Int64))), .second]) rfl k) ?_
  refine own_step (W' := s₁.setTop (mkF m 6 #[.val (.long a), .second, .val (.long (86400 : Int64)), .second, .val (.long (a / (86400 : Int64))), .second] [(.long a)])) (fun _ k => XS.lloadN X0.here hx rfl (hb hby d2_5) rfl k) ?_
  refine own_step (W' := s₁.setTop (mkF m 7 #[.val (.long a), .second, .val (.long (86400 : Int64)), .second, .val (.long (a / (86400 : Int64))), .second] [(.long (86400 : Int64)), (.long a)])) (fun _ k => XS.lloadN X0.here hx rfl (hb hby d2_6) rfl k) ?_
  refine own_step (W' := s₁.setTop (mkF m 8 #[.val (.long a), .second, .val (.long (86400 : Int64)), .second, .val (.long (a / (86400 : Int64))), .second] [(.long (a ^^^ (86400 : Int64)))])) (fun _ k => XS.lxor X0.here hx rfl (hb hby d2_7) rfl k) ?_
  refine own_step (W' := s₁.setTop (mkF m 9 #[.val (.long a), .second, .val (.long (86400 : Int64)), .second, .val (.long (a / (86400 : Int64))), .second] [(.long (0 : Int64)), (.long (a ^^^ (86400 : Int64)))])) (fun _ k => XS.lconst X0.here hx rfl (hb hby d2_8) k) ?_
  refine own_step (W' := s₁.setTop (mkF m 10 #[.val (.long a), .second, .val (.long (86400 : Int64)), .second, .val (.long (a / (86400 : Int64))), .second] [(.int (lcmpW (a ^^^ (86400 : Int64)) (0 : Int64)))])) (fun _ k => XS.lcmp X0.here hx rfl (hb hby d2_9) rfl k) ?_
  refine own_step (W' := s₁.setTop (mkF m 13 #[.val (.long a), .second, .val (.long (86400 : Int64)), .second, .val (.long (a / (86400 : Int64))), .second] [])) (fun _ k => XS.ifNo X0.here hx rfl (hb hby d2_10) rfl ((if0 _ _).trans (tlt c1).2.1) k) ?_
  refine own_step (W' := s₁.setTop (mkF m 15 #[.val (.long a), .second, .val (.long (86400 : Int64)), .second, .val (.long (a / (86400 : Int64))), .second] [(.long (a / (86400 : Int64)))])) (fun _ k => XS.lload X0.here hx rfl (hb hby d2_13) rfl k) ?_
  refine own_step (W' := s₁.setTop (mkF m 16 #[.val (.long a), .second, .val (.long (86400 : Int64)), .second, .val (.long (a / (86400 : Int64))), .second] [(.long (86400 : Int64)), (.long (a / (86400 : Int64)))])) (fun _ k => XS.lloadN X0.here hx rfl (hb hby d2_15) rfl k) ?_
  refine own_step (W' := s₁.setTop (mkF m 17 #[.val (.long a), .second, .val (.long (86400 : Int64)), .second, .val (.long (a / (86400 : Int64))), .second] [(.long ((a / (86400 : Int64)) * (86400 : Int64)))])) (fun _ k => XS.lmul X0.here hx rfl (hb hby d2_16) rfl k) ?_
  refine own_step (W' := s₁.setTop (mkF m 18 #[.val (.long a), .second, .val (.long (86400 : Int64)), .second, .val (.long (a / (86400 : Int64))), .second] [(.long a), (.long ((a / (86400 : Int64)) * (86400 : Int64)))])) (fun _ k => XS.lloadN X0.here hx rfl (hb hby d2_17) rfl k) ?_
  refine own_step (W' := s₁.setTop (mkF m 19 #[.val (.long a), .second, .val (.long (86400 : Int64)), .second, .val (.long (a / (86400 : Int64))), .second] [(.int (lcmpW ((a / (86400 : Int64)) * (86400 : Int64)) a))])) (fun _ k => XS.lcmp X0.here hx rfl (hb hby d2_18) rfl k) ?_
  refine own_step (W' := s₁.setTop (mkF m 27 #[.val (.long a), .second, .val (.long (86400 : Int64)), .second, .val (.long (a / (86400 : Int64))), .second] [])) (fun _ k => XS.ifYes X0.here hx rfl (pc0 := 19) (pc' := 27) rfl (hb hby d2_19) rfl ((if0 _ _).trans (teq c2).1) (by decide) (by decide) k) ?_
  refine own_step (W' := s₁.setTop (mkF m 29 #[.val (.long a), .second, .val (.long (86400 : Int64)), .second, .val (.long (a / (86400 : Int64))), .second] [(.long (a / (86400 : Int64)))])) (fun _ k => XS.lload X0.here hx rfl (hb hby d2_27) rfl k) ?_
  exact own_ret X0 Bd.notSynchronized Bd.returns (v := (.long (a / (86400 : Int64)))) (fun fs hr => retOut X0 hx Bd.returns rfl (Or.inr (Or.inl ⟨rfl, rfl, _, rfl⟩)) (hb hby d2_29) hr) ⟨rfl, N0, e0⟩ (by decide) (by decide)
set_option maxRecDepth 65536 in
set_option maxHeartbeats 40000000 in
theorem rm2_n (l : Launch) (Z : State) (a0 : Array Value) (hw : ∀ d ∈ tables_1, d.before a0 Z = true) (ws : List Jvm.Cond) (a : Int64) (c1 : lcmpW (a ^^^ (86400 : Int64)) (0 : Int64) < 0) (c2 : ¬ (lcmpW ((a / (86400 : Int64)) * (86400 : Int64)) a = 0)) (w : Nat → Addr) (h0 : Heap) (n0 : Nat) (Z0 : n0 ≤ h0.size) (P : Pins Z h0 w) :
    MetFree l (⟨"java/lang/Math", "floorDiv", "(JJ)J"⟩ : MethodName) (head1 (Jvm.Cond.code (⟨"java/lang/Math", "floorDiv", "(JJ)J"⟩ : MethodName) jdk_29_method_49_code 6 (some .long) :: ws) ({ frames := 0, cells := 0, slots := 0, locals := 0 } : Room)) (fun aA U => aA = #[(.long a), (.long (86400 : Int64))] ∧ Z.Warmed39 U.vm ∧ U.heap = h0) (fun _ _ _ _ _ => True) (fun _ U o U' => ∃ v L, o = .returned v ∧ own_QK (some (.long ((a / (86400 : Int64)) - (1 : Int64)))) h0 n0 v U'.heap L ∧ FrameEnd U o U' L ({ frames := 0, cells := 0, slots := 0, locals := 0 } : Room).cells ({ frames := 0, cells := 0, slots := 0, locals := 0 } : Room).slots) := by
  refine MetFree.of_bodySF (by decide +kernel) hisR ?_
  intro p e s m args below meth c s₁ Bd hml0 hP hK
  obtain ⟨rfl, hZ, hh⟩ := hP
  have hx := Bd.exec
  have hby := Bd.bytes
  have hml : c.maxLocals = 6 := hml0
  have hown : s.vm.findClass "java/lang/Math" = some m.cls := findClass_of_methodNamed Bd.named
  have hnm := (name_of_methodNamed Bd.named Bd.method).1
  have X0 : Stand p l e ({ frames := 0, cells := 0, slots := 0, locals := 0 } : Room) s m #[(.long a), (.long (86400 : Int64))] below meth c s₁ [] 0 0 := Stand.of_body Bd
  have e0 : s₁.heap = h0 := by rw [← hh, Bd.state]; rfl
  have N0 := Fr.nil n0
  refine own_enter (ef_2_JJ m a (86400 : Int64)) ?_
  refine own_step (W' := s₁.setTop (mkF m 1 #[.val (.long a), .second, .val (.long (86400 : Int64)), .second, .unset, .unset] [(.long a)])) (fun _ k => XS.lloadN X0.here hx rfl (hb hby d2_0) rfl k) ?_
  refine own_step (W' := s₁.setTop (mkF m 2 #[.val (.long a), .second, .val (.long (86400 : Int64)), .second, .unset, .unset] [(.long (86400 : Int64)), (.long a)])) (fun _ k => XS.lloadN X0.here hx rfl (hb hby d2_1) rfl k) ?_
  refine own_step (W' := s₁.setTop (mkF m 3 #[.val (.long a), .second, .val (.long (86400 : Int64)), .second, .unset, .unset] [(.long (a / (86400 : Int64)))])) (fun _ k => XS.ldiv X0.here hx rfl (hb hby d2_2) rfl (by decide) k) ?_
  refine own_step (W' := s₁.setTop (mkF m 5 #[.val (.long a), .second, .val (.long (86400 : Int64)), .second, .val (.long (a / (86400 : Int64))), .second] [])) (fun _ k => XS.lstore X0.here hx rfl (hb hby d2_3) rfl (l' := #[.val (.long a), .second, .val (.long (86400 : Int64)), .second, .val (.long (a / (86400 : Int64))), .second]) rfl k) ?_
  refine own_step (W' := s₁.setTop (mkF m 6 #[.val (.long a), .second, .val (.long (86400 : Int64)), .second, .val (.long (a / (86400 : Int64))), .second] [(.long a)])) (fun _ k => XS.lloadN X0.here hx rfl (hb hby d2_5) rfl k) ?_
  refine own_step (W' := s₁.setTop (mkF m 7 #[.val (.long a), .second, .val (.long (86400 : Int64)), .second, .val (.long (a / (86400 : Int64))), .second] [(.long (86400 : Int64)), (.long a)])) (fun _ k => XS.lloadN X0.here hx rfl (hb hby d2_6) rfl k) ?_
  refine own_step (W' := s₁.setTop (mkF m 8 #[.val (.long a), .second, .val (.long (86400 : Int64)), .second, .val (.long (a / (86400 : Int64))), .second] [(.long (a ^^^ (86400 : Int64)))])) (fun _ k => XS.lxor X0.here hx rfl (hb hby d2_7) rfl k) ?_
  refine own_step (W' := s₁.setTop (mkF m 9 #[.val (.long a), .second, .val (.long (86400 : Int64)), .second, .val (.long (a / (86400 : Int64))), .second] [(.long (0 : Int64)), (.long (a ^^^ (86400 : Int64)))])) (fun _ k => XS.lconst X0.here hx rfl (hb hby d2_8) k) ?_
  refine own_step (W' := s₁.setTop (mkF m 10 #[.val (.long a), .second, .val (.long (86400 : Int64)), .second, .val (.long (a / (86400 : Int64))), .second] [(.int (lcmpW (a ^^^ (86400 : Int64)) (0 : Int64)))])) (fun _ k => XS.lcmp X0.here hx rfl (hb hby d2_9) rfl k) ?_
  refine own_step (W' := s₁.setTop (mkF m 13 #[.val (.long a), .second, .val (.long (86400 : Int64)), .second, .val (.long (a / (86400 : Int64))), .second] [])) (fun _ k => XS.ifNo X0.here hx rfl (hb hby d2_10) rfl ((if0 _ _).trans (tlt c1).2.1) k) ?_
  refine own_step (W' := s₁.setTop (mkF m 15 #[.val (.long a), .second, .val (.long (86400 : Int64)), .second, .val (.long (a / (86400 : Int64))), .second] [(.long (a / (86400 : Int64)))])) (fun _ k => XS.lload X0.here hx rfl (hb hby d2_13) rfl k) ?_
  refine own_step (W' := s₁.setTop (mkF m 16 #[.val (.long a), .second, .val (.long (86400 : Int64)), .second, .val (.long (a / (86400 : Int64))), .second] [(.long (86400 : Int64)), (.long (a / (86400 : Int64)))])) (fun _ k => XS.lloadN X0.here hx rfl (hb hby d2_15) rfl k) ?_
  refine own_step (W' := s₁.setTop (mkF m 17 #[.val (.long a), .second, .val (.long (86400 : Int64)), .second, .val (.long (a / (86400 : Int64))), .second] [(.long ((a / (86400 : Int64)) * (86400 : Int64)))])) (fun _ k => XS.lmul X0.here hx rfl (hb hby d2_16) rfl k) ?_
  refine own_step (W' := s₁.setTop (mkF m 18 #[.val (.long a), .second, .val (.long (86400 : Int64)), .second, .val (.long (a / (86400 : Int64))), .second] [(.long a), (.long ((a / (86400 : Int64)) * (86400 : Int64)))])) (fun _ k => XS.lloadN X0.here hx rfl (hb hby d2_17) rfl k) ?_
  refine own_step (W' := s₁.setTop (mkF m 19 #[.val (.long a), .second, .val (.long (86400 : Int64)), .second, .val (.long (a / (86400 : Int64))), .second] [(.int (lcmpW ((a / (86400 : Int64)) * (86400 : Int64)) a))])) (fun _ k => XS.lcmp X0.here hx rfl (hb hby d2_18) rfl k) ?_
  refine own_step (W' := s₁.setTop (mkF m 22 #[.val (.long a), .second, .val (.long (86400 : Int64)), .second, .val (.long (a / (86400 : Int64))), .second] [])) (fun _ k => XS.ifNo X0.here hx rfl (hb hby d2_19) rfl ((if0 _ _).trans (feq c2).1) k) ?_
  refine own_step (W' := s₁.setTop (mkF m 24 #[.val (.long a), .second, .val (.long (86400 : Int64)), .second, .val (.long (a / (86400 : Int64))), .second] [(.long (a / (86400 : Int64)))])) (fun _ k => XS.lload X0.here hx rfl (hb hby d2_22) rfl k) ?_
  refine own_step (W' := s₁.setTop (mkF m 25 #[.val (.long a), .second, .val (.long (86400 : Int64)), .second, .val (.long (a / (86400 : Int64))), .second] [(.long (1 : Int64)), (.long (a / (86400 : Int64)))])) (fun _ k => XS.lconst X0.here hx rfl (hb hby d2_24) k) ?_
  refine own_step (W' := s₁.setTop (mkF m 26 #[.val (.long a), .second, .val (.long (86400 : Int64)), .second, .val (.long (a / (86400 : Int64))), .second] [(.long ((a / (86400 : Int64)) - (1 : Int64)))])) (fun _ k => XS.lsub X0.here hx rfl (hb hby d2_25) rfl k) ?_
  exact own_ret X0 Bd.notSynchronized Bd.returns (v := (.long ((a / (86400 : Int64)) - (1 : Int64)))) (fun fs hr => retOut X0 hx Bd.returns rfl (Or.inr (Or.inl ⟨rfl, rfl, _, rfl⟩)) (hb hby d2_26) hr) ⟨rfl, N0, e0⟩ (by decide) (by decide)
theorem rm2 (l : Launch) (Z : State) (a0 : Array Value) (hw : ∀ d ∈ tables_1, d.before a0 Z = true) (ws : List Jvm.Cond) (a : Int64) (w : Nat → Addr) (h0 : Heap) (n0 : Nat) (Z0 : n0 ≤ h0.size) (P : Pins Z h0 w) :
    MetFree l (⟨"java/lang/Math", "floorDiv", "(JJ)J"⟩ : MethodName) (head1 (Jvm.Cond.code (⟨"java/lang/Math", "floorDiv", "(JJ)J"⟩ : MethodName) jdk_29_method_49_code 6 (some .long) :: ws) ({ frames := 0, cells := 0, slots := 0, locals := 0 } : Room)) (fun aA U => aA = #[(.long a), (.long (86400 : Int64))] ∧ Z.Warmed39 U.vm ∧ U.heap = h0) (fun _ _ _ _ _ => True) (fun _ U o U' => ∃ v L, o = .returned v ∧ own_QK (some (.long (own_fd a))) h0 n0 v U'.heap L ∧ FrameEnd U o U' L ({ frames := 0, cells := 0, slots := 0, locals := 0 } : Room).cells ({ frames := 0, cells := 0, slots := 0, locals := 0 } : Room).slots) := by
  by_cases c1 : lcmpW (a ^^^ (86400 : Int64)) (0 : Int64) < 0
  · by_cases c2 : lcmpW ((a / (86400 : Int64)) * (86400 : Int64)) a = 0
    · have e : own_fd a = a / (86400 : Int64) := by unfold own_fd; rw [if_pos c1, if_pos c2]
      rw [e]; exact rm2_z l Z a0 hw ws a c1 c2 w h0 n0 Z0 P
    · have e : own_fd a = (a / (86400 : Int64)) - (1 : Int64) := by unfold own_fd; rw [if_pos c1, if_neg c2]
      rw [e]; exact rm2_n l Z a0 hw ws a c1 c2 w h0 n0 Z0 P
  · have e : own_fd a = a / (86400 : Int64) := by unfold own_fd; rw [if_neg c1]
    rw [e]; exact rm2_p l Z a0 hw ws a c1 w h0 n0 Z0 P
set_option maxRecDepth 65536 in
set_option maxHeartbeats 40000000 in
theorem rm1_A (l : Launch) (Z : State) (a0 : Array Value) (hw : ∀ d ∈ tables_1, d.before a0 Z = true) (ws : List Jvm.Cond) (a : Int64) (k1 : lcmpW (own_fd a) (-719528 : Int64) < 0) (w : Nat → Addr) (h0 : Heap) (n0 : Nat) (Z0 : n0 ≤ h0.size) (P : Pins Z h0 w) :
    MetFree l (⟨"com/example/levy/levy/Timestamps", "writesDateTime", "(J)Z"⟩ : MethodName) (head1 (Jvm.Cond.code (⟨"com/example/levy/levy/Timestamps", "writesDateTime", "(J)Z"⟩ : MethodName) prog_24_method_4_code 4 (some .boolean) :: ws) ({ frames := 1, cells := 0, slots := 0, locals := 17 } : Room)) (fun aA U => aA = #[(.long a)] ∧ Z.Warmed39 U.vm ∧ U.heap = h0) (fun _ _ _ _ _ => True) (fun _ U o U' => ∃ v L, o = .returned v ∧ own_QK (some (.int (0 : Int32))) h0 n0 v U'.heap L ∧ FrameEnd U o U' L ({ frames := 1, cells := 0, slots := 0, locals := 17 } : Room).cells ({ frames := 1, cells := 0, slots := 0, locals := 17 } : Room).slots) := by
  refine MetFree.of_bodySF (plainFor_of_name pn_com_example_levy_levy_Timestamps) hisR ?_
  intro p e s m args below meth c s₁ Bd hml0 hP hK
  obtain ⟨rfl, hZ, hh⟩ := hP
  have hx := Bd.exec
  have hby := Bd.bytes
  have hml : c.maxLocals = 4 := hml0
  have hown : s.vm.findClass "com/example/levy/levy/Timestamps" = some m.cls := findClass_of_methodNamed Bd.named
  have hnm := (name_of_methodNamed Bd.named Bd.method).1
  have X0 : Stand p l e ({ frames := 1, cells := 0, slots := 0, locals := 17 } : Room) s m #[(.long a)] below meth c s₁ [] 0 0 := Stand.of_body Bd
  have e0 : s₁.heap = h0 := by rw [← hh, Bd.state]; rfl
  have N0 := Fr.nil n0
  refine own_enter (ef_1_J m a) ?_
  refine own_step (W' := s₁.setTop (mkF m 1 #[.val (.long a), .second, .unset, .unset] [(.long a)])) (fun _ k => XS.lloadN X0.here hx rfl (hb hby d1_0) rfl k) ?_
  refine own_step (W' := s₁.setTop (mkF m 4 #[.val (.long a), .second, .unset, .unset] [(.long (86400 : Int64)), (.long a)])) (fun _ k => X0.ldc2Long hx hown (mvT hZ (hw _ (List.mem_of_getElem? (i := 7) rfl))) (g := (mkF m 1 #[.val (.long a), .second, .unset, .unset] [(.long a)])) rfl (hb hby d1_1) _ k) ?_
  obtain ⟨_, _, ⟨T1, L1, k1, n1⟩, -, X1, ⟨Lc1, hQ1, l1, y1, z1⟩, st1⟩ := Jvm.LawKit.callS X0 hx (y := (⟨"java/lang/Math", "floorDiv", "(JJ)J"⟩ : MethodName)) hown (mvT hZ (hw _ (List.mem_of_getElem? (i := 8) rfl))) (mvT hZ (hw _ (List.mem_of_getElem? (i := 9) rfl))) (mvT hZ (hw _ (List.mem_of_getElem? (i := 10) rfl))) (mvT hZ (hw _ (List.mem_of_getElem? (i := 11) rfl))) (by decide) (backOf (W := 0) (rm2 l Z a0 hw [] a w h0 n0 Z0 P) hZ (hw _ (List.mem_of_getElem? (i := 11) rfl)) (hw _ (List.mem_of_getElem? (i := 10) rfl)) (by decide) (by decide)) (g := (mkF m 4 #[.val (.long a), .second, .unset, .unset] [(.long (86400 : Int64)), (.long a)])) rfl (by rw [hml]; rfl) (argsL := [(.long a), (.long (86400 : Int64))]) (rest := []) (lenOf pd_0 rfl) rfl (by show 2 * 0 + _ ≤ _; exact Nat.le_of_eq rfl) (hb hby d1_4) (fun _ _ => ⟨rfl, e0, (by decide : 0 + 0 ≤ _), (by decide : 0 + 0 ≤ _)⟩)
  dsimp only [Pt.U, Pt.locs, Pt.cells, Pt.slots] at X1 l1 y1 z1 st1 hQ1
  subst l1 y1 z1
  obtain ⟨rfl, N1q, e1⟩ := hQ1
  have N1 := Fr.app N0 N1q
  refine own_step (W' := T1.setTop (mkF m 7 #[.val (.long a), .second, .unset, .unset] [(.long (own_fd a))])) (fun _ k => st1 _ k) ?_
  refine own_step (W' := T1.setTop (mkF m 8 #[.val (.long a), .second, .val (.long (own_fd a)), .second] [])) (fun _ k => XS.lstoreN X1.here hx rfl (hb hby d1_7) rfl (l' := #[.val (.long a), .second, .val (.long (own_fd a)), .second]) rfl k) ?_
  refine own_step (W' := T1.setTop (mkF m 9 #[.val (.long a), .second, .val (.long (own_fd a)), .second] [(.long (own_fd a))])) (fun _ k => XS.lloadN X1.here hx rfl (hb hby d1_8) rfl k) ?_
  obtain ⟨T2, X2, e2, st2⟩ := getS2 X1 hx hZ hown (host := "") (Or.inl (hw _ (List.mem_of_getElem? (i := 12) rfl))) Via.refl e1 (pin_S0 P) (g := (mkF m 9 #[.val (.long a), .second, .val (.long (own_fd a)), .second] [(.long (own_fd a))])) rfl (hb hby d1_9)
  refine own_step (W' := T2.setTop (mkF m 12 #[.val (.long a), .second, .val (.long (own_fd a)), .second] [(.long (-719528 : Int64)), (.long (own_fd a))])) (fun _ k => st2 _ k) ?_
  refine own_step (W' := T2.setTop (mkF m 13 #[.val (.long a), .second, .val (.long (own_fd a)), .second] [(.int (lcmpW (own_fd a) (-719528 : Int64)))])) (fun _ k => XS.lcmp X2.here hx rfl (hb hby d1_12) rfl k) ?_
  refine own_step (W' := T2.setTop (mkF m 28 #[.val (.long a), .second, .val (.long (own_fd a)), .second] [])) (fun _ k => XS.ifYes X2.here hx rfl (pc0 := 13) (pc' := 28) rfl (hb hby d1_13) rfl ((if0 _ _).trans (tlt k1).1) (by decide) (by decide) k) ?_
  refine own_step (W' := T2.setTop (mkF m 29 #[.val (.long a), .second, .val (.long (own_fd a)), .second] [(.int (0 : Int32))])) (fun _ k => XS.iconst X2.here hx rfl (hb hby d1_28) k) ?_
  exact own_ret X2 Bd.notSynchronized Bd.returns (v := (.int (0 : Int32))) (fun fs hr => retN X2 hx (t := .boolean) Bd.returns (by simp) (hb hby d1_29) hr) ⟨rfl, N1, e2⟩ (by decide) (by decide)
set_option maxRecDepth 65536 in
set_option maxHeartbeats 40000000 in
theorem rm1_B (l : Launch) (Z : State) (a0 : Array Value) (hw : ∀ d ∈ tables_1, d.before a0 Z = true) (ws : List Jvm.Cond) (a : Int64) (k1 : ¬ (lcmpW (own_fd a) (-719528 : Int64) < 0)) (k2 : 0 < lcmpW (own_fd a) (2932896 : Int64)) (w : Nat → Addr) (h0 : Heap) (n0 : Nat) (Z0 : n0 ≤ h0.size) (P : Pins Z h0 w) :
    MetFree l (⟨"com/example/levy/levy/Timestamps", "writesDateTime", "(J)Z"⟩ : MethodName) (head1 (Jvm.Cond.code (⟨"com/example/levy/levy/Timestamps", "writesDateTime", "(J)Z"⟩ : MethodName) prog_24_method_4_code 4 (some .boolean) :: ws) ({ frames := 1, cells := 0, slots := 0, locals := 17 } : Room)) (fun aA U => aA = #[(.long a)] ∧ Z.Warmed39 U.vm ∧ U.heap = h0) (fun _ _ _ _ _ => True) (fun _ U o U' => ∃ v L, o = .returned v ∧ own_QK (some (.int (0 : Int32))) h0 n0 v U'.heap L ∧ FrameEnd U o U' L ({ frames := 1, cells := 0, slots := 0, locals := 17 } : Room).cells ({ frames := 1, cells := 0, slots := 0, locals := 17 } : Room).slots) := by
  refine MetFree.of_bodySF (plainFor_of_name pn_com_example_levy_levy_Timestamps) hisR ?_
  intro p e s m args below meth c s₁ Bd hml0 hP hK
  obtain ⟨rfl, hZ, hh⟩ := hP
  have hx := Bd.exec
  have hby := Bd.bytes
  have hml : c.maxLocals = 4 := hml0
  have hown : s.vm.findClass "com/example/levy/levy/Timestamps" = some m.cls := findClass_of_methodNamed Bd.named
  have hnm := (name_of_methodNamed Bd.named Bd.method).1
  have X0 : Stand p l e ({ frames := 1, cells := 0, slots := 0, locals := 17 } : Room) s m #[(.long a)] below meth c s₁ [] 0 0 := Stand.of_body Bd
  have e0 : s₁.heap = h0 := by rw [← hh, Bd.state]; rfl
  have N0 := Fr.nil n0
  refine own_enter (ef_1_J m a) ?_
  refine own_step (W' := s₁.setTop (mkF m 1 #[.val (.long a), .second, .unset, .unset] [(.long a)])) (fun _ k => XS.lloadN X0.here hx rfl (hb hby d1_0) rfl k) ?_
  refine own_step (W' := s₁.setTop (mkF m 4 #[.val (.long a), .second, .unset, .unset] [(.long (86400 : Int64)), (.long a)])) (fun _ k => X0.ldc2Long hx hown (mvT hZ (hw _ (List.mem_of_getElem? (i := 7) rfl))) (g := (mkF m 1 #[.val (.long a), .second, .unset, .unset] [(.long a)])) rfl (hb hby d1_1) _ k) ?_
  obtain ⟨_, _, ⟨T1, L1, k1, n1⟩, -, X1, ⟨Lc1, hQ1, l1, y1, z1⟩, st1⟩ := Jvm.LawKit.callS X0 hx (y := (⟨"java/lang/Math", "floorDiv", "(JJ)J"⟩ : MethodName)) hown (mvT hZ (hw _ (List.mem_of_getElem? (i := 8) rfl))) (mvT hZ (hw _ (List.mem_of_getElem? (i := 9) rfl))) (mvT hZ (hw _ (List.mem_of_getElem? (i := 10) rfl))) (mvT hZ (hw _ (List.mem_of_getElem? (i := 11) rfl))) (by decide) (backOf (W := 0) (rm2 l Z a0 hw [] a w h0 n0 Z0 P) hZ (hw _ (List.mem_of_getElem? (i := 11) rfl)) (hw _ (List.mem_of_getElem? (i := 10) rfl)) (by decide) (by decide)) (g := (mkF m 4 #[.val (.long a), .second, .unset, .unset] [(.long (86400 : Int64)), (.long a)])) rfl (by rw [hml]; rfl) (argsL := [(.long a), (.long (86400 : Int64))]) (rest := []) (lenOf pd_0 rfl) rfl (by show 2 * 0 + _ ≤ _; exact Nat.le_of_eq rfl) (hb hby d1_4) (fun _ _ => ⟨rfl, e0, (by decide : 0 + 0 ≤ _), (by decide : 0 + 0 ≤ _)⟩)
  dsimp only [Pt.U, Pt.locs, Pt.cells, Pt.slots] at X1 l1 y1 z1 st1 hQ1
  subst l1 y1 z1
  obtain ⟨rfl, N1q, e1⟩ := hQ1
  have N1 := Fr.app N0 N1q
  refine own_step (W' := T1.setTop (mkF m 7 #[.val (.long a), .second, .unset, .unset] [(.long (own_fd a))])) (fun _ k => st1 _ k) ?_
  refine own_step (W' := T1.setTop (mkF m 8 #[.val (.long a), .second, .val (.long (own_fd a)), .second] [])) (fun _ k => XS.lstoreN X1.here hx rfl (hb hby d1_7) rfl (l' := #[.val (.long a), .second, .val (.long (own_fd a)), .second]) rfl k) ?_
  refine own_step (W' := T1.setTop (mkF m 9 #[.val (.long a), .second, .val (.long (own_fd a)), .second] [(.long (own_fd a))])) (fun _ k => XS.lloadN X1.here hx rfl (hb hby d1_8) rfl k) ?_
  obtain ⟨T2, X2, e2, st2⟩ := getS2 X1 hx hZ hown (host := "") (Or.inl (hw _ (List.mem_of_getElem? (i := 12) rfl))) Via.refl e1 (pin_S0 P) (g := (mkF m 9 #[.val (.long a), .second, .val (.long (own_fd a)), .second] [(.long (own_fd a))])) rfl (hb hby d1_9)
  refine own_step (W' := T2.setTop (mkF m 12 #[.val (.long a), .second, .val (.long (own_fd a)), .second] [(.long (-719528 : Int64)), (.long (own_fd a))])) (fun _ k => st2 _ k) ?_
  refine own_step (W' := T2.setTop (mkF m 13 #[.val (.long a), .second, .val (.long (own_fd a)), .second] [(.int (lcmpW (own_fd a) (-719528 : Int64)))])) (fun _ k => XS.lcmp X2.here hx rfl (hb hby d1_12) rfl k) ?_
  refine own_step (W' := T2.setTop (mkF m 16 #[.val (.long a), .second, .val (.long (own_fd a)), .second] [])) (fun _ k => XS.ifNo X2.here hx rfl (hb hby d1_13) rfl ((if0 _ _).trans (flt k1).1) k) ?_
  refine own_step (W' := T2.setTop (mkF m 17 #[.val (.long a), .second, .val (.long (own_fd a)), .second] [(.long (own_fd a))])) (fun _ k => XS.lloadN X2.here hx rfl (hb hby d1_16) rfl k) ?_
  obtain ⟨T3, X3, e3, st3⟩ := getS2 X2 hx hZ hown (host := "") (Or.inl (hw _ (List.mem_of_getElem? (i := 14) rfl))) Via.refl e2 (pin_S1 P) (g := (mkF m 17 #[.val (.long a), .second, .val (.long (own_fd a)), .second] [(.long (own_fd a))])) rfl (hb hby d1_17)
  refine own_step (W' := T3.setTop (mkF m 20 #[.val (.long a), .second, .val (.long (own_fd a)), .second] [(.long (2932896 : Int64)), (.long (own_fd a))])) (fun _ k => st3 _ k) ?_
  refine own_step (W' := T3.setTop (mkF m 21 #[.val (.long a), .second, .val (.long (own_fd a)), .second] [(.int (lcmpW (own_fd a) (2932896 : Int64)))])) (fun _ k => XS.lcmp X3.here hx rfl (hb hby d1_20) rfl k) ?_
  refine own_step (W' := T3.setTop (mkF m 28 #[.val (.long a), .second, .val (.long (own_fd a)), .second] [])) (fun _ k => XS.ifYes X3.here hx rfl (pc0 := 21) (pc' := 28) rfl (hb hby d1_21) rfl ((if0 _ _).trans (tlt k2).2.2.1) (by decide) (by decide) k) ?_
  refine own_step (W' := T3.setTop (mkF m 29 #[.val (.long a), .second, .val (.long (own_fd a)), .second] [(.int (0 : Int32))])) (fun _ k => XS.iconst X3.here hx rfl (hb hby d1_28) k) ?_
  exact own_ret X3 Bd.notSynchronized Bd.returns (v := (.int (0 : Int32))) (fun fs hr => retN X3 hx (t := .boolean) Bd.returns (by simp) (hb hby d1_29) hr) ⟨rfl, N1, e3⟩ (by decide) (by decide)
set_option maxRecDepth 65536 in
set_option maxHeartbeats 40000000 in
theorem rm1_C (l : Launch) (Z : State) (a0 : Array Value) (hw : ∀ d ∈ tables_1, d.before a0 Z = true) (ws : List Jvm.Cond) (a : Int64) (k1 : ¬ (lcmpW (own_fd a) (-719528 : Int64) < 0)) (k2 : ¬ (0 < lcmpW (own_fd a) (2932896 : Int64))) (w : Nat → Addr) (h0 : Heap) (n0 : Nat) (Z0 : n0 ≤ h0.size) (P : Pins Z h0 w) :
    MetFree l (⟨"com/example/levy/levy/Timestamps", "writesDateTime", "(J)Z"⟩ : MethodName) (head1 (Jvm.Cond.code (⟨"com/example/levy/levy/Timestamps", "writesDateTime", "(J)Z"⟩ : MethodName) prog_24_method_4_code 4 (some .boolean) :: ws) ({ frames := 1, cells := 0, slots := 0, locals := 17 } : Room)) (fun aA U => aA = #[(.long a)] ∧ Z.Warmed39 U.vm ∧ U.heap = h0) (fun _ _ _ _ _ => True) (fun _ U o U' => ∃ v L, o = .returned v ∧ own_QK (some (.int (1 : Int32))) h0 n0 v U'.heap L ∧ FrameEnd U o U' L ({ frames := 1, cells := 0, slots := 0, locals := 17 } : Room).cells ({ frames := 1, cells := 0, slots := 0, locals := 17 } : Room).slots) := by
  refine MetFree.of_bodySF (plainFor_of_name pn_com_example_levy_levy_Timestamps) hisR ?_
  intro p e s m args below meth c s₁ Bd hml0 hP hK
  obtain ⟨rfl, hZ, hh⟩ := hP
  have hx := Bd.exec
  have hby := Bd.bytes
  have hml : c.maxLocals = 4 := hml0
  have hown : s.vm.findClass "com/example/levy/levy/Timestamps" = some m.cls := findClass_of_methodNamed Bd.named
  have hnm := (name_of_methodNamed Bd.named Bd.method).1
  have X0 : Stand p l e ({ frames := 1, cells := 0, slots := 0, locals := 17 } : Room) s m #[(.long a)] below meth c s₁ [] 0 0 := Stand.of_body Bd
  have e0 : s₁.heap = h0 := by rw [← hh, Bd.state]; rfl
  have N0 := Fr.nil n0
  refine own_enter (ef_1_J m a) ?_
  refine own_step (W' := s₁.setTop (mkF m 1 #[.val (.long a), .second, .unset, .unset] [(.long a)])) (fun _ k => XS.lloadN X0.here hx rfl (hb hby d1_0) rfl k) ?_
  refine own_step (W' := s₁.setTop (mkF m 4 #[.val (.long a), .second, .unset, .unset] [(.long (86400 : Int64)), (.long a)])) (fun _ k => X0.ldc2Long hx hown (mvT hZ (hw _ (List.mem_of_getElem? (i := 7) rfl))) (g := (mkF m 1 #[.val (.long a), .second, .unset, .unset] [(.long a)])) rfl (hb hby d1_1) _ k) ?_
  obtain ⟨_, _, ⟨T1, L1, k1, n1⟩, -, X1, ⟨Lc1, hQ1, l1, y1, z1⟩, st1⟩ := Jvm.LawKit.callS X0 hx (y := (⟨"java/lang/Math", "floorDiv", "(JJ)J"⟩ : MethodName)) hown (mvT hZ (hw _ (List.mem_of_getElem? (i := 8) rfl))) (mvT hZ (hw _ (List.mem_of_getElem? (i := 9) rfl))) (mvT hZ (hw _ (List.mem_of_getElem? (i := 10) rfl))) (mvT hZ (hw _ (List.mem_of_getElem? (i := 11) rfl))) (by decide) (backOf (W := 0) (rm2 l Z a0 hw [] a w h0 n0 Z0 P) hZ (hw _ (List.mem_of_getElem? (i := 11) rfl)) (hw _ (List.mem_of_getElem? (i := 10) rfl)) (by decide) (by decide)) (g := (mkF m 4 #[.val (.long a), .second, .unset, .unset] [(.long (86400 : Int64)), (.long a)])) rfl (by rw [hml]; rfl) (argsL := [(.long a), (.long (86400 : Int64))]) (rest := []) (lenOf pd_0 rfl) rfl (by show 2 * 0 + _ ≤ _; exact Nat.le_of_eq rfl) (hb hby d1_4) (fun _ _ => ⟨rfl, e0, (by decide : 0 + 0 ≤ _), (by decide : 0 + 0 ≤ _)⟩)
  dsimp only [Pt.U, Pt.locs, Pt.cells, Pt.slots] at X1 l1 y1 z1 st1 hQ1
  subst l1 y1 z1
  obtain ⟨rfl, N1q, e1⟩ := hQ1
  have N1 := Fr.app N0 N1q
  refine own_step (W' := T1.setTop (mkF m 7 #[.val (.long a), .second, .unset, .unset] [(.long (own_fd a))])) (fun _ k => st1 _ k) ?_
  refine own_step (W' := T1.setTop (mkF m 8 #[.val (.long a), .second, .val (.long (own_fd a)), .second] [])) (fun _ k => XS.lstoreN X1.here hx rfl (hb hby d1_7) rfl (l' := #[.val (.long a), .second, .val (.long (own_fd a)), .second]) rfl k) ?_
  refine own_step (W' := T1.setTop (mkF m 9 #[.val (.long a), .second, .val (.long (own_fd a)), .second] [(.long (own_fd a))])) (fun _ k => XS.lloadN X1.here hx rfl (hb hby d1_8) rfl k) ?_
  obtain ⟨T2, X2, e2, st2⟩ := getS2 X1 hx hZ hown (host := "") (Or.inl (hw _ (List.mem_of_getElem? (i := 12) rfl))) Via.refl e1 (pin_S0 P) (g := (mkF m 9 #[.val (.long a), .second, .val (.long (own_fd a)), .second] [(.long (own_fd a))])) rfl (hb hby d1_9)
  refine own_step (W' := T2.setTop (mkF m 12 #[.val (.long a), .second, .val (.long (own_fd a)), .second] [(.long (-719528 : Int64)), (.long (own_fd a))])) (fun _ k => st2 _ k) ?_
  refine own_step (W' := T2.setTop (mkF m 13 #[.val (.long a), .second, .val (.long (own_fd a)), .second] [(.int (lcmpW (own_fd a) (-719528 : Int64)))])) (fun _ k => XS.lcmp X2.here hx rfl (hb hby d1_12) rfl k) ?_
  refine own_step (W' := T2.setTop (mkF m 16 #[.val (.long a), .second, .val (.long (own_fd a)), .second] [])) (fun _ k => XS.ifNo X2.here hx rfl (hb hby d1_13) rfl ((if0 _ _).trans (flt k1).1) k) ?_
  refine own_step (W' := T2.setTop (mkF m 17 #[.val (.long a), .second, .val (.long (own_fd a)), .second] [(.long (own_fd a))])) (fun _ k => XS.lloadN X2.here hx rfl (hb hby d1_16) rfl k) ?_
  obtain ⟨T3, X3, e3, st3⟩ := getS2 X2 hx hZ hown (host := "") (Or.inl (hw _ (List.mem_of_getElem? (i := 14) rfl))) Via.refl e2 (pin_S1 P) (g := (mkF m 17 #[.val (.long a), .second, .val (.long (own_fd a)), .second] [(.long (own_fd a))])) rfl (hb hby d1_17)
  refine own_step (W' := T3.setTop (mkF m 20 #[.val (.long a), .second, .val (.long (own_fd a)), .second] [(.long (2932896 : Int64)), (.long (own_fd a))])) (fun _ k => st3 _ k) ?_
  refine own_step (W' := T3.setTop (mkF m 21 #[.val (.long a), .second, .val (.long (own_fd a)), .second] [(.int (lcmpW (own_fd a) (2932896 : Int64)))])) (fun _ k => XS.lcmp X3.here hx rfl (hb hby d1_20) rfl k) ?_
  refine own_step (W' := T3.setTop (mkF m 24 #[.val (.long a), .second, .val (.long (own_fd a)), .second] [])) (fun _ k => XS.ifNo X3.here hx rfl (hb hby d1_21) rfl ((if0 _ _).trans (flt k2).2.2.1) k) ?_
  refine own_step (W' := T3.setTop (mkF m 25 #[.val (.long a), .second, .val (.long (own_fd a)), .second] [(.int (1 : Int32))])) (fun _ k => XS.iconst X3.here hx rfl (hb hby d1_24) k) ?_
  refine own_step (W' := T3.setTop (mkF m 29 #[.val (.long a), .second, .val (.long (own_fd a)), .second] [(.int (1 : Int32))])) (fun _ k => XS.goto X3.here hx rfl (pc0 := 25) (pc' := 29) rfl (hb hby d1_25) (by decide) (by decide) k) ?_
  exact own_ret X3 Bd.notSynchronized Bd.returns (v := (.int (1 : Int32))) (fun fs hr => retN X3 hx (t := .boolean) Bd.returns (by simp) (hb hby d1_29) hr) ⟨rfl, N1, e3⟩ (by decide) (by decide)
set_option maxRecDepth 65536 in
set_option maxHeartbeats 40000000 in
theorem own_tail_A {p : Program} {l : Launch} {e : Env} {s : State} {m : MethodId} {args : Array Value} {below : List Frame} {meth : Method} {c : Code} {s₁ : State} {Z : State} {a0 : Array Value} {h0 : Heap} {n0 : Nat} {w : Nat → Addr} (p0 : Int64) (p2 p3 : Int32) (d : Int64) (i10 : Int32) (a : Int64) (h1 : lcmpW a (-62167219200 : Int64) < 0) (k1 : lcmpW (own_fd a) (-719528 : Int64) < 0)
    (X0 : Stand p l e room_1 s m args below meth c s₁ [] 0 0) (hx : p.tables.exec = Jvm.exec) (hZ : Z.Warmed39 s.vm) (hw : ∀ d ∈ tables_1, d.before a0 Z = true) (hby : c.code = code) (hml : c.maxLocals = 14) (hown : s.vm.findClass "com/example/levy/levy/TimestampsWritesDateTimePinLaw" = some m.cls) (e0 : s₁.heap = h0) (N0 : Fr n0 []) (Z0 : n0 ≤ h0.size) (P : Pins Z h0 w) (hlk : meth.locks = false) (hret : meth.sig.returnType = ret) :
    own_Done p e below (s₁.setTop (mkF m 69 #[.val (.long p0), .second, .val (.int p2), .val (.int p3), .val (.long (-62167219200 : Int64)), .second, .val (.long (253402300799 : Int64)), .second, .val (.long d), .second, .val (.int i10), .val (.long a), .second, .unset] [])) (fun o U' => ∃ v L, o = .returned v ∧ own_Q0 n0 v U'.heap L ∧ FrameEnd s o U' L room_1.cells room_1.slots) := by
  refine own_step (W' := s₁.setTop (mkF m 71 #[.val (.long p0), .second, .val (.int p2), .val (.int p3), .val (.long (-62167219200 : Int64)), .second, .val (.long (253402300799 : Int64)), .second, .val (.long d), .second, .val (.int i10), .val (.long a), .second, .unset] [(.long a)])) (fun _ k => XS.lload X0.here hx rfl (hb hby at_69) rfl k) ?_
  refine own_step (W' := s₁.setTop (mkF m 73 #[.val (.long p0), .second, .val (.int p2), .val (.int p3), .val (.long (-62167219200 : Int64)), .second, .val (.long (253402300799 : Int64)), .second, .val (.long d), .second, .val (.int i10), .val (.long a), .second, .unset] [(.long (-62167219200 : Int64)), (.long a)])) (fun _ k => XS.lload X0.here hx rfl (hb hby at_71) rfl k) ?_
  refine own_step (W' := s₁.setTop (mkF m 74 #[.val (.long p0), .second, .val (.int p2), .val (.int p3), .val (.long (-62167219200 : Int64)), .second, .val (.long (253402300799 : Int64)), .second, .val (.long d), .second, .val (.int i10), .val (.long a), .second, .unset] [(.int (lcmpW a (-62167219200 : Int64)))])) (fun _ k => XS.lcmp X0.here hx rfl (hb hby at_73) rfl k) ?_
  refine own_step (W' := s₁.setTop (mkF m 89 #[.val (.long p0), .second, .val (.int p2), .val (.int p3), .val (.long (-62167219200 : Int64)), .second, .val (.long (253402300799 : Int64)), .second, .val (.long d), .second, .val (.int i10), .val (.long a), .second, .unset] [])) (fun _ k => XS.ifYes X0.here hx rfl (pc0 := 74) (pc' := 89) rfl (hb hby at_74) rfl ((if0 _ _).trans (tlt h1).1) (by decide) (by decide) k) ?_
  refine own_step (W' := s₁.setTop (mkF m 90 #[.val (.long p0), .second, .val (.int p2), .val (.int p3), .val (.long (-62167219200 : Int64)), .second, .val (.long (253402300799 : Int64)), .second, .val (.long d), .second, .val (.int i10), .val (.long a), .second, .unset] [(.int (0 : Int32))])) (fun _ k => XS.iconst X0.here hx rfl (hb hby at_89) k) ?_
  refine own_step (W' := s₁.setTop (mkF m 92 #[.val (.long p0), .second, .val (.int p2), .val (.int p3), .val (.long (-62167219200 : Int64)), .second, .val (.long (253402300799 : Int64)), .second, .val (.long d), .second, .val (.int i10), .val (.long a), .second, .val (.int (0 : Int32))] [])) (fun _ k => XS.istore X0.here hx rfl (hb hby at_90) rfl (l' := #[.val (.long p0), .second, .val (.int p2), .val (.int p3), .val (.long (-62167219200 : Int64)), .second, .val (.long (253402300799 : Int64)), .second, .val (.long d), .second, .val (.int i10), .val (.long a), .second, .val (.int (0 : Int32))]) rfl k) ?_
  refine own_step (W' := s₁.setTop (mkF m 94 #[.val (.long p0), .second, .val (.int p2), .val (.int p3), .val (.long (-62167219200 : Int64)), .second, .val (.long (253402300799 : Int64)), .second, .val (.long d), .second, .val (.int i10), .val (.long a), .second, .val (.int (0 : Int32))] [(.long a)])) (fun _ k => XS.lload X0.here hx rfl (hb hby at_92) rfl k) ?_
  obtain ⟨_, _, ⟨T1, L1, k1, n1⟩, -, X1, ⟨Lc1, hQ1, l1, y1, z1⟩, st1⟩ := Jvm.LawKit.callS X0 hx (y := (⟨"com/example/levy/levy/Timestamps", "writesDateTime", "(J)Z"⟩ : MethodName)) hown (mvT hZ (hw _ (List.mem_of_getElem? (i := 3) rfl))) (mvT hZ (hw _ (List.mem_of_getElem? (i := 4) rfl))) (mvT hZ (hw _ (List.mem_of_getElem? (i := 5) rfl))) (mvT hZ (hw _ (List.mem_of_getElem? (i := 6) rfl))) (by decide) (backOf (W := 0) (rm1_A l Z a0 hw [] a k1 w h0 n0 Z0 P) hZ (hw _ (List.mem_of_getElem? (i := 6) rfl)) (hw _ (List.mem_of_getElem? (i := 5) rfl)) (by decide) (by decide)) (g := (mkF m 94 #[.val (.long p0), .second, .val (.int p2), .val (.int p3), .val (.long (-62167219200 : Int64)), .second, .val (.long (253402300799 : Int64)), .second, .val (.long d), .second, .val (.int i10), .val (.long a), .second, .val (.int (0 : Int32))] [(.long a)])) rfl (by rw [hml]; rfl) (argsL := [(.long a)]) (rest := []) (lenOf pd_1 rfl) rfl (by show 2 * 0 + _ ≤ _; exact Nat.le_of_eq rfl) (hb hby at_94) (fun _ _ => ⟨rfl, e0, (by decide : 0 + 0 ≤ _), (by decide : 0 + 0 ≤ _)⟩)
  dsimp only [Pt.U, Pt.locs, Pt.cells, Pt.slots] at X1 l1 y1 z1 st1 hQ1
  subst l1 y1 z1
  obtain ⟨rfl, N1q, e1⟩ := hQ1
  have N1 := Fr.app N0 N1q
  refine own_step (W' := T1.setTop (mkF m 97 #[.val (.long p0), .second, .val (.int p2), .val (.int p3), .val (.long (-62167219200 : Int64)), .second, .val (.long (253402300799 : Int64)), .second, .val (.long d), .second, .val (.int i10), .val (.long a), .second, .val (.int (0 : Int32))] [(.int (0 : Int32))])) (fun _ k => st1 _ k) ?_
  refine own_step (W' := T1.setTop (mkF m 99 #[.val (.long p0), .second, .val (.int p2), .val (.int p3), .val (.long (-62167219200 : Int64)), .second, .val (.long (253402300799 : Int64)), .second, .val (.long d), .second, .val (.int i10), .val (.long a), .second, .val (.int (0 : Int32))] [(.int (0 : Int32)), (.int (0 : Int32))])) (fun _ k => XS.iload X1.here hx rfl (hb hby at_97) rfl k) ?_
  refine own_step (W' := T1.setTop (mkF m 102 #[.val (.long p0), .second, .val (.int p2), .val (.int p3), .val (.long (-62167219200 : Int64)), .second, .val (.long (253402300799 : Int64)), .second, .val (.long d), .second, .val (.int i10), .val (.long a), .second, .val (.int (0 : Int32))] [])) (fun _ k => XS.icmpNo X1.here hx rfl (hb hby at_99) rfl (by decide) k) ?_
  refine own_step (W' := T1.setTop (mkF m 103 #[.val (.long p0), .second, .val (.int p2), .val (.int p3), .val (.long (-62167219200 : Int64)), .second, .val (.long (253402300799 : Int64)), .second, .val (.long d), .second, .val (.int i10), .val (.long a), .second, .val (.int (0 : Int32))] [(.int (1 : Int32))])) (fun _ k => XS.iconst X1.here hx rfl (hb hby at_102) k) ?_
  refine own_step (W' := T1.setTop (mkF m 107 #[.val (.long p0), .second, .val (.int p2), .val (.int p3), .val (.long (-62167219200 : Int64)), .second, .val (.long (253402300799 : Int64)), .second, .val (.long d), .second, .val (.int i10), .val (.long a), .second, .val (.int (0 : Int32))] [(.int (1 : Int32))])) (fun _ k => XS.goto X1.here hx rfl (pc0 := 103) (pc' := 107) rfl (hb hby at_103) (by decide) (by decide) k) ?_
  exact own_ret X1 hlk hret (v := (.int (1 : Int32))) (fun fs hr => retN X1 hx (t := .boolean) hret (by simp) (hb hby at_107) hr) ⟨rfl, N1⟩ (by decide) (by decide)
set_option maxRecDepth 65536 in
set_option maxHeartbeats 40000000 in
theorem own_tail_B {p : Program} {l : Launch} {e : Env} {s : State} {m : MethodId} {args : Array Value} {below : List Frame} {meth : Method} {c : Code} {s₁ : State} {Z : State} {a0 : Array Value} {h0 : Heap} {n0 : Nat} {w : Nat → Addr} (p0 : Int64) (p2 p3 : Int32) (d : Int64) (i10 : Int32) (a : Int64) (h1 : ¬ (lcmpW a (-62167219200 : Int64) < 0)) (h2 : 0 < lcmpW a (253402300799 : Int64)) (k1 : ¬ (lcmpW (own_fd a) (-719528 : Int64) < 0)) (k2 : 0 < lcmpW (own_fd a) (2932896 : Int64))
    (X0 : Stand p l e room_1 s m args below meth c s₁ [] 0 0) (hx : p.tables.exec = Jvm.exec) (hZ : Z.Warmed39 s.vm) (hw : ∀ d ∈ tables_1, d.before a0 Z = true) (hby : c.code = code) (hml : c.maxLocals = 14) (hown : s.vm.findClass "com/example/levy/levy/TimestampsWritesDateTimePinLaw" = some m.cls) (e0 : s₁.heap = h0) (N0 : Fr n0 []) (Z0 : n0 ≤ h0.size) (P : Pins Z h0 w) (hlk : meth.locks = false) (hret : meth.sig.returnType = ret) :
    own_Done p e below (s₁.setTop (mkF m 69 #[.val (.long p0), .second, .val (.int p2), .val (.int p3), .val (.long (-62167219200 : Int64)), .second, .val (.long (253402300799 : Int64)), .second, .val (.long d), .second, .val (.int i10), .val (.long a), .second, .unset] [])) (fun o U' => ∃ v L, o = .returned v ∧ own_Q0 n0 v U'.heap L ∧ FrameEnd s o U' L room_1.cells room_1.slots) := by
  refine own_step (W' := s₁.setTop (mkF m 71 #[.val (.long p0), .second, .val (.int p2), .val (.int p3), .val (.long (-62167219200 : Int64)), .second, .val (.long (253402300799 : Int64)), .second, .val (.long d), .second, .val (.int i10), .val (.long a), .second, .unset] [(.long a)])) (fun _ k => XS.lload X0.here hx rfl (hb hby at_69) rfl k) ?_
  refine own_step (W' := s₁.setTop (mkF m 73 #[.val (.long p0), .second, .val (.int p2), .val (.int p3), .val (.long (-62167219200 : Int64)), .second, .val (.long (253402300799 : Int64)), .second, .val (.long d), .second, .val (.int i10), .val (.long a), .second, .unset] [(.long (-62167219200 : Int64)), (.long a)])) (fun _ k => XS.lload X0.here hx rfl (hb hby at_71) rfl k) ?_
  refine own_step (W' := s₁.setTop (mkF m 74 #[.val (.long p0), .second, .val (.int p2), .val (.int p3), .val (.long (-62167219200 : Int64)), .second, .val (.long (253402300799 : Int64)), .second, .val (.long d), .second, .val (.int i10), .val (.long a), .second, .unset] [(.int (lcmpW a (-62167219200 : Int64)))])) (fun _ k => XS.lcmp X0.here hx rfl (hb hby at_73) rfl k) ?_
  refine own_step (W' := s₁.setTop (mkF m 77 #[.val (.long p0), .second, .val (.int p2), .val (.int p3), .val (.long (-62167219200 : Int64)), .second, .val (.long (253402300799 : Int64)), .second, .val (.long d), .second, .val (.int i10), .val (.long a), .second, .unset] [])) (fun _ k => XS.ifNo X0.here hx rfl (hb hby at_74) rfl ((if0 _ _).trans (flt h1).1) k) ?_
  refine own_step (W' := s₁.setTop (mkF m 79 #[.val (.long p0), .second, .val (.int p2), .val (.int p3), .val (.long (-62167219200 : Int64)), .second, .val (.long (253402300799 : Int64)), .second, .val (.long d), .second, .val (.int i10), .val (.long a), .second, .unset] [(.long a)])) (fun _ k => XS.lload X0.here hx rfl (hb hby at_77) rfl k) ?_
  refine own_step (W' := s₁.setTop (mkF m 81 #[.val (.long p0), .second, .val (.int p2), .val (.int p3), .val (.long (-62167219200 : Int64)), .second, .val (.long (253402300799 : Int64)), .second, .val (.long d), .second, .val (.int i10), .val (.long a), .second, .unset] [(.long (253402300799 : Int64)), (.long a)])) (fun _ k => XS.lload X0.here hx rfl (hb hby at_79) rfl k) ?_
  refine own_step (W' := s₁.setTop (mkF m 82 #[.val (.long p0), .second, .val (.int p2), .val (.int p3), .val (.long (-62167219200 : Int64)), .second, .val (.long (253402300799 : Int64)), .second, .val (.long d), .second, .val (.int i10), .val (.long a), .second, .unset] [(.int (lcmpW a (253402300799 : Int64)))])) (fun _ k => XS.lcmp X0.here hx rfl (hb hby at_81) rfl k) ?_
  refine own_step (W' := s₁.setTop (mkF m 89 #[.val (.long p0), .second, .val (.int p2), .val (.int p3), .val (.long (-62167219200 : Int64)), .second, .val (.long (253402300799 : Int64)), .second, .val (.long d), .second, .val (.int i10), .val (.long a), .second, .unset] [])) (fun _ k => XS.ifYes X0.here hx rfl (pc0 := 82) (pc' := 89) rfl (hb hby at_82) rfl ((if0 _ _).trans (tlt h2).2.2.1) (by decide) (by decide) k) ?_
  refine own_step (W' := s₁.setTop (mkF m 90 #[.val (.long p0), .second, .val (.int p2), .val (.int p3), .val (.long (-62167219200 : Int64)), .second, .val (.long (253402300799 : Int64)), .second, .val (.long d), .second, .val (.int i10), .val (.long a), .second, .unset] [(.int (0 : Int32))])) (fun _ k => XS.iconst X0.here hx rfl (hb hby at_89) k) ?_
  refine own_step (W' := s₁.setTop (mkF m 92 #[.val (.long p0), .second, .val (.int p2), .val (.int p3), .val (.long (-62167219200 : Int64)), .second, .val (.long (253402300799 : Int64)), .second, .val (.long d), .second, .val (.int i10), .val (.long a), .second, .val (.int (0 : Int32))] [])) (fun _ k => XS.istore X0.here hx rfl (hb hby at_90) rfl (l' := #[.val (.long p0), .second, .val (.int p2), .val (.int p3), .val (.long (-62167219200 : Int64)), .second, .val (.long (253402300799 : Int64)), .second, .val (.long d), .second, .val (.int i10), .val (.long a), .second, .val (.int (0 : Int32))]) rfl k) ?_
  refine own_step (W' := s₁.setTop (mkF m 94 #[.val (.long p0), .second, .val (.int p2), .val (.int p3), .val (.long (-62167219200 : Int64)), .second, .val (.long (253402300799 : Int64)), .second, .val (.long d), .second, .val (.int i10), .val (.long a), .second, .val (.int (0 : Int32))] [(.long a)])) (fun _ k => XS.lload X0.here hx rfl (hb hby at_92) rfl k) ?_
  obtain ⟨_, _, ⟨T1, L1, k1, n1⟩, -, X1, ⟨Lc1, hQ1, l1, y1, z1⟩, st1⟩ := Jvm.LawKit.callS X0 hx (y := (⟨"com/example/levy/levy/Timestamps", "writesDateTime", "(J)Z"⟩ : MethodName)) hown (mvT hZ (hw _ (List.mem_of_getElem? (i := 3) rfl))) (mvT hZ (hw _ (List.mem_of_getElem? (i := 4) rfl))) (mvT hZ (hw _ (List.mem_of_getElem? (i := 5) rfl))) (mvT hZ (hw _ (List.mem_of_getElem? (i := 6) rfl))) (by decide) (backOf (W := 0) (rm1_B l Z a0 hw [] a k1 k2 w h0 n0 Z0 P) hZ (hw _ (List.mem_of_getElem? (i := 6) rfl)) (hw _ (List.mem_of_getElem? (i := 5) rfl)) (by decide) (by decide)) (g := (mkF m 94 #[.val (.long p0), .second, .val (.int p2), .val (.int p3), .val (.long (-62167219200 : Int64)), .second, .val (.long (253402300799 : Int64)), .second, .val (.long d), .second, .val (.int i10), .val (.long a), .second, .val (.int (0 : Int32))] [(.long a)])) rfl (by rw [hml]; rfl) (argsL := [(.long a)]) (rest := []) (lenOf pd_1 rfl) rfl (by show 2 * 0 + _ ≤ _; exact Nat.le_of_eq rfl) (hb hby at_94) (fun _ _ => ⟨rfl, e0, (by decide : 0 + 0 ≤ _), (by decide : 0 + 0 ≤ _)⟩)
  dsimp only [Pt.U, Pt.locs, Pt.cells, Pt.slots] at X1 l1 y1 z1 st1 hQ1
  subst l1 y1 z1
  obtain ⟨rfl, N1q, e1⟩ := hQ1
  have N1 := Fr.app N0 N1q
  refine own_step (W' := T1.setTop (mkF m 97 #[.val (.long p0), .second, .val (.int p2), .val (.int p3), .val (.long (-62167219200 : Int64)), .second, .val (.long (253402300799 : Int64)), .second, .val (.long d), .second, .val (.int i10), .val (.long a), .second, .val (.int (0 : Int32))] [(.int (0 : Int32))])) (fun _ k => st1 _ k) ?_
  refine own_step (W' := T1.setTop (mkF m 99 #[.val (.long p0), .second, .val (.int p2), .val (.int p3), .val (.long (-62167219200 : Int64)), .second, .val (.long (253402300799 : Int64)), .second, .val (.long d), .second, .val (.int i10), .val (.long a), .second, .val (.int (0 : Int32))] [(.int (0 : Int32)), (.int (0 : Int32))])) (fun _ k => XS.iload X1.here hx rfl (hb hby at_97) rfl k) ?_
  refine own_step (W' := T1.setTop (mkF m 102 #[.val (.long p0), .second, .val (.int p2), .val (.int p3), .val (.long (-62167219200 : Int64)), .second, .val (.long (253402300799 : Int64)), .second, .val (.long d), .second, .val (.int i10), .val (.long a), .second, .val (.int (0 : Int32))] [])) (fun _ k => XS.icmpNo X1.here hx rfl (hb hby at_99) rfl (by decide) k) ?_
  refine own_step (W' := T1.setTop (mkF m 103 #[.val (.long p0), .second, .val (.int p2), .val (.int p3), .val (.long (-62167219200 : Int64)), .second, .val (.long (253402300799 : Int64)), .second, .val (.long d), .second, .val (.int i10), .val (.long a), .second, .val (.int (0 : Int32))] [(.int (1 : Int32))])) (fun _ k => XS.iconst X1.here hx rfl (hb hby at_102) k) ?_
  refine own_step (W' := T1.setTop (mkF m 107 #[.val (.long p0), .second, .val (.int p2), .val (.int p3), .val (.long (-62167219200 : Int64)), .second, .val (.long (253402300799 : Int64)), .second, .val (.long d), .second, .val (.int i10), .val (.long a), .second, .val (.int (0 : Int32))] [(.int (1 : Int32))])) (fun _ k => XS.goto X1.here hx rfl (pc0 := 103) (pc' := 107) rfl (hb hby at_103) (by decide) (by decide) k) ?_
  exact own_ret X1 hlk hret (v := (.int (1 : Int32))) (fun fs hr => retN X1 hx (t := .boolean) hret (by simp) (hb hby at_107) hr) ⟨rfl, N1⟩ (by decide) (by decide)
set_option maxRecDepth 65536 in
set_option maxHeartbeats 40000000 in
theorem own_tail_C {p : Program} {l : Launch} {e : Env} {s : State} {m : MethodId} {args : Array Value} {below : List Frame} {meth : Method} {c : Code} {s₁ : State} {Z : State} {a0 : Array Value} {h0 : Heap} {n0 : Nat} {w : Nat → Addr} (p0 : Int64) (p2 p3 : Int32) (d : Int64) (i10 : Int32) (a : Int64) (h1 : ¬ (lcmpW a (-62167219200 : Int64) < 0)) (h2 : ¬ (0 < lcmpW a (253402300799 : Int64))) (k1 : ¬ (lcmpW (own_fd a) (-719528 : Int64) < 0)) (k2 : ¬ (0 < lcmpW (own_fd a) (2932896 : Int64)))
    (X0 : Stand p l e room_1 s m args below meth c s₁ [] 0 0) (hx : p.tables.exec = Jvm.exec) (hZ : Z.Warmed39 s.vm) (hw : ∀ d ∈ tables_1, d.before a0 Z = true) (hby : c.code = code) (hml : c.maxLocals = 14) (hown : s.vm.findClass "com/example/levy/levy/TimestampsWritesDateTimePinLaw" = some m.cls) (e0 : s₁.heap = h0) (N0 : Fr n0 []) (Z0 : n0 ≤ h0.size) (P : Pins Z h0 w) (hlk : meth.locks = false) (hret : meth.sig.returnType = ret) :
    own_Done p e below (s₁.setTop (mkF m 69 #[.val (.long p0), .second, .val (.int p2), .val (.int p3), .val (.long (-62167219200 : Int64)), .second, .val (.long (253402300799 : Int64)), .second, .val (.long d), .second, .val (.int i10), .val (.long a), .second, .unset] [])) (fun o U' => ∃ v L, o = .returned v ∧ own_Q0 n0 v U'.heap L ∧ FrameEnd s o U' L room_1.cells room_1.slots) := by
  refine own_step (W' := s₁.setTop (mkF m 71 #[.val (.long p0), .second, .val (.int p2), .val (.int p3), .val (.long (-62167219200 : Int64)), .second, .val (.long (253402300799 : Int64)), .second, .val (.long d), .second, .val (.int i10), .val (.long a), .second, .unset] [(.long a)])) (fun _ k => XS.lload X0.here hx rfl (hb hby at_69) rfl k) ?_
  refine own_step (W' := s₁.setTop (mkF m 73 #[.val (.long p0), .second, .val (.int p2), .val (.int p3), .val (.long (-62167219200 : Int64)), .second, .val (.long (253402300799 : Int64)), .second, .val (.long d), .second, .val (.int i10), .val (.long a), .second, .unset] [(.long (-62167219200 : Int64)), (.long a)])) (fun _ k => XS.lload X0.here hx rfl (hb hby at_71) rfl k) ?_
  refine own_step (W' := s₁.setTop (mkF m 74 #[.val (.long p0), .second, .val (.int p2), .val (.int p3), .val (.long (-62167219200 : Int64)), .second, .val (.long (253402300799 : Int64)), .second, .val (.long d), .second, .val (.int i10), .val (.long a), .second, .unset] [(.int (lcmpW a (-62167219200 : Int64)))])) (fun _ k => XS.lcmp X0.here hx rfl (hb hby at_73) rfl k) ?_
  refine own_step (W' := s₁.setTop (mkF m 77 #[.val (.long p0), .second, .val (.int p2), .val (.int p3), .val (.long (-62167219200 : Int64)), .second, .val (.long (253402300799 : Int64)), .second, .val (.long d), .second, .val (.int i10), .val (.long a), .second, .unset] [])) (fun _ k => XS.ifNo X0.here hx rfl (hb hby at_74) rfl ((if0 _ _).trans (flt h1).1) k) ?_
  refine own_step (W' := s₁.setTop (mkF m 79 #[.val (.long p0), .second, .val (.int p2), .val (.int p3), .val (.long (-62167219200 : Int64)), .second, .val (.long (253402300799 : Int64)), .second, .val (.long d), .second, .val (.int i10), .val (.long a), .second, .unset] [(.long a)])) (fun _ k => XS.lload X0.here hx rfl (hb hby at_77) rfl k) ?_
  refine own_step (W' := s₁.setTop (mkF m 81 #[.val (.long p0), .second, .val (.int p2), .val (.int p3), .val (.long (-62167219200 : Int64)), .second, .val (.long (253402300799 : Int64)), .second, .val (.long d), .second, .val (.int i10), .val (.long a), .second, .unset] [(.long (253402300799 : Int64)), (.long a)])) (fun _ k => XS.lload X0.here hx rfl (hb hby at_79) rfl k) ?_
  refine own_step (W' := s₁.setTop (mkF m 82 #[.val (.long p0), .second, .val (.int p2), .val (.int p3), .val (.long (-62167219200 : Int64)), .second, .val (.long (253402300799 : Int64)), .second, .val (.long d), .second, .val (.int i10), .val (.long a), .second, .unset] [(.int (lcmpW a (253402300799 : Int64)))])) (fun _ k => XS.lcmp X0.here hx rfl (hb hby at_81) rfl k) ?_
  refine own_step (W' := s₁.setTop (mkF m 85 #[.val (.long p0), .second, .val (.int p2), .val (.int p3), .val (.long (-62167219200 : Int64)), .second, .val (.long (253402300799 : Int64)), .second, .val (.long d), .second, .val (.int i10), .val (.long a), .second, .unset] [])) (fun _ k => XS.ifNo X0.here hx rfl (hb hby at_82) rfl ((if0 _ _).trans (flt h2).2.2.1) k) ?_
  refine own_step (W' := s₁.setTop (mkF m 86 #[.val (.long p0), .second, .val (.int p2), .val (.int p3), .val (.long (-62167219200 : Int64)), .second, .val (.long (253402300799 : Int64)), .second, .val (.long d), .second, .val (.int i10), .val (.long a), .second, .unset] [(.int (1 : Int32))])) (fun _ k => XS.iconst X0.here hx rfl (hb hby at_85) k) ?_
  refine own_step (W' := s₁.setTop (mkF m 90 #[.val (.long p0), .second, .val (.int p2), .val (.int p3), .val (.long (-62167219200 : Int64)), .second, .val (.long (253402300799 : Int64)), .second, .val (.long d), .second, .val (.int i10), .val (.long a), .second, .unset] [(.int (1 : Int32))])) (fun _ k => XS.goto X0.here hx rfl (pc0 := 86) (pc' := 90) rfl (hb hby at_86) (by decide) (by decide) k) ?_
  refine own_step (W' := s₁.setTop (mkF m 92 #[.val (.long p0), .second, .val (.int p2), .val (.int p3), .val (.long (-62167219200 : Int64)), .second, .val (.long (253402300799 : Int64)), .second, .val (.long d), .second, .val (.int i10), .val (.long a), .second, .val (.int (1 : Int32))] [])) (fun _ k => XS.istore X0.here hx rfl (hb hby at_90) rfl (l' := #[.val (.long p0), .second, .val (.int p2), .val (.int p3), .val (.long (-62167219200 : Int64)), .second, .val (.long (253402300799 : Int64)), .second, .val (.long d), .second, .val (.int i10), .val (.long a), .second, .val (.int (1 : Int32))]) rfl k) ?_
  refine own_step (W' := s₁.setTop (mkF m 94 #[.val (.long p0), .second, .val (.int p2), .val (.int p3), .val (.long (-62167219200 : Int64)), .second, .val (.long (253402300799 : Int64)), .second, .val (.long d), .second, .val (.int i10), .val (.long a), .second, .val (.int (1 : Int32))] [(.long a)])) (fun _ k => XS.lload X0.here hx rfl (hb hby at_92) rfl k) ?_
  obtain ⟨_, _, ⟨T1, L1, k1, n1⟩, -, X1, ⟨Lc1, hQ1, l1, y1, z1⟩, st1⟩ := Jvm.LawKit.callS X0 hx (y := (⟨"com/example/levy/levy/Timestamps", "writesDateTime", "(J)Z"⟩ : MethodName)) hown (mvT hZ (hw _ (List.mem_of_getElem? (i := 3) rfl))) (mvT hZ (hw _ (List.mem_of_getElem? (i := 4) rfl))) (mvT hZ (hw _ (List.mem_of_getElem? (i := 5) rfl))) (mvT hZ (hw _ (List.mem_of_getElem? (i := 6) rfl))) (by decide) (backOf (W := 0) (rm1_C l Z a0 hw [] a k1 k2 w h0 n0 Z0 P) hZ (hw _ (List.mem_of_getElem? (i := 6) rfl)) (hw _ (List.mem_of_getElem? (i := 5) rfl)) (by decide) (by decide)) (g := (mkF m 94 #[.val (.long p0), .second, .val (.int p2), .val (.int p3), .val (.long (-62167219200 : Int64)), .second, .val (.long (253402300799 : Int64)), .second, .val (.long d), .second, .val (.int i10), .val (.long a), .second, .val (.int (1 : Int32))] [(.long a)])) rfl (by rw [hml]; rfl) (argsL := [(.long a)]) (rest := []) (lenOf pd_1 rfl) rfl (by show 2 * 0 + _ ≤ _; exact Nat.le_of_eq rfl) (hb hby at_94) (fun _ _ => ⟨rfl, e0, (by decide : 0 + 0 ≤ _), (by decide : 0 + 0 ≤ _)⟩)
  dsimp only [Pt.U, Pt.locs, Pt.cells, Pt.slots] at X1 l1 y1 z1 st1 hQ1
  subst l1 y1 z1
  obtain ⟨rfl, N1q, e1⟩ := hQ1
  have N1 := Fr.app N0 N1q
  refine own_step (W' := T1.setTop (mkF m 97 #[.val (.long p0), .second, .val (.int p2), .val (.int p3), .val (.long (-62167219200 : Int64)), .second, .val (.long (253402300799 : Int64)), .second, .val (.long d), .second, .val (.int i10), .val (.long a), .second, .val (.int (1 : Int32))] [(.int (1 : Int32))])) (fun _ k => st1 _ k) ?_
  refine own_step (W' := T1.setTop (mkF m 99 #[.val (.long p0), .second, .val (.int p2), .val (.int p3), .val (.long (-62167219200 : Int64)), .second, .val (.long (253402300799 : Int64)), .second, .val (.long d), .second, .val (.int i10), .val (.long a), .second, .val (.int (1 : Int32))] [(.int (1 : Int32)), (.int (1 : Int32))])) (fun _ k => XS.iload X1.here hx rfl (hb hby at_97) rfl k) ?_
  refine own_step (W' := T1.setTop (mkF m 102 #[.val (.long p0), .second, .val (.int p2), .val (.int p3), .val (.long (-62167219200 : Int64)), .second, .val (.long (253402300799 : Int64)), .second, .val (.long d), .second, .val (.int i10), .val (.long a), .second, .val (.int (1 : Int32))] [])) (fun _ k => XS.icmpNo X1.here hx rfl (hb hby at_99) rfl (by decide) k) ?_
  refine own_step (W' := T1.setTop (mkF m 103 #[.val (.long p0), .second, .val (.int p2), .val (.int p3), .val (.long (-62167219200 : Int64)), .second, .val (.long (253402300799 : Int64)), .second, .val (.long d), .second, .val (.int i10), .val (.long a), .second, .val (.int (1 : Int32))] [(.int (1 : Int32))])) (fun _ k => XS.iconst X1.here hx rfl (hb hby at_102) k) ?_
  refine own_step (W' := T1.setTop (mkF m 107 #[.val (.long p0), .second, .val (.int p2), .val (.int p3), .val (.long (-62167219200 : Int64)), .second, .val (.long (253402300799 : Int64)), .second, .val (.long d), .second, .val (.int i10), .val (.long a), .second, .val (.int (1 : Int32))] [(.int (1 : Int32))])) (fun _ k => XS.goto X1.here hx rfl (pc0 := 103) (pc' := 107) rfl (hb hby at_103) (by decide) (by decide) k) ?_
  exact own_ret X1 hlk hret (v := (.int (1 : Int32))) (fun fs hr => retN X1 hx (t := .boolean) hret (by simp) (hb hby at_107) hr) ⟨rfl, N1⟩ (by decide) (by decide)
set_option maxRecDepth 65536 in
set_option maxHeartbeats 40000000 in
theorem rm0_0 (l : Launch) (Z : State) (a0 : Array Value) (hw : ∀ d ∈ tables_1, d.before a0 Z = true) (ws : List Jvm.Cond) (p0 : Int64) (p2 p3 : Int32) (hm : (p2 &&& (3 : Int32)) = (0 : Int32)) (w : Nat → Addr) (h0 : Heap) (n0 : Nat) (Z0 : n0 ≤ h0.size) (P : Pins Z h0 w) :
    MetFree l x (head1 (Jvm.Cond.code x code maxLocals ret :: ws) room_1) (fun aA U => aA = #[(.long p0), (.int p2), (.int p3)] ∧ Z.Warmed39 U.vm ∧ U.heap = h0) (fun _ _ _ _ _ => True) (fun _ U o U' => ∃ v L, o = .returned v ∧ own_Q0 n0 v U'.heap L ∧ FrameEnd U o U' L room_1.cells room_1.slots) := by
  refine MetFree.of_bodySF (plainFor_of_name pn_com_example_levy_levy_TimestampsWritesDateTimePinLaw) hisR ?_
  intro p e s m args below meth c s₁ Bd hml0 hP hK
  obtain ⟨rfl, hZ, hh⟩ := hP
  have hx := Bd.exec
  have hby := Bd.bytes
  have hml : c.maxLocals = 14 := hml0
  have hown : s.vm.findClass "com/example/levy/levy/TimestampsWritesDateTimePinLaw" = some m.cls := findClass_of_methodNamed Bd.named
  have hnm := (name_of_methodNamed Bd.named Bd.method).1
  have X0 : Stand p l e room_1 s m #[(.long p0), (.int p2), (.int p3)] below meth c s₁ [] 0 0 := Stand.of_body Bd
  have e0 : s₁.heap = h0 := by rw [← hh, Bd.state]; rfl
  have N0 := Fr.nil n0
  refine own_enter (ef_0_JII m p0 p2 p3) ?_
  refine own_step (W' := s₁.setTop (mkF m 3 #[.val (.long p0), .second, .val (.int p2), .val (.int p3), .unset, .unset, .unset, .unset, .unset, .unset, .unset, .unset, .unset, .unset] [(.long (-62167219200 : Int64))])) (fun _ k => X0.ldc2Long hx hown (mvT hZ (hw _ (List.mem_of_getElem? (i := 0) rfl))) (g := (mkF m 0 #[.val (.long p0), .second, .val (.int p2), .val (.int p3), .unset, .unset, .unset, .unset, .unset, .unset, .unset, .unset, .unset, .unset] [])) rfl (hb hby at_0) _ k) ?_
  refine own_step (W' := s₁.setTop (mkF m 5 #[.val (.long p0), .second, .val (.int p2), .val (.int p3), .val (.long (-62167219200 : Int64)), .second, .unset, .unset, .unset, .unset, .unset, .unset, .unset, .unset] [])) (fun _ k => XS.lstore X0.here hx rfl (hb hby at_3) rfl (l' := #[.val (.long p0), .second, .val (.int p2), .val (.int p3), .val (.long (-62167219200 : Int64)), .second, .unset, .unset, .unset, .unset, .unset, .unset, .unset, .unset]) rfl k) ?_
  refine own_step (W' := s₁.setTop (mkF m 8 #[.val (.long p0), .second, .val (.int p2), .val (.int p3), .val (.long (-62167219200 : Int64)), .second, .unset, .unset, .unset, .unset, .unset, .unset, .unset, .unset] [(.long (253402300799 : Int64))])) (fun _ k => X0.ldc2Long hx hown (mvT hZ (hw _ (List.mem_of_getElem? (i := 1) rfl))) (g := (mkF m 5 #[.val (.long p0), .second, .val (.int p2), .val (.int p3), .val (.long (-62167219200 : Int64)), .second, .unset, .unset, .unset, .unset, .unset, .unset, .unset, .unset] [])) rfl (hb hby at_5) _ k) ?_
  refine own_step (W' := s₁.setTop (mkF m 10 #[.val (.long p0), .second, .val (.int p2), .val (.int p3), .val (.long (-62167219200 : Int64)), .second, .val (.long (253402300799 : Int64)), .second, .unset, .unset, .unset, .unset, .unset, .unset] [])) (fun _ k => XS.lstore X0.here hx rfl (hb hby at_8) rfl (l' := #[.val (.long p0), .second, .val (.int p2), .val (.int p3), .val (.long (-62167219200 : Int64)), .second, .val (.long (253402300799 : Int64)), .second, .unset, .unset, .unset, .unset, .unset, .unset]) rfl k) ?_
  refine own_step (W' := s₁.setTop (mkF m 11 #[.val (.long p0), .second, .val (.int p2), .val (.int p3), .val (.long (-62167219200 : Int64)), .second, .val (.long (253402300799 : Int64)), .second, .unset, .unset, .unset, .unset, .unset, .unset] [(.int p3)])) (fun _ k => XS.iloadN X0.here hx rfl (hb hby at_10) rfl k) ?_
  refine own_step (W' := s₁.setTop (mkF m 13 #[.val (.long p0), .second, .val (.int p2), .val (.int p3), .val (.long (-62167219200 : Int64)), .second, .val (.long (253402300799 : Int64)), .second, .unset, .unset, .unset, .unset, .unset, .unset] [(.int (200000 : Int32)), (.int p3)])) (fun _ k => X0.ldcInt hx hown (mvT hZ (hw _ (List.mem_of_getElem? (i := 2) rfl))) (g := (mkF m 11 #[.val (.long p0), .second, .val (.int p2), .val (.int p3), .val (.long (-62167219200 : Int64)), .second, .val (.long (253402300799 : Int64)), .second, .unset, .unset, .unset, .unset, .unset, .unset] [(.int p3)])) rfl (hb hby at_11) _ k) ?_
  refine own_step (W' := s₁.setTop (mkF m 14 #[.val (.long p0), .second, .val (.int p2), .val (.int p3), .val (.long (-62167219200 : Int64)), .second, .val (.long (253402300799 : Int64)), .second, .unset, .unset, .unset, .unset, .unset, .unset] [(.int (p3 % (200000 : Int32)))])) (fun _ k => iremM X0 hx rfl (hb hby at_13) rfl (by decide) k) ?_
  refine own_step (W' := s₁.setTop (mkF m 15 #[.val (.long p0), .second, .val (.int p2), .val (.int p3), .val (.long (-62167219200 : Int64)), .second, .val (.long (253402300799 : Int64)), .second, .unset, .unset, .unset, .unset, .unset, .unset] [(.long ((p3 % (200000 : Int32)).toInt64))])) (fun _ k => XS.i2l X0.here hx rfl (hb hby at_14) rfl k) ?_
  refine own_step (W' := s₁.setTop (mkF m 17 #[.val (.long p0), .second, .val (.int p2), .val (.int p3), .val (.long (-62167219200 : Int64)), .second, .val (.long (253402300799 : Int64)), .second, .val (.long ((p3 % (200000 : Int32)).toInt64)), .second, .unset, .unset, .unset, .unset] [])) (fun _ k => XS.lstore X0.here hx rfl (hb hby at_15) rfl (l' := #[.val (.long p0), .second, .val (.int p2), .val (.int p3), .val (.long (-62167219200 : Int64)), .second, .val (.long (253402300799 : Int64)), .second, .val (.long ((p3 % (200000 : Int32)).toInt64)), .second, .unset, .unset, .unset, .unset]) rfl k) ?_
  refine own_step (W' := s₁.setTop (mkF m 18 #[.val (.long p0), .second, .val (.int p2), .val (.int p3), .val (.long (-62167219200 : Int64)), .second, .val (.long (253402300799 : Int64)), .second, .val (.long ((p3 % (200000 : Int32)).toInt64)), .second, .unset, .unset, .unset, .unset] [(.int p2)])) (fun _ k => XS.iloadN X0.here hx rfl (hb hby at_17) rfl k) ?_
  refine own_step (W' := s₁.setTop (mkF m 19 #[.val (.long p0), .second, .val (.int p2), .val (.int p3), .val (.long (-62167219200 : Int64)), .second, .val (.long (253402300799 : Int64)), .second, .val (.long ((p3 % (200000 : Int32)).toInt64)), .second, .unset, .unset, .unset, .unset] [(.int (3 : Int32)), (.int p2)])) (fun _ k => XS.iconst X0.here hx rfl (hb hby at_18) k) ?_
  refine own_step (W' := s₁.setTop (mkF m 20 #[.val (.long p0), .second, .val (.int p2), .val (.int p3), .val (.long (-62167219200 : Int64)), .second, .val (.long (253402300799 : Int64)), .second, .val (.long ((p3 % (200000 : Int32)).toInt64)), .second, .unset, .unset, .unset, .unset] [(.int (p2 &&& (3 : Int32)))])) (fun _ k => XS.iand X0.here hx rfl (hb hby at_19) rfl k) ?_
  rw [hm]
  refine own_step (W' := s₁.setTop (mkF m 22 #[.val (.long p0), .second, .val (.int p2), .val (.int p3), .val (.long (-62167219200 : Int64)), .second, .val (.long (253402300799 : Int64)), .second, .val (.long ((p3 % (200000 : Int32)).toInt64)), .second, .val (.int (0 : Int32)), .unset, .unset, .unset] [])) (fun _ k => XS.istore X0.here hx rfl (hb hby at_20) rfl (l' := #[.val (.long p0), .second, .val (.int p2), .val (.int p3), .val (.long (-62167219200 : Int64)), .second, .val (.long (253402300799 : Int64)), .second, .val (.long ((p3 % (200000 : Int32)).toInt64)), .second, .val (.int (0 : Int32)), .unset, .unset, .unset]) rfl k) ?_
  refine own_step (W' := s₁.setTop (mkF m 24 #[.val (.long p0), .second, .val (.int p2), .val (.int p3), .val (.long (-62167219200 : Int64)), .second, .val (.long (253402300799 : Int64)), .second, .val (.long ((p3 % (200000 : Int32)).toInt64)), .second, .val (.int (0 : Int32)), .unset, .unset, .unset] [(.int (0 : Int32))])) (fun _ k => XS.iload X0.here hx rfl (hb hby at_22) rfl k) ?_
  refine own_step (W' := s₁.setTop (mkF m 27 #[.val (.long p0), .second, .val (.int p2), .val (.int p3), .val (.long (-62167219200 : Int64)), .second, .val (.long (253402300799 : Int64)), .second, .val (.long ((p3 % (200000 : Int32)).toInt64)), .second, .val (.int (0 : Int32)), .unset, .unset, .unset] [])) (fun _ k => XS.ifNo X0.here hx rfl (hb hby at_24) rfl (by decide) k) ?_
  refine own_step (W' := s₁.setTop (mkF m 28 #[.val (.long p0), .second, .val (.int p2), .val (.int p3), .val (.long (-62167219200 : Int64)), .second, .val (.long (253402300799 : Int64)), .second, .val (.long ((p3 % (200000 : Int32)).toInt64)), .second, .val (.int (0 : Int32)), .unset, .unset, .unset] [(.long p0)])) (fun _ k => XS.lloadN X0.here hx rfl (hb hby at_27) rfl k) ?_
  refine own_step (W' := s₁.setTop (mkF m 30 #[.val (.long p0), .second, .val (.int p2), .val (.int p3), .val (.long (-62167219200 : Int64)), .second, .val (.long (253402300799 : Int64)), .second, .val (.long ((p3 % (200000 : Int32)).toInt64)), .second, .val (.int (0 : Int32)), .val (.long p0), .second, .unset] [])) (fun _ k => XS.lstore X0.here hx rfl (hb hby at_28) rfl (l' := #[.val (.long p0), .second, .val (.int p2), .val (.int p3), .val (.long (-62167219200 : Int64)), .second, .val (.long (253402300799 : Int64)), .second, .val (.long ((p3 % (200000 : Int32)).toInt64)), .second, .val (.int (0 : Int32)), .val (.long p0), .second, .unset]) rfl k) ?_
  refine own_step (W' := s₁.setTop (mkF m 69 #[.val (.long p0), .second, .val (.int p2), .val (.int p3), .val (.long (-62167219200 : Int64)), .second, .val (.long (253402300799 : Int64)), .second, .val (.long ((p3 % (200000 : Int32)).toInt64)), .second, .val (.int (0 : Int32)), .val (.long p0), .second, .unset] [])) (fun _ k => XS.goto X0.here hx rfl (pc0 := 30) (pc' := 69) rfl (hb hby at_30) (by decide) (by decide) k) ?_
  by_cases h1 : lcmpW p0 (-62167219200 : Int64) < 0
  · exact own_tail_A p0 p2 p3 ((p3 % (200000 : Int32)).toInt64) (0 : Int32) p0 h1 ((own_first _).mpr h1) X0 hx hZ hw hby hml hown e0 N0 Z0 P Bd.notSynchronized Bd.returns
  have k1 := fun q => h1 ((own_first _).mp q)
  by_cases h2 : 0 < lcmpW p0 (253402300799 : Int64)
  · exact own_tail_B p0 p2 p3 ((p3 % (200000 : Int32)).toInt64) (0 : Int32) p0 h1 h2 k1 ((own_last _).mpr h2) X0 hx hZ hw hby hml hown e0 N0 Z0 P Bd.notSynchronized Bd.returns
  · exact own_tail_C p0 p2 p3 ((p3 % (200000 : Int32)).toInt64) (0 : Int32) p0 h1 h2 k1 (fun q => h2 ((own_last _).mp q)) X0 hx hZ hw hby hml hown e0 N0 Z0 P Bd.notSynchronized Bd.returns
set_option maxRecDepth 65536 in
set_option maxHeartbeats 40000000 in
theorem rm0_1 (l : Launch) (Z : State) (a0 : Array Value) (hw : ∀ d ∈ tables_1, d.before a0 Z = true) (ws : List Jvm.Cond) (p0 : Int64) (p2 p3 : Int32) (hm : (p2 &&& (3 : Int32)) = (1 : Int32)) (w : Nat → Addr) (h0 : Heap) (n0 : Nat) (Z0 : n0 ≤ h0.size) (P : Pins Z h0 w) :
    MetFree l x (head1 (Jvm.Cond.code x code maxLocals ret :: ws) room_1) (fun aA U => aA = #[(.long p0), (.int p2), (.int p3)] ∧ Z.Warmed39 U.vm ∧ U.heap = h0) (fun _ _ _ _ _ => True) (fun _ U o U' => ∃ v L, o = .returned v ∧ own_Q0 n0 v U'.heap L ∧ FrameEnd U o U' L room_1.cells room_1.slots) := by
  refine MetFree.of_bodySF (plainFor_of_name pn_com_example_levy_levy_TimestampsWritesDateTimePinLaw) hisR ?_
  intro p e s m args below meth c s₁ Bd hml0 hP hK
  obtain ⟨rfl, hZ, hh⟩ := hP
  have hx := Bd.exec
  have hby := Bd.bytes
  have hml : c.maxLocals = 14 := hml0
  have hown : s.vm.findClass "com/example/levy/levy/TimestampsWritesDateTimePinLaw" = some m.cls := findClass_of_methodNamed Bd.named
  have hnm := (name_of_methodNamed Bd.named Bd.method).1
  have X0 : Stand p l e room_1 s m #[(.long p0), (.int p2), (.int p3)] below meth c s₁ [] 0 0 := Stand.of_body Bd
  have e0 : s₁.heap = h0 := by rw [← hh, Bd.state]; rfl
  have N0 := Fr.nil n0
  refine own_enter (ef_0_JII m p0 p2 p3) ?_
  refine own_step (W' := s₁.setTop (mkF m 3 #[.val (.long p0), .second, .val (.int p2), .val (.int p3), .unset, .unset, .unset, .unset, .unset, .unset, .unset, .unset, .unset, .unset] [(.long (-62167219200 : Int64))])) (fun _ k => X0.ldc2Long hx hown (mvT hZ (hw _ (List.mem_of_getElem? (i := 0) rfl))) (g := (mkF m 0 #[.val (.long p0), .second, .val (.int p2), .val (.int p3), .unset, .unset, .unset, .unset, .unset, .unset, .unset, .unset, .unset, .unset] [])) rfl (hb hby at_0) _ k) ?_
  refine own_step (W' := s₁.setTop (mkF m 5 #[.val (.long p0), .second, .val (.int p2), .val (.int p3), .val (.long (-62167219200 : Int64)), .second, .unset, .unset, .unset, .unset, .unset, .unset, .unset, .unset] [])) (fun _ k => XS.lstore X0.here hx rfl (hb hby at_3) rfl (l' := #[.val (.long p0), .second, .val (.int p2), .val (.int p3), .val (.long (-62167219200 : Int64)), .second, .unset, .unset, .unset, .unset, .unset, .unset, .unset, .unset]) rfl k) ?_
  refine own_step (W' := s₁.setTop (mkF m 8 #[.val (.long p0), .second, .val (.int p2), .val (.int p3), .val (.long (-62167219200 : Int64)), .second, .unset, .unset, .unset, .unset, .unset, .unset, .unset, .unset] [(.long (253402300799 : Int64))])) (fun _ k => X0.ldc2Long hx hown (mvT hZ (hw _ (List.mem_of_getElem? (i := 1) rfl))) (g := (mkF m 5 #[.val (.long p0), .second, .val (.int p2), .val (.int p3), .val (.long (-62167219200 : Int64)), .second, .unset, .unset, .unset, .unset, .unset, .unset, .unset, .unset] [])) rfl (hb hby at_5) _ k) ?_
  refine own_step (W' := s₁.setTop (mkF m 10 #[.val (.long p0), .second, .val (.int p2), .val (.int p3), .val (.long (-62167219200 : Int64)), .second, .val (.long (253402300799 : Int64)), .second, .unset, .unset, .unset, .unset, .unset, .unset] [])) (fun _ k => XS.lstore X0.here hx rfl (hb hby at_8) rfl (l' := #[.val (.long p0), .second, .val (.int p2), .val (.int p3), .val (.long (-62167219200 : Int64)), .second, .val (.long (253402300799 : Int64)), .second, .unset, .unset, .unset, .unset, .unset, .unset]) rfl k) ?_
  refine own_step (W' := s₁.setTop (mkF m 11 #[.val (.long p0), .second, .val (.int p2), .val (.int p3), .val (.long (-62167219200 : Int64)), .second, .val (.long (253402300799 : Int64)), .second, .unset, .unset, .unset, .unset, .unset, .unset] [(.int p3)])) (fun _ k => XS.iloadN X0.here hx rfl (hb hby at_10) rfl k) ?_
  refine own_step (W' := s₁.setTop (mkF m 13 #[.val (.long p0), .second, .val (.int p2), .val (.int p3), .val (.long (-62167219200 : Int64)), .second, .val (.long (253402300799 : Int64)), .second, .unset, .unset, .unset, .unset, .unset, .unset] [(.int (200000 : Int32)), (.int p3)])) (fun _ k => X0.ldcInt hx hown (mvT hZ (hw _ (List.mem_of_getElem? (i := 2) rfl))) (g := (mkF m 11 #[.val (.long p0), .second, .val (.int p2), .val (.int p3), .val (.long (-62167219200 : Int64)), .second, .val (.long (253402300799 : Int64)), .second, .unset, .unset, .unset, .unset, .unset, .unset] [(.int p3)])) rfl (hb hby at_11) _ k) ?_
  refine own_step (W' := s₁.setTop (mkF m 14 #[.val (.long p0), .second, .val (.int p2), .val (.int p3), .val (.long (-62167219200 : Int64)), .second, .val (.long (253402300799 : Int64)), .second, .unset, .unset, .unset, .unset, .unset, .unset] [(.int (p3 % (200000 : Int32)))])) (fun _ k => iremM X0 hx rfl (hb hby at_13) rfl (by decide) k) ?_
  refine own_step (W' := s₁.setTop (mkF m 15 #[.val (.long p0), .second, .val (.int p2), .val (.int p3), .val (.long (-62167219200 : Int64)), .second, .val (.long (253402300799 : Int64)), .second, .unset, .unset, .unset, .unset, .unset, .unset] [(.long ((p3 % (200000 : Int32)).toInt64))])) (fun _ k => XS.i2l X0.here hx rfl (hb hby at_14) rfl k) ?_
  refine own_step (W' := s₁.setTop (mkF m 17 #[.val (.long p0), .second, .val (.int p2), .val (.int p3), .val (.long (-62167219200 : Int64)), .second, .val (.long (253402300799 : Int64)), .second, .val (.long ((p3 % (200000 : Int32)).toInt64)), .second, .unset, .unset, .unset, .unset] [])) (fun _ k => XS.lstore X0.here hx rfl (hb hby at_15) rfl (l' := #[.val (.long p0), .second, .val (.int p2), .val (.int p3), .val (.long (-62167219200 : Int64)), .second, .val (.long (253402300799 : Int64)), .second, .val (.long ((p3 % (200000 : Int32)).toInt64)), .second, .unset, .unset, .unset, .unset]) rfl k) ?_
  refine own_step (W' := s₁.setTop (mkF m 18 #[.val (.long p0), .second, .val (.int p2), .val (.int p3), .val (.long (-62167219200 : Int64)), .second, .val (.long (253402300799 : Int64)), .second, .val (.long ((p3 % (200000 : Int32)).toInt64)), .second, .unset, .unset, .unset, .unset] [(.int p2)])) (fun _ k => XS.iloadN X0.here hx rfl (hb hby at_17) rfl k) ?_
  refine own_step (W' := s₁.setTop (mkF m 19 #[.val (.long p0), .second, .val (.int p2), .val (.int p3), .val (.long (-62167219200 : Int64)), .second, .val (.long (253402300799 : Int64)), .second, .val (.long ((p3 % (200000 : Int32)).toInt64)), .second, .unset, .unset, .unset, .unset] [(.int (3 : Int32)), (.int p2)])) (fun _ k => XS.iconst X0.here hx rfl (hb hby at_18) k) ?_
  refine own_step (W' := s₁.setTop (mkF m 20 #[.val (.long p0), .second, .val (.int p2), .val (.int p3), .val (.long (-62167219200 : Int64)), .second, .val (.long (253402300799 : Int64)), .second, .val (.long ((p3 % (200000 : Int32)).toInt64)), .second, .unset, .unset, .unset, .unset] [(.int (p2 &&& (3 : Int32)))])) (fun _ k => XS.iand X0.here hx rfl (hb hby at_19) rfl k) ?_
  rw [hm]
  refine own_step (W' := s₁.setTop (mkF m 22 #[.val (.long p0), .second, .val (.int p2), .val (.int p3), .val (.long (-62167219200 : Int64)), .second, .val (.long (253402300799 : Int64)), .second, .val (.long ((p3 % (200000 : Int32)).toInt64)), .second, .val (.int (1 : Int32)), .unset, .unset, .unset] [])) (fun _ k => XS.istore X0.here hx rfl (hb hby at_20) rfl (l' := #[.val (.long p0), .second, .val (.int p2), .val (.int p3), .val (.long (-62167219200 : Int64)), .second, .val (.long (253402300799 : Int64)), .second, .val (.long ((p3 % (200000 : Int32)).toInt64)), .second, .val (.int (1 : Int32)), .unset, .unset, .unset]) rfl k) ?_
  refine own_step (W' := s₁.setTop (mkF m 24 #[.val (.long p0), .second, .val (.int p2), .val (.int p3), .val (.long (-62167219200 : Int64)), .second, .val (.long (253402300799 : Int64)), .second, .val (.long ((p3 % (200000 : Int32)).toInt64)), .second, .val (.int (1 : Int32)), .unset, .unset, .unset] [(.int (1 : Int32))])) (fun _ k => XS.iload X0.here hx rfl (hb hby at_22) rfl k) ?_
  refine own_step (W' := s₁.setTop (mkF m 33 #[.val (.long p0), .second, .val (.int p2), .val (.int p3), .val (.long (-62167219200 : Int64)), .second, .val (.long (253402300799 : Int64)), .second, .val (.long ((p3 % (200000 : Int32)).toInt64)), .second, .val (.int (1 : Int32)), .unset, .unset, .unset] [])) (fun _ k => XS.ifYes X0.here hx rfl (pc0 := 24) (pc' := 33) rfl (hb hby at_24) rfl (by decide) (by decide) (by decide) k) ?_
  refine own_step (W' := s₁.setTop (mkF m 35 #[.val (.long p0), .second, .val (.int p2), .val (.int p3), .val (.long (-62167219200 : Int64)), .second, .val (.long (253402300799 : Int64)), .second, .val (.long ((p3 % (200000 : Int32)).toInt64)), .second, .val (.int (1 : Int32)), .unset, .unset, .unset] [(.int (1 : Int32))])) (fun _ k => XS.iload X0.here hx rfl (hb hby at_33) rfl k) ?_
  refine own_step (W' := s₁.setTop (mkF m 36 #[.val (.long p0), .second, .val (.int p2), .val (.int p3), .val (.long (-62167219200 : Int64)), .second, .val (.long (253402300799 : Int64)), .second, .val (.long ((p3 % (200000 : Int32)).toInt64)), .second, .val (.int (1 : Int32)), .unset, .unset, .unset] [(.int (1 : Int32)), (.int (1 : Int32))])) (fun _ k => XS.iconst X0.here hx rfl (hb hby at_35) k) ?_
  refine own_step (W' := s₁.setTop (mkF m 39 #[.val (.long p0), .second, .val (.int p2), .val (.int p3), .val (.long (-62167219200 : Int64)), .second, .val (.long (253402300799 : Int64)), .second, .val (.long ((p3 % (200000 : Int32)).toInt64)), .second, .val (.int (1 : Int32)), .unset, .unset, .unset] [])) (fun _ k => XS.icmpNo X0.here hx rfl (hb hby at_36) rfl (by decide) k) ?_
  refine own_step (W' := s₁.setTop (mkF m 41 #[.val (.long p0), .second, .val (.int p2), .val (.int p3), .val (.long (-62167219200 : Int64)), .second, .val (.long (253402300799 : Int64)), .second, .val (.long ((p3 % (200000 : Int32)).toInt64)), .second, .val (.int (1 : Int32)), .unset, .unset, .unset] [(.long (-62167219200 : Int64))])) (fun _ k => XS.lload X0.here hx rfl (hb hby at_39) rfl k) ?_
  refine own_step (W' := s₁.setTop (mkF m 43 #[.val (.long p0), .second, .val (.int p2), .val (.int p3), .val (.long (-62167219200 : Int64)), .second, .val (.long (253402300799 : Int64)), .second, .val (.long ((p3 % (200000 : Int32)).toInt64)), .second, .val (.int (1 : Int32)), .unset, .unset, .unset] [(.long ((p3 % (200000 : Int32)).toInt64)), (.long (-62167219200 : Int64))])) (fun _ k => XS.lload X0.here hx rfl (hb hby at_41) rfl k) ?_
  refine own_step (W' := s₁.setTop (mkF m 44 #[.val (.long p0), .second, .val (.int p2), .val (.int p3), .val (.long (-62167219200 : Int64)), .second, .val (.long (253402300799 : Int64)), .second, .val (.long ((p3 % (200000 : Int32)).toInt64)), .second, .val (.int (1 : Int32)), .unset, .unset, .unset] [(.long ((-62167219200 : Int64) + ((p3 % (200000 : Int32)).toInt64)))])) (fun _ k => XS.ladd X0.here hx rfl (hb hby at_43) rfl k) ?_
  refine own_step (W' := s₁.setTop (mkF m 46 #[.val (.long p0), .second, .val (.int p2), .val (.int p3), .val (.long (-62167219200 : Int64)), .second, .val (.long (253402300799 : Int64)), .second, .val (.long ((p3 % (200000 : Int32)).toInt64)), .second, .val (.int (1 : Int32)), .val (.long ((-62167219200 : Int64) + ((p3 % (200000 : Int32)).toInt64))), .second, .unset] [])) (fun _ k => XS.lstore X0.here hx rfl (hb hby at_44) rfl (l' := #[.val (.long p0), .second, .val (.int p2), .val (.int p3), .val (.long (-62167219200 : Int64)), .second, .val (.long (253402300799 : Int64)), .second, .val (.long ((p3 % (200000 : Int32)).toInt64)), .second, .val (.int (1 : Int32)), .val (.long ((-62167219200 : Int64) + ((p3 % (200000 : Int32)).toInt64))), .second, .unset]) rfl k) ?_
  refine own_step (W' := s₁.setTop (mkF m 69 #[.val (.long p0), .second, .val (.int p2), .val (.int p3), .val (.long (-62167219200 : Int64)), .second, .val (.long (253402300799 : Int64)), .second, .val (.long ((p3 % (200000 : Int32)).toInt64)), .second, .val (.int (1 : Int32)), .val (.long ((-62167219200 : Int64) + ((p3 % (200000 : Int32)).toInt64))), .second, .unset] [])) (fun _ k => XS.goto X0.here hx rfl (pc0 := 46) (pc' := 69) rfl (hb hby at_46) (by decide) (by decide) k) ?_
  by_cases h1 : lcmpW ((-62167219200 : Int64) + ((p3 % (200000 : Int32)).toInt64)) (-62167219200 : Int64) < 0
  · exact own_tail_A p0 p2 p3 ((p3 % (200000 : Int32)).toInt64) (1 : Int32) ((-62167219200 : Int64) + ((p3 % (200000 : Int32)).toInt64)) h1 ((own_first _).mpr h1) X0 hx hZ hw hby hml hown e0 N0 Z0 P Bd.notSynchronized Bd.returns
  have k1 := fun q => h1 ((own_first _).mp q)
  by_cases h2 : 0 < lcmpW ((-62167219200 : Int64) + ((p3 % (200000 : Int32)).toInt64)) (253402300799 : Int64)
  · exact own_tail_B p0 p2 p3 ((p3 % (200000 : Int32)).toInt64) (1 : Int32) ((-62167219200 : Int64) + ((p3 % (200000 : Int32)).toInt64)) h1 h2 k1 ((own_last _).mpr h2) X0 hx hZ hw hby hml hown e0 N0 Z0 P Bd.notSynchronized Bd.returns
  · exact own_tail_C p0 p2 p3 ((p3 % (200000 : Int32)).toInt64) (1 : Int32) ((-62167219200 : Int64) + ((p3 % (200000 : Int32)).toInt64)) h1 h2 k1 (fun q => h2 ((own_last _).mp q)) X0 hx hZ hw hby hml hown e0 N0 Z0 P Bd.notSynchronized Bd.returns
set_option maxRecDepth 65536 in
set_option maxHeartbeats 40000000 in
theorem rm0_2 (l : Launch) (Z : State) (a0 : Array Value) (hw : ∀ d ∈ tables_1, d.before a0 Z = true) (ws : List Jvm.Cond) (p0 : Int64) (p2 p3 : Int32) (hm : (p2 &&& (3 : Int32)) = (2 : Int32)) (w : Nat → Addr) (h0 : Heap) (n0 : Nat) (Z0 : n0 ≤ h0.size) (P : Pins Z h0 w) :
    MetFree l x (head1 (Jvm.Cond.code x code maxLocals ret :: ws) room_1) (fun aA U => aA = #[(.long p0), (.int p2), (.int p3)] ∧ Z.Warmed39 U.vm ∧ U.heap = h0) (fun _ _ _ _ _ => True) (fun _ U o U' => ∃ v L, o = .returned v ∧ own_Q0 n0 v U'.heap L ∧ FrameEnd U o U' L room_1.cells room_1.slots) := by
  refine MetFree.of_bodySF (plainFor_of_name pn_com_example_levy_levy_TimestampsWritesDateTimePinLaw) hisR ?_
  intro p e s m args below meth c s₁ Bd hml0 hP hK
  obtain ⟨rfl, hZ, hh⟩ := hP
  have hx := Bd.exec
  have hby := Bd.bytes
  have hml : c.maxLocals = 14 := hml0
  have hown : s.vm.findClass "com/example/levy/levy/TimestampsWritesDateTimePinLaw" = some m.cls := findClass_of_methodNamed Bd.named
  have hnm := (name_of_methodNamed Bd.named Bd.method).1
  have X0 : Stand p l e room_1 s m #[(.long p0), (.int p2), (.int p3)] below meth c s₁ [] 0 0 := Stand.of_body Bd
  have e0 : s₁.heap = h0 := by rw [← hh, Bd.state]; rfl
  have N0 := Fr.nil n0
  refine own_enter (ef_0_JII m p0 p2 p3) ?_
  refine own_step (W' := s₁.setTop (mkF m 3 #[.val (.long p0), .second, .val (.int p2), .val (.int p3), .unset, .unset, .unset, .unset, .unset, .unset, .unset, .unset, .unset, .unset] [(.long (-62167219200 : Int64))])) (fun _ k => X0.ldc2Long hx hown (mvT hZ (hw _ (List.mem_of_getElem? (i := 0) rfl))) (g := (mkF m 0 #[.val (.long p0), .second, .val (.int p2), .val (.int p3), .unset, .unset, .unset, .unset, .unset, .unset, .unset, .unset, .unset, .unset] [])) rfl (hb hby at_0) _ k) ?_
  refine own_step (W' := s₁.setTop (mkF m 5 #[.val (.long p0), .second, .val (.int p2), .val (.int p3), .val (.long (-62167219200 : Int64)), .second, .unset, .unset, .unset, .unset, .unset, .unset, .unset, .unset] [])) (fun _ k => XS.lstore X0.here hx rfl (hb hby at_3) rfl (l' := #[.val (.long p0), .second, .val (.int p2), .val (.int p3), .val (.long (-62167219200 : Int64)), .second, .unset, .unset, .unset, .unset, .unset, .unset, .unset, .unset]) rfl k) ?_
  refine own_step (W' := s₁.setTop (mkF m 8 #[.val (.long p0), .second, .val (.int p2), .val (.int p3), .val (.long (-62167219200 : Int64)), .second, .unset, .unset, .unset, .unset, .unset, .unset, .unset, .unset] [(.long (253402300799 : Int64))])) (fun _ k => X0.ldc2Long hx hown (mvT hZ (hw _ (List.mem_of_getElem? (i := 1) rfl))) (g := (mkF m 5 #[.val (.long p0), .second, .val (.int p2), .val (.int p3), .val (.long (-62167219200 : Int64)), .second, .unset, .unset, .unset, .unset, .unset, .unset, .unset, .unset] [])) rfl (hb hby at_5) _ k) ?_
  refine own_step (W' := s₁.setTop (mkF m 10 #[.val (.long p0), .second, .val (.int p2), .val (.int p3), .val (.long (-62167219200 : Int64)), .second, .val (.long (253402300799 : Int64)), .second, .unset, .unset, .unset, .unset, .unset, .unset] [])) (fun _ k => XS.lstore X0.here hx rfl (hb hby at_8) rfl (l' := #[.val (.long p0), .second, .val (.int p2), .val (.int p3), .val (.long (-62167219200 : Int64)), .second, .val (.long (253402300799 : Int64)), .second, .unset, .unset, .unset, .unset, .unset, .unset]) rfl k) ?_
  refine own_step (W' := s₁.setTop (mkF m 11 #[.val (.long p0), .second, .val (.int p2), .val (.int p3), .val (.long (-62167219200 : Int64)), .second, .val (.long (253402300799 : Int64)), .second, .unset, .unset, .unset, .unset, .unset, .unset] [(.int p3)])) (fun _ k => XS.iloadN X0.here hx rfl (hb hby at_10) rfl k) ?_
  refine own_step (W' := s₁.setTop (mkF m 13 #[.val (.long p0), .second, .val (.int p2), .val (.int p3), .val (.long (-62167219200 : Int64)), .second, .val (.long (253402300799 : Int64)), .second, .unset, .unset, .unset, .unset, .unset, .unset] [(.int (200000 : Int32)), (.int p3)])) (fun _ k => X0.ldcInt hx hown (mvT hZ (hw _ (List.mem_of_getElem? (i := 2) rfl))) (g := (mkF m 11 #[.val (.long p0), .second, .val (.int p2), .val (.int p3), .val (.long (-62167219200 : Int64)), .second, .val (.long (253402300799 : Int64)), .second, .unset, .unset, .unset, .unset, .unset, .unset] [(.int p3)])) rfl (hb hby at_11) _ k) ?_
  refine own_step (W' := s₁.setTop (mkF m 14 #[.val (.long p0), .second, .val (.int p2), .val (.int p3), .val (.long (-62167219200 : Int64)), .second, .val (.long (253402300799 : Int64)), .second, .unset, .unset, .unset, .unset, .unset, .unset] [(.int (p3 % (200000 : Int32)))])) (fun _ k => iremM X0 hx rfl (hb hby at_13) rfl (by decide) k) ?_
  refine own_step (W' := s₁.setTop (mkF m 15 #[.val (.long p0), .second, .val (.int p2), .val (.int p3), .val (.long (-62167219200 : Int64)), .second, .val (.long (253402300799 : Int64)), .second, .unset, .unset, .unset, .unset, .unset, .unset] [(.long ((p3 % (200000 : Int32)).toInt64))])) (fun _ k => XS.i2l X0.here hx rfl (hb hby at_14) rfl k) ?_
  refine own_step (W' := s₁.setTop (mkF m 17 #[.val (.long p0), .second, .val (.int p2), .val (.int p3), .val (.long (-62167219200 : Int64)), .second, .val (.long (253402300799 : Int64)), .second, .val (.long ((p3 % (200000 : Int32)).toInt64)), .second, .unset, .unset, .unset, .unset] [])) (fun _ k => XS.lstore X0.here hx rfl (hb hby at_15) rfl (l' := #[.val (.long p0), .second, .val (.int p2), .val (.int p3), .val (.long (-62167219200 : Int64)), .second, .val (.long (253402300799 : Int64)), .second, .val (.long ((p3 % (200000 : Int32)).toInt64)), .second, .unset, .unset, .unset, .unset]) rfl k) ?_
  refine own_step (W' := s₁.setTop (mkF m 18 #[.val (.long p0), .second, .val (.int p2), .val (.int p3), .val (.long (-62167219200 : Int64)), .second, .val (.long (253402300799 : Int64)), .second, .val (.long ((p3 % (200000 : Int32)).toInt64)), .second, .unset, .unset, .unset, .unset] [(.int p2)])) (fun _ k => XS.iloadN X0.here hx rfl (hb hby at_17) rfl k) ?_
  refine own_step (W' := s₁.setTop (mkF m 19 #[.val (.long p0), .second, .val (.int p2), .val (.int p3), .val (.long (-62167219200 : Int64)), .second, .val (.long (253402300799 : Int64)), .second, .val (.long ((p3 % (200000 : Int32)).toInt64)), .second, .unset, .unset, .unset, .unset] [(.int (3 : Int32)), (.int p2)])) (fun _ k => XS.iconst X0.here hx rfl (hb hby at_18) k) ?_
  refine own_step (W' := s₁.setTop (mkF m 20 #[.val (.long p0), .second, .val (.int p2), .val (.int p3), .val (.long (-62167219200 : Int64)), .second, .val (.long (253402300799 : Int64)), .second, .val (.long ((p3 % (200000 : Int32)).toInt64)), .second, .unset, .unset, .unset, .unset] [(.int (p2 &&& (3 : Int32)))])) (fun _ k => XS.iand X0.here hx rfl (hb hby at_19) rfl k) ?_
  rw [hm]
  refine own_step (W' := s₁.setTop (mkF m 22 #[.val (.long p0), .second, .val (.int p2), .val (.int p3), .val (.long (-62167219200 : Int64)), .second, .val (.long (253402300799 : Int64)), .second, .val (.long ((p3 % (200000 : Int32)).toInt64)), .second, .val (.int (2 : Int32)), .unset, .unset, .unset] [])) (fun _ k => XS.istore X0.here hx rfl (hb hby at_20) rfl (l' := #[.val (.long p0), .second, .val (.int p2), .val (.int p3), .val (.long (-62167219200 : Int64)), .second, .val (.long (253402300799 : Int64)), .second, .val (.long ((p3 % (200000 : Int32)).toInt64)), .second, .val (.int (2 : Int32)), .unset, .unset, .unset]) rfl k) ?_
  refine own_step (W' := s₁.setTop (mkF m 24 #[.val (.long p0), .second, .val (.int p2), .val (.int p3), .val (.long (-62167219200 : Int64)), .second, .val (.long (253402300799 : Int64)), .second, .val (.long ((p3 % (200000 : Int32)).toInt64)), .second, .val (.int (2 : Int32)), .unset, .unset, .unset] [(.int (2 : Int32))])) (fun _ k => XS.iload X0.here hx rfl (hb hby at_22) rfl k) ?_
  refine own_step (W' := s₁.setTop (mkF m 33 #[.val (.long p0), .second, .val (.int p2), .val (.int p3), .val (.long (-62167219200 : Int64)), .second, .val (.long (253402300799 : Int64)), .second, .val (.long ((p3 % (200000 : Int32)).toInt64)), .second, .val (.int (2 : Int32)), .unset, .unset, .unset] [])) (fun _ k => XS.ifYes X0.here hx rfl (pc0 := 24) (pc' := 33) rfl (hb hby at_24) rfl (by decide) (by decide) (by decide) k) ?_
  refine own_step (W' := s₁.setTop (mkF m 35 #[.val (.long p0), .second, .val (.int p2), .val (.int p3), .val (.long (-62167219200 : Int64)), .second, .val (.long (253402300799 : Int64)), .second, .val (.long ((p3 % (200000 : Int32)).toInt64)), .second, .val (.int (2 : Int32)), .unset, .unset, .unset] [(.int (2 : Int32))])) (fun _ k => XS.iload X0.here hx rfl (hb hby at_33) rfl k) ?_
  refine own_step (W' := s₁.setTop (mkF m 36 #[.val (.long p0), .second, .val (.int p2), .val (.int p3), .val (.long (-62167219200 : Int64)), .second, .val (.long (253402300799 : Int64)), .second, .val (.long ((p3 % (200000 : Int32)).toInt64)), .second, .val (.int (2 : Int32)), .unset, .unset, .unset] [(.int (1 : Int32)), (.int (2 : Int32))])) (fun _ k => XS.iconst X0.here hx rfl (hb hby at_35) k) ?_
  refine own_step (W' := s₁.setTop (mkF m 49 #[.val (.long p0), .second, .val (.int p2), .val (.int p3), .val (.long (-62167219200 : Int64)), .second, .val (.long (253402300799 : Int64)), .second, .val (.long ((p3 % (200000 : Int32)).toInt64)), .second, .val (.int (2 : Int32)), .unset, .unset, .unset] [])) (fun _ k => XS.icmpYes X0.here hx rfl (pc0 := 36) (pc' := 49) rfl (hb hby at_36) rfl (by decide) (by decide) (by decide) k) ?_
  refine own_step (W' := s₁.setTop (mkF m 51 #[.val (.long p0), .second, .val (.int p2), .val (.int p3), .val (.long (-62167219200 : Int64)), .second, .val (.long (253402300799 : Int64)), .second, .val (.long ((p3 % (200000 : Int32)).toInt64)), .second, .val (.int (2 : Int32)), .unset, .unset, .unset] [(.int (2 : Int32))])) (fun _ k => XS.iload X0.here hx rfl (hb hby at_49) rfl k) ?_
  refine own_step (W' := s₁.setTop (mkF m 52 #[.val (.long p0), .second, .val (.int p2), .val (.int p3), .val (.long (-62167219200 : Int64)), .second, .val (.long (253402300799 : Int64)), .second, .val (.long ((p3 % (200000 : Int32)).toInt64)), .second, .val (.int (2 : Int32)), .unset, .unset, .unset] [(.int (2 : Int32)), (.int (2 : Int32))])) (fun _ k => XS.iconst X0.here hx rfl (hb hby at_51) k) ?_
  refine own_step (W' := s₁.setTop (mkF m 55 #[.val (.long p0), .second, .val (.int p2), .val (.int p3), .val (.long (-62167219200 : Int64)), .second, .val (.long (253402300799 : Int64)), .second, .val (.long ((p3 % (200000 : Int32)).toInt64)), .second, .val (.int (2 : Int32)), .unset, .unset, .unset] [])) (fun _ k => XS.icmpNo X0.here hx rfl (hb hby at_52) rfl (by decide) k) ?_
  refine own_step (W' := s₁.setTop (mkF m 57 #[.val (.long p0), .second, .val (.int p2), .val (.int p3), .val (.long (-62167219200 : Int64)), .second, .val (.long (253402300799 : Int64)), .second, .val (.long ((p3 % (200000 : Int32)).toInt64)), .second, .val (.int (2 : Int32)), .unset, .unset, .unset] [(.long (253402300799 : Int64))])) (fun _ k => XS.lload X0.here hx rfl (hb hby at_55) rfl k) ?_
  refine own_step (W' := s₁.setTop (mkF m 59 #[.val (.long p0), .second, .val (.int p2), .val (.int p3), .val (.long (-62167219200 : Int64)), .second, .val (.long (253402300799 : Int64)), .second, .val (.long ((p3 % (200000 : Int32)).toInt64)), .second, .val (.int (2 : Int32)), .unset, .unset, .unset] [(.long ((p3 % (200000 : Int32)).toInt64)), (.long (253402300799 : Int64))])) (fun _ k => XS.lload X0.here hx rfl (hb hby at_57) rfl k) ?_
  refine own_step (W' := s₁.setTop (mkF m 60 #[.val (.long p0), .second, .val (.int p2), .val (.int p3), .val (.long (-62167219200 : Int64)), .second, .val (.long (253402300799 : Int64)), .second, .val (.long ((p3 % (200000 : Int32)).toInt64)), .second, .val (.int (2 : Int32)), .unset, .unset, .unset] [(.long ((253402300799 : Int64) + ((p3 % (200000 : Int32)).toInt64)))])) (fun _ k => XS.ladd X0.here hx rfl (hb hby at_59) rfl k) ?_
  refine own_step (W' := s₁.setTop (mkF m 62 #[.val (.long p0), .second, .val (.int p2), .val (.int p3), .val (.long (-62167219200 : Int64)), .second, .val (.long (253402300799 : Int64)), .second, .val (.long ((p3 % (200000 : Int32)).toInt64)), .second, .val (.int (2 : Int32)), .val (.long ((253402300799 : Int64) + ((p3 % (200000 : Int32)).toInt64))), .second, .unset] [])) (fun _ k => XS.lstore X0.here hx rfl (hb hby at_60) rfl (l' := #[.val (.long p0), .second, .val (.int p2), .val (.int p3), .val (.long (-62167219200 : Int64)), .second, .val (.long (253402300799 : Int64)), .second, .val (.long ((p3 % (200000 : Int32)).toInt64)), .second, .val (.int (2 : Int32)), .val (.long ((253402300799 : Int64) + ((p3 % (200000 : Int32)).toInt64))), .second, .unset]) rfl k) ?_
  refine own_step (W' := s₁.setTop (mkF m 69 #[.val (.long p0), .second, .val (.int p2), .val (.int p3), .val (.long (-62167219200 : Int64)), .second, .val (.long (253402300799 : Int64)), .second, .val (.long ((p3 % (200000 : Int32)).toInt64)), .second, .val (.int (2 : Int32)), .val (.long ((253402300799 : Int64) + ((p3 % (200000 : Int32)).toInt64))), .second, .unset] [])) (fun _ k => XS.goto X0.here hx rfl (pc0 := 62) (pc' := 69) rfl (hb hby at_62) (by decide) (by decide) k) ?_
  by_cases h1 : lcmpW ((253402300799 : Int64) + ((p3 % (200000 : Int32)).toInt64)) (-62167219200 : Int64) < 0
  · exact own_tail_A p0 p2 p3 ((p3 % (200000 : Int32)).toInt64) (2 : Int32) ((253402300799 : Int64) + ((p3 % (200000 : Int32)).toInt64)) h1 ((own_first _).mpr h1) X0 hx hZ hw hby hml hown e0 N0 Z0 P Bd.notSynchronized Bd.returns
  have k1 := fun q => h1 ((own_first _).mp q)
  by_cases h2 : 0 < lcmpW ((253402300799 : Int64) + ((p3 % (200000 : Int32)).toInt64)) (253402300799 : Int64)
  · exact own_tail_B p0 p2 p3 ((p3 % (200000 : Int32)).toInt64) (2 : Int32) ((253402300799 : Int64) + ((p3 % (200000 : Int32)).toInt64)) h1 h2 k1 ((own_last _).mpr h2) X0 hx hZ hw hby hml hown e0 N0 Z0 P Bd.notSynchronized Bd.returns
  · exact own_tail_C p0 p2 p3 ((p3 % (200000 : Int32)).toInt64) (2 : Int32) ((253402300799 : Int64) + ((p3 % (200000 : Int32)).toInt64)) h1 h2 k1 (fun q => h2 ((own_last _).mp q)) X0 hx hZ hw hby hml hown e0 N0 Z0 P Bd.notSynchronized Bd.returns
set_option maxRecDepth 65536 in
set_option maxHeartbeats 40000000 in
theorem rm0_3 (l : Launch) (Z : State) (a0 : Array Value) (hw : ∀ d ∈ tables_1, d.before a0 Z = true) (ws : List Jvm.Cond) (p0 : Int64) (p2 p3 : Int32) (hm : (p2 &&& (3 : Int32)) = (3 : Int32)) (w : Nat → Addr) (h0 : Heap) (n0 : Nat) (Z0 : n0 ≤ h0.size) (P : Pins Z h0 w) :
    MetFree l x (head1 (Jvm.Cond.code x code maxLocals ret :: ws) room_1) (fun aA U => aA = #[(.long p0), (.int p2), (.int p3)] ∧ Z.Warmed39 U.vm ∧ U.heap = h0) (fun _ _ _ _ _ => True) (fun _ U o U' => ∃ v L, o = .returned v ∧ own_Q0 n0 v U'.heap L ∧ FrameEnd U o U' L room_1.cells room_1.slots) := by
  refine MetFree.of_bodySF (plainFor_of_name pn_com_example_levy_levy_TimestampsWritesDateTimePinLaw) hisR ?_
  intro p e s m args below meth c s₁ Bd hml0 hP hK
  obtain ⟨rfl, hZ, hh⟩ := hP
  have hx := Bd.exec
  have hby := Bd.bytes
  have hml : c.maxLocals = 14 := hml0
  have hown : s.vm.findClass "com/example/levy/levy/TimestampsWritesDateTimePinLaw" = some m.cls := findClass_of_methodNamed Bd.named
  have hnm := (name_of_methodNamed Bd.named Bd.method).1
  have X0 : Stand p l e room_1 s m #[(.long p0), (.int p2), (.int p3)] below meth c s₁ [] 0 0 := Stand.of_body Bd
  have e0 : s₁.heap = h0 := by rw [← hh, Bd.state]; rfl
  have N0 := Fr.nil n0
  refine own_enter (ef_0_JII m p0 p2 p3) ?_
  refine own_step (W' := s₁.setTop (mkF m 3 #[.val (.long p0), .second, .val (.int p2), .val (.int p3), .unset, .unset, .unset, .unset, .unset, .unset, .unset, .unset, .unset, .unset] [(.long (-62167219200 : Int64))])) (fun _ k => X0.ldc2Long hx hown (mvT hZ (hw _ (List.mem_of_getElem? (i := 0) rfl))) (g := (mkF m 0 #[.val (.long p0), .second, .val (.int p2), .val (.int p3), .unset, .unset, .unset, .unset, .unset, .unset, .unset, .unset, .unset, .unset] [])) rfl (hb hby at_0) _ k) ?_
  refine own_step (W' := s₁.setTop (mkF m 5 #[.val (.long p0), .second, .val (.int p2), .val (.int p3), .val (.long (-62167219200 : Int64)), .second, .unset, .unset, .unset, .unset, .unset, .unset, .unset, .unset] [])) (fun _ k => XS.lstore X0.here hx rfl (hb hby at_3) rfl (l' := #[.val (.long p0), .second, .val (.int p2), .val (.int p3), .val (.long (-62167219200 : Int64)), .second, .unset, .unset, .unset, .unset, .unset, .unset, .unset, .unset]) rfl k) ?_
  refine own_step (W' := s₁.setTop (mkF m 8 #[.val (.long p0), .second, .val (.int p2), .val (.int p3), .val (.long (-62167219200 : Int64)), .second, .unset, .unset, .unset, .unset, .unset, .unset, .unset, .unset] [(.long (253402300799 : Int64))])) (fun _ k => X0.ldc2Long hx hown (mvT hZ (hw _ (List.mem_of_getElem? (i := 1) rfl))) (g := (mkF m 5 #[.val (.long p0), .second, .val (.int p2), .val (.int p3), .val (.long (-62167219200 : Int64)), .second, .unset, .unset, .unset, .unset, .unset, .unset, .unset, .unset] [])) rfl (hb hby at_5) _ k) ?_
  refine own_step (W' := s₁.setTop (mkF m 10 #[.val (.long p0), .second, .val (.int p2), .val (.int p3), .val (.long (-62167219200 : Int64)), .second, .val (.long (253402300799 : Int64)), .second, .unset, .unset, .unset, .unset, .unset, .unset] [])) (fun _ k => XS.lstore X0.here hx rfl (hb hby at_8) rfl (l' := #[.val (.long p0), .second, .val (.int p2), .val (.int p3), .val (.long (-62167219200 : Int64)), .second, .val (.long (253402300799 : Int64)), .second, .unset, .unset, .unset, .unset, .unset, .unset]) rfl k) ?_
  refine own_step (W' := s₁.setTop (mkF m 11 #[.val (.long p0), .second, .val (.int p2), .val (.int p3), .val (.long (-62167219200 : Int64)), .second, .val (.long (253402300799 : Int64)), .second, .unset, .unset, .unset, .unset, .unset, .unset] [(.int p3)])) (fun _ k => XS.iloadN X0.here hx rfl (hb hby at_10) rfl k) ?_
  refine own_step (W' := s₁.setTop (mkF m 13 #[.val (.long p0), .second, .val (.int p2), .val (.int p3), .val (.long (-62167219200 : Int64)), .second, .val (.long (253402300799 : Int64)), .second, .unset, .unset, .unset, .unset, .unset, .unset] [(.int (200000 : Int32)), (.int p3)])) (fun _ k => X0.ldcInt hx hown (mvT hZ (hw _ (List.mem_of_getElem? (i := 2) rfl))) (g := (mkF m 11 #[.val (.long p0), .second, .val (.int p2), .val (.int p3), .val (.long (-62167219200 : Int64)), .second, .val (.long (253402300799 : Int64)), .second, .unset, .unset, .unset, .unset, .unset, .unset] [(.int p3)])) rfl (hb hby at_11) _ k) ?_
  refine own_step (W' := s₁.setTop (mkF m 14 #[.val (.long p0), .second, .val (.int p2), .val (.int p3), .val (.long (-62167219200 : Int64)), .second, .val (.long (253402300799 : Int64)), .second, .unset, .unset, .unset, .unset, .unset, .unset] [(.int (p3 % (200000 : Int32)))])) (fun _ k => iremM X0 hx rfl (hb hby at_13) rfl (by decide) k) ?_
  refine own_step (W' := s₁.setTop (mkF m 15 #[.val (.long p0), .second, .val (.int p2), .val (.int p3), .val (.long (-62167219200 : Int64)), .second, .val (.long (253402300799 : Int64)), .second, .unset, .unset, .unset, .unset, .unset, .unset] [(.long ((p3 % (200000 : Int32)).toInt64))])) (fun _ k => XS.i2l X0.here hx rfl (hb hby at_14) rfl k) ?_
  refine own_step (W' := s₁.setTop (mkF m 17 #[.val (.long p0), .second, .val (.int p2), .val (.int p3), .val (.long (-62167219200 : Int64)), .second, .val (.long (253402300799 : Int64)), .second, .val (.long ((p3 % (200000 : Int32)).toInt64)), .second, .unset, .unset, .unset, .unset] [])) (fun _ k => XS.lstore X0.here hx rfl (hb hby at_15) rfl (l' := #[.val (.long p0), .second, .val (.int p2), .val (.int p3), .val (.long (-62167219200 : Int64)), .second, .val (.long (253402300799 : Int64)), .second, .val (.long ((p3 % (200000 : Int32)).toInt64)), .second, .unset, .unset, .unset, .unset]) rfl k) ?_
  refine own_step (W' := s₁.setTop (mkF m 18 #[.val (.long p0), .second, .val (.int p2), .val (.int p3), .val (.long (-62167219200 : Int64)), .second, .val (.long (253402300799 : Int64)), .second, .val (.long ((p3 % (200000 : Int32)).toInt64)), .second, .unset, .unset, .unset, .unset] [(.int p2)])) (fun _ k => XS.iloadN X0.here hx rfl (hb hby at_17) rfl k) ?_
  refine own_step (W' := s₁.setTop (mkF m 19 #[.val (.long p0), .second, .val (.int p2), .val (.int p3), .val (.long (-62167219200 : Int64)), .second, .val (.long (253402300799 : Int64)), .second, .val (.long ((p3 % (200000 : Int32)).toInt64)), .second, .unset, .unset, .unset, .unset] [(.int (3 : Int32)), (.int p2)])) (fun _ k => XS.iconst X0.here hx rfl (hb hby at_18) k) ?_
  refine own_step (W' := s₁.setTop (mkF m 20 #[.val (.long p0), .second, .val (.int p2), .val (.int p3), .val (.long (-62167219200 : Int64)), .second, .val (.long (253402300799 : Int64)), .second, .val (.long ((p3 % (200000 : Int32)).toInt64)), .second, .unset, .unset, .unset, .unset] [(.int (p2 &&& (3 : Int32)))])) (fun _ k => XS.iand X0.here hx rfl (hb hby at_19) rfl k) ?_
  rw [hm]
  refine own_step (W' := s₁.setTop (mkF m 22 #[.val (.long p0), .second, .val (.int p2), .val (.int p3), .val (.long (-62167219200 : Int64)), .second, .val (.long (253402300799 : Int64)), .second, .val (.long ((p3 % (200000 : Int32)).toInt64)), .second, .val (.int (3 : Int32)), .unset, .unset, .unset] [])) (fun _ k => XS.istore X0.here hx rfl (hb hby at_20) rfl (l' := #[.val (.long p0), .second, .val (.int p2), .val (.int p3), .val (.long (-62167219200 : Int64)), .second, .val (.long (253402300799 : Int64)), .second, .val (.long ((p3 % (200000 : Int32)).toInt64)), .second, .val (.int (3 : Int32)), .unset, .unset, .unset]) rfl k) ?_
  refine own_step (W' := s₁.setTop (mkF m 24 #[.val (.long p0), .second, .val (.int p2), .val (.int p3), .val (.long (-62167219200 : Int64)), .second, .val (.long (253402300799 : Int64)), .second, .val (.long ((p3 % (200000 : Int32)).toInt64)), .second, .val (.int (3 : Int32)), .unset, .unset, .unset] [(.int (3 : Int32))])) (fun _ k => XS.iload X0.here hx rfl (hb hby at_22) rfl k) ?_
  refine own_step (W' := s₁.setTop (mkF m 33 #[.val (.long p0), .second, .val (.int p2), .val (.int p3), .val (.long (-62167219200 : Int64)), .second, .val (.long (253402300799 : Int64)), .second, .val (.long ((p3 % (200000 : Int32)).toInt64)), .second, .val (.int (3 : Int32)), .unset, .unset, .unset] [])) (fun _ k => XS.ifYes X0.here hx rfl (pc0 := 24) (pc' := 33) rfl (hb hby at_24) rfl (by decide) (by decide) (by decide) k) ?_
  refine own_step (W' := s₁.setTop (mkF m 35 #[.val (.long p0), .second, .val (.int p2), .val (.int p3), .val (.long (-62167219200 : Int64)), .second, .val (.long (253402300799 : Int64)), .second, .val (.long ((p3 % (200000 : Int32)).toInt64)), .second, .val (.int (3 : Int32)), .unset, .unset, .unset] [(.int (3 : Int32))])) (fun _ k => XS.iload X0.here hx rfl (hb hby at_33) rfl k) ?_
  refine own_step (W' := s₁.setTop (mkF m 36 #[.val (.long p0), .second, .val (.int p2), .val (.int p3), .val (.long (-62167219200 : Int64)), .second, .val (.long (253402300799 : Int64)), .second, .val (.long ((p3 % (200000 : Int32)).toInt64)), .second, .val (.int (3 : Int32)), .unset, .unset, .unset] [(.int (1 : Int32)), (.int (3 : Int32))])) (fun _ k => XS.iconst X0.here hx rfl (hb hby at_35) k) ?_
  refine own_step (W' := s₁.setTop (mkF m 49 #[.val (.long p0), .second, .val (.int p2), .val (.int p3), .val (.long (-62167219200 : Int64)), .second, .val (.long (253402300799 : Int64)), .second, .val (.long ((p3 % (200000 : Int32)).toInt64)), .second, .val (.int (3 : Int32)), .unset, .unset, .unset] [])) (fun _ k => XS.icmpYes X0.here hx rfl (pc0 := 36) (pc' := 49) rfl (hb hby at_36) rfl (by decide) (by decide) (by decide) k) ?_
  refine own_step (W' := s₁.setTop (mkF m 51 #[.val (.long p0), .second, .val (.int p2), .val (.int p3), .val (.long (-62167219200 : Int64)), .second, .val (.long (253402300799 : Int64)), .second, .val (.long ((p3 % (200000 : Int32)).toInt64)), .second, .val (.int (3 : Int32)), .unset, .unset, .unset] [(.int (3 : Int32))])) (fun _ k => XS.iload X0.here hx rfl (hb hby at_49) rfl k) ?_
  refine own_step (W' := s₁.setTop (mkF m 52 #[.val (.long p0), .second, .val (.int p2), .val (.int p3), .val (.long (-62167219200 : Int64)), .second, .val (.long (253402300799 : Int64)), .second, .val (.long ((p3 % (200000 : Int32)).toInt64)), .second, .val (.int (3 : Int32)), .unset, .unset, .unset] [(.int (2 : Int32)), (.int (3 : Int32))])) (fun _ k => XS.iconst X0.here hx rfl (hb hby at_51) k) ?_
  refine own_step (W' := s₁.setTop (mkF m 65 #[.val (.long p0), .second, .val (.int p2), .val (.int p3), .val (.long (-62167219200 : Int64)), .second, .val (.long (253402300799 : Int64)), .second, .val (.long ((p3 % (200000 : Int32)).toInt64)), .second, .val (.int (3 : Int32)), .unset, .unset, .unset] [])) (fun _ k => XS.icmpYes X0.here hx rfl (pc0 := 52) (pc' := 65) rfl (hb hby at_52) rfl (by decide) (by decide) (by decide) k) ?_
  refine own_step (W' := s₁.setTop (mkF m 67 #[.val (.long p0), .second, .val (.int p2), .val (.int p3), .val (.long (-62167219200 : Int64)), .second, .val (.long (253402300799 : Int64)), .second, .val (.long ((p3 % (200000 : Int32)).toInt64)), .second, .val (.int (3 : Int32)), .unset, .unset, .unset] [(.long ((p3 % (200000 : Int32)).toInt64))])) (fun _ k => XS.lload X0.here hx rfl (hb hby at_65) rfl k) ?_
  refine own_step (W' := s₁.setTop (mkF m 69 #[.val (.long p0), .second, .val (.int p2), .val (.int p3), .val (.long (-62167219200 : Int64)), .second, .val (.long (253402300799 : Int64)), .second, .val (.long ((p3 % (200000 : Int32)).toInt64)), .second, .val (.int (3 : Int32)), .val (.long ((p3 % (200000 : Int32)).toInt64)), .second, .unset] [])) (fun _ k => XS.lstore X0.here hx rfl (hb hby at_67) rfl (l' := #[.val (.long p0), .second, .val (.int p2), .val (.int p3), .val (.long (-62167219200 : Int64)), .second, .val (.long (253402300799 : Int64)), .second, .val (.long ((p3 % (200000 : Int32)).toInt64)), .second, .val (.int (3 : Int32)), .val (.long ((p3 % (200000 : Int32)).toInt64)), .second, .unset]) rfl k) ?_
  by_cases h1 : lcmpW ((p3 % (200000 : Int32)).toInt64) (-62167219200 : Int64) < 0
  · exact own_tail_A p0 p2 p3 ((p3 % (200000 : Int32)).toInt64) (3 : Int32) ((p3 % (200000 : Int32)).toInt64) h1 ((own_first _).mpr h1) X0 hx hZ hw hby hml hown e0 N0 Z0 P Bd.notSynchronized Bd.returns
  have k1 := fun q => h1 ((own_first _).mp q)
  by_cases h2 : 0 < lcmpW ((p3 % (200000 : Int32)).toInt64) (253402300799 : Int64)
  · exact own_tail_B p0 p2 p3 ((p3 % (200000 : Int32)).toInt64) (3 : Int32) ((p3 % (200000 : Int32)).toInt64) h1 h2 k1 ((own_last _).mpr h2) X0 hx hZ hw hby hml hown e0 N0 Z0 P Bd.notSynchronized Bd.returns
  · exact own_tail_C p0 p2 p3 ((p3 % (200000 : Int32)).toInt64) (3 : Int32) ((p3 % (200000 : Int32)).toInt64) h1 h2 k1 (fun q => h2 ((own_last _).mp q)) X0 hx hZ hw hby hml hown e0 N0 Z0 P Bd.notSynchronized Bd.returns
theorem rm0 (l : Launch) (Z : State) (a0 : Array Value) (hw : ∀ d ∈ tables_1, d.before a0 Z = true) (ws : List Jvm.Cond) (p0 : Int64) (p2 p3 : Int32) (w : Nat → Addr) (h0 : Heap) (n0 : Nat) (Z0 : n0 ≤ h0.size) (P : Pins Z h0 w) :
    MetFree l x (head1 (Jvm.Cond.code x code maxLocals ret :: ws) room_1) (fun aA U => aA = #[(.long p0), (.int p2), (.int p3)] ∧ Z.Warmed39 U.vm ∧ U.heap = h0) (fun _ _ _ _ _ => True) (fun _ U o U' => ∃ v L, o = .returned v ∧ own_Q0 n0 v U'.heap L ∧ FrameEnd U o U' L room_1.cells room_1.slots) := by
  rcases own_a4 p2 with hm | hm | hm | hm
  · exact rm0_0 l Z a0 hw ws p0 p2 p3 hm w h0 n0 Z0 P
  · exact rm0_1 l Z a0 hw ws p0 p2 p3 hm w h0 n0 Z0 P
  · exact rm0_2 l Z a0 hw ws p0 p2 p3 hm w h0 n0 Z0 P
  · exact rm0_3 l Z a0 hw ws p0 p2 p3 hm w h0 n0 Z0 P
set_option maxRecDepth 65536 in
set_option maxHeartbeats 40000000 in
theorem comes_1 {Post : Tables → Env → Array Value → State → Outcome → State → Prop} (hpost : ∀ tb e args s v u, (limb_1_1.after args s (.returned v) u = true ∧ limb_1_2.after args s (.returned v) u = true ∧ True) → FrameEnd s (.returned v) u (Jvm.fieldLocs frame_1_writes args s ++ Jvm.arrayLocs frame_1_arrays args s ++ Jvm.staticLocs frame_1_statics s) 0 0 → Post tb e args s (.returned v) u) :
    ArmFor flags0 classFile x code maxLocals ret World_1 tables_1 room_1 Calls_1 rest_1 Pre_1 Post := by
  intro l hfl _ _ p e ha hc hk s m args below hf hA hF happ hP
  obtain ⟨hcalls, hrest, hpre⟩ := hP
  obtain ⟨-, -, -, hnamed, -, -, -, hat⟩ := (Spec.applies_iff hf).mp happ
  obtain ⟨hg, hn⟩ := and_e (Cond.before_iff.mp (show (Jvm.Cond.and given_1 narrow_1).before args s = true from hpre))
  obtain ⟨gc, hg⟩ := and_e hg
  obtain ⟨w0, w1, w2, rfl⟩ : ∃ w0 w1 w2 : Value, args = #[w0, w1, w2] := by
    have hs : args.size = 3 := by simpa [Cond.value, given_1] using gc
    obtain ⟨L⟩ := args
    match L, hs with
    | [w0, w1, w2], _ => exact ⟨w0, w1, w2, rfl⟩
  have hw := fun d (hd : d ∈ tables_1) => atoms_spec (ws := Jvm.Cond.code x code maxLocals ret :: tables_1) hat d (List.mem_cons_of_mem _ hd)
  obtain ⟨g0, hg⟩ := and_e hg
  obtain ⟨i0, ei0⟩ := isL_v g0
  obtain rfl : w0 = (.long i0) := Option.some.inj ei0
  obtain ⟨g1, hg⟩ := and_e hg
  obtain ⟨i1, ei1⟩ := is_v g1
  obtain rfl : w1 = (.int i1) := Option.some.inj ei1
  obtain ⟨i2, ei2⟩ := is_v hg
  obtain rfl : w2 = (.int i2) := Option.some.inj ei2
  obtain ⟨w, P⟩ := own_pins hw hn
  obtain ⟨n, o, h1, h2, h3, _, L, rfl, ⟨rfl, N⟩, hq⟩ := rm0 l s _ hw tables_1 i0 i1 i2 w s.heap s.heap.size (Nat.le_refl _) P p e ha hc hk s m _ below hf ((Spec.applies_iff_loose hf).mp happ).1 ⟨rfl, State.Warmed39.refl s, rfl⟩ trivial
  refine ⟨n, _, h1, h2, h3, hpost _ _ _ _ _ _ ⟨Cond.after_iff.mpr rfl, Cond.after_iff.mpr (eq_i res_at (Term.int_eval (1)) rfl), trivial⟩ ⟨hq.1, hq.2.1, (hq.2.2.sift fun y hy => Or.inr (N y hy)).mono (by decide) (by decide)⟩⟩
theorem main_1_1 : Claimed_1_1 := comes_1 fun _ _ _ _ _ _ h hF => ⟨h.1, hF⟩
theorem main_1_2 : Claimed_1_2 := comes_1 fun _ _ _ _ _ _ h hF => ⟨h.2.1, hF⟩
end Jvm.Pilot.@@N@@
namespace Jvm.Pilot.@@N@@
open Jvm Jvm.ClassFile Sem Op Lib Jvm.Free Jvm.Stand Jvm.Pilot.@@N@@.Jvm.D
/-! MADE BY PROGRAM (witnessworld.py) out of the Statement's table words and the real class files: 10 classes; the members and pool entries that the words name. The judged class is class 1, her method 1. -/
namespace start1
open Jvm.ClassFile
def u (s : String) : CpInfo := .utf8 (stringToUtf16 s)
/-- a pool by its gaps: so many unusable entries, then the entry; so many at the end -/
def gap : Nat → List CpInfo → List CpInfo
  | 0, r => r
  | n + 1, r => .unusable :: gap n r
def poolList (es : List (Nat × CpInfo)) (last : Nat) : List CpInfo := es.foldr (fun e r => gap e.1 (e.2 :: r)) (gap last [])
def pool (es : List (Nat × CpInfo)) (last : Nat) : Array CpInfo := ⟨poolList es last⟩
def fileOf (pool : Array CpInfo) (this : Nat) (attrs : Array Attribute := #[]) (ms : Array MethodInfo := #[]) (fl : Nat := 33) (sup : Nat := 0) (ifs : Array Nat := #[]) (fds : Array FieldInfo := #[]) : ClassFile where
  minorVersion := 0
  majorVersion := 65
  constantPool := pool
  accessFlags := fl
  thisClass := this
  superClass := sup
  interfaces := ifs
  fields := fds
  methods := ms
  attributes := attrs
def plain (name : String) (sup : Option ClassId) : Class where
  name := name
  kind := .ordinary
  loader := none
  accessFlags := 33
  super := sup
  interfaces := #[]
  cf := none
  fields := #[]
  methods := #[]
  instanceTypes := #[]
  staticTypes := #[]
  resolved := #[]
  callSites := []
  init := .initialized
  statics := none
  mirror := none

def pool0 : Array CpInfo := pool [(5, u "<init>"), (0, u "()V"), (1, .class_ 10), (1, u "java/lang/Object")] 113

def k0m0 : Method := { name := "<init>", desc := "()V", sig := { parameters := [], returnType := none }, accessFlags := 1, code := none }
/-- java/lang/Object -/
def k0 : Class := { plain "java/lang/Object" none with
  accessFlags := 33
  interfaces := #[]
  cf := some (fileOf pool0 8 #[] #[{ accessFlags := 1, nameIndex := 5, descriptorIndex := 6, attributes := #[] }] 33 0 #[] #[])
  fields := #[]
  methods := #[k0m0]
  instanceTypes := #[]
  staticTypes := #[]
  resolved := Array.replicate 124 none
  statics := none }

def pool1 : Array CpInfo := pool [(2, .class_ 4), (1, u "java/lang/Object"), (0, u "<init>"), (0, u "()V"), (0, .long 18446744011542332416), (1, .long 253402300799), (1, .integer 200000), (0, .methodref 13 14), (0, .class_ 15), (0, .nameAndType 16 17), (0, u "com/example/levy/levy/Timestamps"), (0, u "writesDateTime"), (0, u "(J)Z"), (0, .class_ 19), (0, u "com/example/levy/levy/TimestampsWritesDateTimePinLaw"), (2, u "law"), (0, u "(JII)Z")] 3

def k1m0 : Method := { name := "<init>", desc := "()V", sig := { parameters := [], returnType := none }, accessFlags := 1, code := none }
def k1c1 : Code := { maxStack := 4, maxLocals := 14, code := code, exceptionTable := #[], attributes := #[] }
def k1m1 : Method := { name := "law", desc := "(JII)Z", sig := { parameters := [.long, .int, .int], returnType := some .boolean }, accessFlags := 9, code := some k1c1 }
/-- com/example/levy/levy/TimestampsWritesDateTimePinLaw -/
def k1 : Class := { plain "com/example/levy/levy/TimestampsWritesDateTimePinLaw" (some 0) with
  accessFlags := 49
  interfaces := #[]
  cf := some (fileOf pool1 18 #[] #[{ accessFlags := 1, nameIndex := 5, descriptorIndex := 6, attributes := #[] }, { accessFlags := 9, nameIndex := 22, descriptorIndex := 23, attributes := #[] }] 49 2 #[] #[])
  fields := #[]
  methods := #[k1m0, k1m1]
  instanceTypes := #[]
  staticTypes := #[]
  resolved := Array.replicate 27 none
  statics := none }

def pool2 : Array CpInfo := pool [(2, .class_ 4), (1, u "java/lang/Object"), (0, u "<init>"), (0, u "()V"), (1, .class_ 10), (1, u "com/example/levy/levy/Timestamps"), (75, .long 86400), (24, u "writesDateTime"), (0, u "(J)Z"), (25, .methodref 139 140), (0, .class_ 141), (0, .nameAndType 142 143), (0, u "java/lang/Math"), (0, u "floorDiv"), (0, u "(JJ)J"), (0, .fieldref 8 145), (0, .nameAndType 146 147), (0, u "FIRST_WRITTEN_DAY"), (0, u "J"), (0, .fieldref 8 149), (0, .nameAndType 150 147), (0, u "LAST_WRITTEN_DAY"), (86, u "DATE_TIME"), (0, u "Ljava/lang/String;"), (1, u "OFFSET"), (0, u "LEAP_SECOND"), (0, u "I"), (1, u "NANOSECOND_DIGITS"), (1, u "SECONDS_A_DAY")] 10

def k2m0 : Method := { name := "<init>", desc := "()V", sig := { parameters := [], returnType := none }, accessFlags := 2, code := none }
def k2c1 : Code := { maxStack := 4, maxLocals := 4, code := prog_24_method_4_code, exceptionTable := #[], attributes := #[] }
def k2m1 : Method := { name := "writesDateTime", desc := "(J)Z", sig := { parameters := [.long], returnType := some .boolean }, accessFlags := 8, code := some k2c1 }
/-- com/example/levy/levy/Timestamps -/
def k2 : Class := { plain "com/example/levy/levy/Timestamps" (some 0) with
  accessFlags := 48
  interfaces := #[]
  cf := some (fileOf pool2 8 #[] #[{ accessFlags := 2, nameIndex := 5, descriptorIndex := 6, attributes := #[] }, { accessFlags := 8, nameIndex := 111, descriptorIndex := 112, attributes := #[] }] 48 2 #[] #[{ accessFlags := 26, nameIndex := 237, descriptorIndex := 238, attributes := #[] }, { accessFlags := 26, nameIndex := 240, descriptorIndex := 238, attributes := #[] }, { accessFlags := 26, nameIndex := 241, descriptorIndex := 242, attributes := #[] }, { accessFlags := 26, nameIndex := 244, descriptorIndex := 242, attributes := #[] }, { accessFlags := 26, nameIndex := 246, descriptorIndex := 147, attributes := #[] }, { accessFlags := 26, nameIndex := 146, descriptorIndex := 147, attributes := #[] }, { accessFlags := 26, nameIndex := 150, descriptorIndex := 147, attributes := #[] }])
  fields := #[{ name := "DATE_TIME", type := (.object "java/lang/String"), accessFlags := 26, slot := 0, constantValue := 0 }, { name := "OFFSET", type := (.object "java/lang/String"), accessFlags := 26, slot := 1, constantValue := 0 }, { name := "LEAP_SECOND", type := .int, accessFlags := 26, slot := 2, constantValue := 0 }, { name := "NANOSECOND_DIGITS", type := .int, accessFlags := 26, slot := 3, constantValue := 0 }, { name := "SECONDS_A_DAY", type := .long, accessFlags := 26, slot := 4, constantValue := 0 }, { name := "FIRST_WRITTEN_DAY", type := .long, accessFlags := 26, slot := 5, constantValue := 0 }, { name := "LAST_WRITTEN_DAY", type := .long, accessFlags := 26, slot := 6, constantValue := 0 }]
  methods := #[k2m0, k2m1]
  instanceTypes := #[]
  staticTypes := #[(.object "java/lang/String"), (.object "java/lang/String"), .int, .int, .long, .long, .long]
  resolved := Array.replicate 257 none
  statics := some 0 }

def pool3 : Array CpInfo := pool [(1, .class_ 2), (0, u "java/lang/Math"), (1, .class_ 6), (1, u "java/lang/Object"), (0, u "<init>"), (0, u "()V"), (89, .class_ 100), (1, u "java/lang/Math$RandomNumberGeneratorHolder"), (20, u "(JJ)J"), (23, u "floorDiv"), (26, u "negativeZeroFloatBits"), (0, u "J"), (2, u "negativeZeroDoubleBits"), (68, u "$assertionsDisabled"), (0, u "Z"), (91, u "twoToTheDoubleScaleDown"), (0, u "D"), (4, u "twoToTheDoubleScaleUp"), (9, u "E"), (3, u "PI"), (2, u "TAU"), (2, u "DEGREES_TO_RADIANS"), (0, u "RADIANS_TO_DEGREES")] 94

def k3m0 : Method := { name := "<init>", desc := "()V", sig := { parameters := [], returnType := none }, accessFlags := 2, code := none }
def k3c1 : Code := { maxStack := 4, maxLocals := 6, code := jdk_29_method_49_code, exceptionTable := #[], attributes := #[] }
def k3m1 : Method := { name := "floorDiv", desc := "(JJ)J", sig := { parameters := [.long, .long], returnType := some .long }, accessFlags := 9, code := some k3c1 }
/-- java/lang/Math -/
def k3 : Class := { plain "java/lang/Math" (some 0) with
  accessFlags := 49
  interfaces := #[]
  cf := some (fileOf pool3 1 #[.nestMembers #[98]] #[{ accessFlags := 2, nameIndex := 7, descriptorIndex := 8, attributes := #[] }, { accessFlags := 9, nameIndex := 145, descriptorIndex := 121, attributes := #[] }] 49 4 #[] #[{ accessFlags := 25, nameIndex := 354, descriptorIndex := 339, attributes := #[] }, { accessFlags := 25, nameIndex := 358, descriptorIndex := 339, attributes := #[] }, { accessFlags := 25, nameIndex := 361, descriptorIndex := 339, attributes := #[] }, { accessFlags := 26, nameIndex := 364, descriptorIndex := 339, attributes := #[] }, { accessFlags := 26, nameIndex := 365, descriptorIndex := 339, attributes := #[] }, { accessFlags := 26, nameIndex := 172, descriptorIndex := 173, attributes := #[] }, { accessFlags := 26, nameIndex := 176, descriptorIndex := 173, attributes := #[] }, { accessFlags := 8, nameIndex := 344, descriptorIndex := 339, attributes := #[] }, { accessFlags := 8, nameIndex := 338, descriptorIndex := 339, attributes := #[] }, { accessFlags := 4120, nameIndex := 245, descriptorIndex := 246, attributes := #[] }])
  fields := #[{ name := "E", type := .double, accessFlags := 25, slot := 0, constantValue := 0 }, { name := "PI", type := .double, accessFlags := 25, slot := 1, constantValue := 0 }, { name := "TAU", type := .double, accessFlags := 25, slot := 2, constantValue := 0 }, { name := "DEGREES_TO_RADIANS", type := .double, accessFlags := 26, slot := 3, constantValue := 0 }, { name := "RADIANS_TO_DEGREES", type := .double, accessFlags := 26, slot := 4, constantValue := 0 }, { name := "negativeZeroFloatBits", type := .long, accessFlags := 26, slot := 5, constantValue := 0 }, { name := "negativeZeroDoubleBits", type := .long, accessFlags := 26, slot := 6, constantValue := 0 }, { name := "twoToTheDoubleScaleUp", type := .double, accessFlags := 8, slot := 7, constantValue := 0 }, { name := "twoToTheDoubleScaleDown", type := .double, accessFlags := 8, slot := 8, constantValue := 0 }, { name := "$assertionsDisabled", type := .boolean, accessFlags := 4120, slot := 9, constantValue := 0 }]
  methods := #[k3m0, k3m1]
  instanceTypes := #[]
  staticTypes := #[.double, .double, .double, .double, .double, .long, .long, .double, .double, .boolean]
  resolved := Array.replicate 460 none
  statics := none }

def pool4 : Array CpInfo := pool [(1, u "java/lang/Cloneable"), (0, .class_ 1), (0, u "java/lang/Object"), (0, .class_ 3)] 3

/-- java/lang/Cloneable -/
def k4 : Class := { plain "java/lang/Cloneable" (some 0) with
  accessFlags := 1537
  interfaces := #[]
  cf := some (fileOf pool4 2 #[] #[] 1537 4 #[] #[])
  fields := #[]
  methods := #[]
  instanceTypes := #[]
  staticTypes := #[]
  resolved := Array.replicate 8 none
  statics := none }

def pool5 : Array CpInfo := pool [(1, u "java/io/Serializable"), (0, .class_ 1), (0, u "java/lang/Object"), (0, .class_ 3)] 3

/-- java/io/Serializable -/
def k5 : Class := { plain "java/io/Serializable" (some 0) with
  accessFlags := 1537
  interfaces := #[]
  cf := some (fileOf pool5 2 #[] #[] 1537 4 #[] #[])
  fields := #[]
  methods := #[]
  instanceTypes := #[]
  staticTypes := #[]
  resolved := Array.replicate 8 none
  statics := none }

/-- the primitive byte -/
def k6 : Class := { plain "byte" none with kind := .primitive 'B', accessFlags := 0x411 }
/-- [B -/
def k7 : Class := { plain "[B" (some 0) with kind := .array 6 .byte, interfaces := #[4, 5], accessFlags := 1041 }

/-- the primitive int -/
def k8 : Class := { plain "int" none with kind := .primitive 'I', accessFlags := 0x411 }
/-- [I -/
def k9 : Class := { plain "[I" (some 0) with kind := .array 8 .int, interfaces := #[4, 5], accessFlags := 1041 }

def heap : Heap := #[{ cls := 2, slots := #[.null, .null, .int 0, .int 0, .long 0, .long (-719528), .long 2932896], vm := .statics 2 }]
def classes : Array Class := #[k0, k1, k2, k3, k4, k5, k6, k7, k8, k9]
def interned : List (Array UInt16 × Addr) := []
def slotsUsed : Nat := 7
def theMethod : MethodId := ⟨1, 1⟩
def args0 : Array Value := #[.long 5, .int 1, .int 7]
def aboutOver (below : List Frame) : State where
  vm := { classes := classes, interned := interned.toArray }
  heap := heap
  slotsUsed := slotsUsed
  threads := #[{ frames := .invoking theMethod args0 :: below }]
def below0 : List Frame := [.native { method := ⟨0, 0⟩, args := #[] }]
def about1 : State := aboutOver below0
def p0 : Program := .bare "" "" ""
def e0 : Env := launch0.env 0 0 0
theorem w_frames : about1.frames = Frame.invoking theMethod args0 :: below0 := rfl
set_option maxRecDepth 65536 in
theorem w_args : argsFit about1.vm theMethod args0 = true := by decide +kernel
set_option maxRecDepth 65536 in
theorem w_heap : heapFits about1 = true := by decide +kernel
set_option maxRecDepth 65536 in
theorem w_runnable : about1.curStatus? = some .runnable := by decide +kernel
set_option maxRecDepth 65536 in
theorem w_alone : about1.alone = true := by decide +kernel
set_option maxRecDepth 65536 in
theorem w_named : about1.methodNamed? x = some theMethod := by decide +kernel
set_option maxRecDepth 65536 in
theorem w_hears : about1.hears theMethod below0 = true := by decide +kernel
set_option maxRecDepth 65536 in
theorem w_ripe : about1.ripe theMethod args0 below0 = true := by decide +kernel
theorem w_running : about1.status = .running := rfl
set_option maxRecDepth 65536 in
theorem w_room : about1.hasRoom e0.platform room_1 = true :=
  launch0.hasRoom_least _ room_1 (by decide +kernel) (by decide +kernel) (by decide +kernel) (by decide +kernel) (by decide +kernel) (by decide +kernel)
theorem allAtoms_all (ts : List Jvm.Cond) (a : Array Jvm.Value) (st : Jvm.State) : (allAtoms ts).before a st = ts.all (fun c => c.before a st) := by
  induction ts with
  | nil => rfl
  | cons c t ih =>
    show (Jvm.Cond.and c (allAtoms t)).before a st = _
    rw [Jvm.Cond.before_and, ih, List.all_cons]
def words1 : List Jvm.Cond := Jvm.Cond.code x code maxLocals ret :: tables_1
/-- a 'code' word, met by the world's own term for the bytes: nothing is compared byte by byte -/
theorem code_word {y : MethodName} {bytes : ByteArray} {mx : Nat} {rt : Option FieldType} {a : Array Value} {s : State} {m : MethodId} {meth : Method} {c : Code} (h1 : s.methodNamed? y = some m) (h2 : s.vm.method? m = some meth) (h3 : meth.code = some c) (h4 : c.code = bytes)
    (h5 : (c.maxLocals == mx && c.exceptionTable.isEmpty && decide (c.maxStack ≤ mostOperands) && decide (meth.sig.returnType = rt) && !meth.locks && decide (parseMethodDescriptor y.desc = some meth.sig)) = true) : (Jvm.Cond.code y bytes mx rt).before a s = true := by
  simp only [Bool.and_eq_true, beq_iff_eq, Bool.not_eq_true', decide_eq_true_eq] at h5
  obtain ⟨⟨⟨⟨⟨g1, g2⟩, g3⟩, g4⟩, g5⟩, g6⟩ := h5
  simp [Cond.before, Cond.holds, Cond.value, h1, h2, h3, h4, g1, g2, g3, g4, g5, g6]
def isCode : Jvm.Cond → Bool
  | .code _ _ _ _ => true
  | _ => false
theorem all_split {L : List Jvm.Cond} {P : Jvm.Cond → Bool} (h1 : L.all (fun c => isCode c || P c) = true) (h2 : ∀ c ∈ L.filter isCode, P c = true) : L.all P = true := by
  refine List.all_eq_true.mpr fun c hc => ?_
  have h := List.all_eq_true.mp h1 c hc
  rcases Bool.eq_false_or_eq_true (isCode c) with hi | hi
  · exact h2 c (List.mem_filter.mpr ⟨hc, hi⟩)
  · simpa [hi] using h
set_option maxRecDepth 65536 in
theorem w_c0 : (Jvm.Cond.code x code maxLocals ret).before args0 about1 = true := code_word (m := ⟨1, 1⟩) (meth := k1m1) (c := k1c1) (by decide +kernel) rfl rfl rfl (by decide +kernel)
set_option maxRecDepth 65536 in
theorem w_c1 : (Jvm.Cond.code ({ cls := "com/example/levy/levy/Timestamps", name := "writesDateTime", desc := "(J)Z" } : Jvm.MethodName) prog_24_method_4_code (4 : Nat) (Option.some Jvm.ClassFile.FieldType.boolean)).before args0 about1 = true := code_word (m := ⟨2, 1⟩) (meth := k2m1) (c := k2c1) (by decide +kernel) rfl rfl rfl (by decide +kernel)
set_option maxRecDepth 65536 in
theorem w_c2 : (Jvm.Cond.code ({ cls := "java/lang/Math", name := "floorDiv", desc := "(JJ)J" } : Jvm.MethodName) jdk_29_method_49_code (6 : Nat) (Option.some Jvm.ClassFile.FieldType.long)).before args0 about1 = true := code_word (m := ⟨3, 1⟩) (meth := k3m1) (c := k3c1) (by decide +kernel) rfl rfl rfl (by decide +kernel)
def codes1 : List Jvm.Cond := [Jvm.Cond.code x code maxLocals ret, Jvm.Cond.code ({ cls := "com/example/levy/levy/Timestamps", name := "writesDateTime", desc := "(J)Z" } : Jvm.MethodName) prog_24_method_4_code (4 : Nat) (Option.some Jvm.ClassFile.FieldType.boolean), Jvm.Cond.code ({ cls := "java/lang/Math", name := "floorDiv", desc := "(JJ)J" } : Jvm.MethodName) jdk_29_method_49_code (6 : Nat) (Option.some Jvm.ClassFile.FieldType.long)]
set_option maxRecDepth 65536 in
theorem codes_eq : words1.filter isCode = codes1 := rfl
theorem w_codes : ∀ c ∈ words1.filter isCode, c.before args0 about1 = true := by
  rw [codes_eq]
  intro c hc
  simp only [codes1, List.mem_cons, List.not_mem_nil, or_false] at hc
  rcases hc with rfl | rfl | rfl
  · exact w_c0
  · exact w_c1
  · exact w_c2
set_option maxRecDepth 65536 in
theorem w_t1 : words1.all (fun c => isCode c || c.before args0 about1) = true := by decide +kernel
theorem w_tables : (allAtoms (Jvm.Cond.code x code maxLocals ret :: tables_1)).before args0 about1 = true := by
  rw [allAtoms_all]
  show words1.all (fun c => c.before args0 about1) = true
  refine all_split ?_ w_codes
  rw [w_t1]
set_option maxRecDepth 65536 in
theorem w_case : (Jvm.Cond.and given_1 narrow_1).before args0 about1 = true := by decide +kernel
theorem w_applies : (headSpec (Jvm.Cond.code x code maxLocals ret :: tables_1) room_1).applies x e0.platform about1 = true :=
  (Spec.applies_iff w_frames).mpr ⟨w_running, w_runnable, w_alone, w_named, w_hears, w_ripe, w_room, w_tables⟩
theorem atStart : AtStart classFile x code maxLocals ret World_1 tables_1 room_1 Calls_1 rest_1 Pre_1 launch0 p0 e0 about1 theMethod args0 below0 :=
  ⟨lists_1, trivial, launch0.admits_env _ _ _, launch0.least_env, fairChoices_fair.cas, fairChoices_fair.clock, w_frames, w_args, w_heap, w_applies, trivial, trivial, w_case⟩
end start1
theorem witness_1 : WitnessClaimed_1 := ⟨start1.p0, start1.e0, start1.about1, start1.theMethod, start1.args0, start1.below0, start1.atStart⟩
end Jvm.Pilot.@@N@@
