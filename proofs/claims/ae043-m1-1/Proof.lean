import JvmDerived
import JvmDerived.Pilot.@@N@@Statement
import JvmDerived.Pilot.@@N@@Code
set_option linter.unusedVariables false
set_option linter.unusedSimpArgs false
@@BLOCK:NumsL.lean.txt@@
namespace Jvm.Pilot.@@N@@
open Jvm Jvm.ClassFile Sem Op Lib Jvm.Free Jvm.Stand Jvm.LawKit Jvm.RoadKit Bundle Jvm.Pilot.@@N@@.Jvm.D

/-! the walk's goal, read backwards: from here the run comes to its end -/
def own_Done (p : Program) (e : Env) (below : List Frame) (W : State) (Q : Outcome → State → Prop) : Prop := ∃ s₂ o, Steps p.tables e below W s₂ ∧ s₂.status = .running ∧ Ended s₂ below o ∧ Q o s₂
theorem own_step {p : Program} {e : Env} {below : List Frame} {W W' : State} {Q : Outcome → State → Prop} (st : ∀ t, Steps p.tables e below W' t → Steps p.tables e below W t) (h : own_Done p e below W' Q) : own_Done p e below W Q := by
  obtain ⟨s2, o, h1, r⟩ := h
  exact ⟨s2, o, st _ h1, r⟩
theorem own_enter {p : Program} {e : Env} {below : List Frame} {T : State} {g g' : JFrame} {Q : Outcome → State → Prop} (q : g = g') (h : own_Done p e below (T.setTop g') Q) : ∃ s₂ o, Steps p.tables e below (T.setTop g) s₂ ∧ s₂.status = .running ∧ Ended s₂ below o ∧ Q o s₂ := by
  subst q; exact h
theorem own_ret {p : Program} {l : Launch} {e : Env} {R : Room} {s : State} {m : MethodId} {args : Array Value} {below : List Frame} {meth : Method} {c : Code} {T W : State} {locs : List Loc} {cells slots k n : Nat} {r : Option Value → Heap → List Loc → Prop} {v : Value} {t : FieldType}
    (X : Stand p l e R s m args below meth c T locs cells slots) (hlocks : meth.locks = false) (hret : meth.sig.returnType = some t)
    (hs : ∀ fs : List Frame, (∀ (f : JFrame) (acts : List Action), f.method = m → f.locked = none → f.entered = [] → (doReturn e (T.setTop f) acts (some v)).1 = T.setFrames fs) → Steps p.tables e below W (T.setFrames fs))
    (hq : r (some v) T.heap locs) (hk : cells ≤ k) (hn : slots ≤ n) : own_Done p e below W (fun o U' => ∃ v L, o = .returned v ∧ r v U'.heap L ∧ FrameEnd s o U' L k n) := by
  obtain ⟨fs, hr, hrun, hended, hW, hsame⟩ := X.leave (v := some v) (fun h => by rw [hret] at h; cases h) hlocks
  exact ⟨_, _, hs fs hr, hrun, hended, _, _, rfl, hq, ⟨_, rfl⟩, hW, hsame.mono hk hn⟩
theorem own_ret0 {p : Program} {l : Launch} {e : Env} {R : Room} {s : State} {m : MethodId} {args : Array Value} {below : List Frame} {meth : Method} {c : Code} {T W : State} {locs : List Loc} {cells slots k n : Nat} {r : Option Value → Heap → List Loc → Prop}
    (X : Stand p l e R s m args below meth c T locs cells slots) (hlocks : meth.locks = false) (hret : meth.sig.returnType = none)
    (hs : ∀ fs : List Frame, (∀ (f : JFrame) (acts : List Action), f.method = m → f.locked = none → f.entered = [] → (doReturn e (T.setTop f) acts none).1 = T.setFrames fs) → Steps p.tables e below W (T.setFrames fs))
    (hq : r none T.heap locs) (hk : cells ≤ k) (hn : slots ≤ n) : own_Done p e below W (fun o U' => ∃ v L, o = .returned v ∧ r v U'.heap L ∧ FrameEnd s o U' L k n) := by
  obtain ⟨fs, hr, hrun, hended, hW, hsame⟩ := X.leave (v := none) (fun _ => rfl) hlocks
  exact ⟨_, _, hs fs hr, hrun, hended, _, _, rfl, hq, ⟨_, rfl⟩, hW, hsame.mono hk hn⟩
/-- a body that writes nothing and returns r -/
def own_QK (r : Option Value) (h0 : Heap) (n0 : Nat) (v : Option Value) (h : Heap) (L : List Loc) : Prop := v = r ∧ Fr n0 L ∧ h = h0
/-- the law itself -/
def own_Q0 (n0 : Nat) (v : Option Value) (h : Heap) (L : List Loc) : Prop := v = some (.int (1 : Int32)) ∧ Fr n0 L

theorem own_fldI {Z : State} {args : Array Value} {t : Term} {a : Addr} {C n d : String} {k : Int32} (ev : t.eval args Z none [] Z = some (.ref a)) (h : (Cond.eq (.field t C n d) (.int k)).value args Z none Z [] = some true) : Fld Z Z.heap a C n d (.int k) := by
  refine Fld.start ?_
  rw [← fld_at (C := C) (n := n) (dd := d) ev]
  obtain ⟨u, w, e1, e2, -, k2⟩ := cmp_v (Or.inl h)
  cases (Term.int_eval k).symm.trans e2
  obtain ⟨z, rfl⟩ := k2
  rw [e1]
  simp [Cond.value, e1, Term.int_eval] at h
  rw [h]
theorem own_fldN {Z : State} {args : Array Value} {t : Term} {a : Addr} {C n d : String} (ev : t.eval args Z none [] Z = some (.ref a)) (h : (Cond.eq (.field t C n d) .null).value args Z none Z [] = some true) : Fld Z Z.heap a C n d .null := by
  refine Fld.start ?_
  rw [← fld_at (C := C) (n := n) (dd := d) ev]
  exact null_v h
theorem own_fldR {Z : State} {args : Array Value} {t u : Term} {a b : Addr} {C n d : String} (ev : t.eval args Z none [] Z = some (.ref a)) (eu : u.eval args Z none [] Z = some (.ref b)) (h : (Cond.eq (.field t C n d) u).value args Z none Z [] = some true) : Fld Z Z.heap a C n d (.ref b) := by
  refine Fld.start ?_
  rw [← fld_at (C := C) (n := n) (dd := d) ev]
  obtain ⟨x, w, e1, e2, k1, k2⟩ := cmp_v (Or.inl h)
  cases eu.symm.trans e2
  obtain ⟨-, hx⟩ := k2
  rw [e1]
  have := gotT (eq_R e1 eu hx rfl) h
  rw [this]
theorem own_a2 (p : Int32) : (p &&& (1 : Int32)) = (0 : Int32) ∨ (p &&& (1 : Int32)) = (1 : Int32) := by
  have h : (p &&& (1 : Int32)).toInt = p.toInt % 2 ^ 1 := Jvm.Kit.i32_mask p 1 (k := 1) (by decide) (by decide)
  generalize (p &&& (1 : Int32)) = z at h
  have hz : z.toInt = 0 ∨ z.toInt = 1 := by omega
  rcases hz with hz | hz
  · exact Or.inl (Int32.toInt_inj.mp (hz.trans (by decide)))
  · exact Or.inr ((Int32.toInt_inj.mp (hz.trans (by decide))))
theorem d1_0 : decode prog_20_method_4_code 0 = .ok (.iload_n 0, 1) := by decide +kernel
theorem d1_1 : decode prog_20_method_4_code 1 = .ok (.ifCond .eq 19, 3) := by decide +kernel
theorem d1_20 : decode prog_20_method_4_code 20 = .ok (.iload_n 1, 1) := by decide +kernel
theorem d1_21 : decode prog_20_method_4_code 21 = .ok (.ifCond .eq 9, 3) := by decide +kernel
theorem d1_30 : decode prog_20_method_4_code 30 = .ok (.getstatic 3, 3) := by decide +kernel
theorem d1_33 : decode prog_20_method_4_code 33 = .ok (.areturn, 1) := by decide +kernel
theorem ef_1_II (m : MethodId) (x0 : Int32) (x1 : Int32) : entryFrame m #[(.int x0), (.int x1)] 2 = mkF m 0 #[.val (.int x0), .val (.int x1)] [] := by first | (simp [entryFrame, mkF, argsToLocals, Value.category]; done) | rfl
theorem pn_com_example_recital_recital_ClauseLabel_Style : plainName "com/example/recital/recital/ClauseLabel$Style" = true := by first | (simp [plainName, overriddenIn]; done) | decide +kernel
theorem pd_0 : parseMethodDescriptor "(ZZ)Lcom/example/recital/recital/ClauseLabel$Style;" = some ⟨[.boolean, .boolean], some (.object "com/example/recital/recital/ClauseLabel$Style")⟩ := by decide +kernel
theorem ef_0_II (m : MethodId) (x0 : Int32) (x1 : Int32) : entryFrame m #[(.int x0), (.int x1)] maxLocals = mkF m 0 #[.val (.int x0), .val (.int x1), .unset, .unset, .unset, .unset, .unset, .unset, .unset] [] := by first | (simp [entryFrame, mkF, argsToLocals, Value.category, maxLocals]; done) | rfl
theorem pn_com_example_recital_recital_StyleOfPinLaw : plainName "com/example/recital/recital/StyleOfPinLaw" = true := by first | (simp [plainName, overriddenIn]; done) | decide +kernel
theorem d1_24 : decode prog_20_method_4_code 24 = .ok (.getstatic 7, 3) := by decide +kernel
theorem d1_27 : decode prog_20_method_4_code 27 = .ok (.goto 6, 3) := by decide +kernel
theorem d1_4 : decode prog_20_method_4_code 4 = .ok (.iload_n 1, 1) := by decide +kernel
theorem d1_5 : decode prog_20_method_4_code 5 = .ok (.ifCond .eq 9, 3) := by decide +kernel
theorem d1_14 : decode prog_20_method_4_code 14 = .ok (.getstatic 10, 3) := by decide +kernel
theorem d1_17 : decode prog_20_method_4_code 17 = .ok (.goto 16, 3) := by decide +kernel
theorem d1_8 : decode prog_20_method_4_code 8 = .ok (.getstatic 13, 3) := by decide +kernel
theorem d1_11 : decode prog_20_method_4_code 11 = .ok (.goto 22, 3) := by decide +kernel
/-- what the case pins of the constants -/
def Pins (Z : State) (h : Heap) (w : Nat → Addr) : Prop := Exa Z h (w 0) "com/example/recital/recital/ClauseLabel$Style" ∧ Sta Z h "com/example/recital/recital/ClauseLabel$Style" "ROMAN" "Lcom/example/recital/recital/ClauseLabel$Style;" (.ref (w 0)) ∧ Exa Z h (w 1) "com/example/recital/recital/ClauseLabel$Style" ∧ Sta Z h "com/example/recital/recital/ClauseLabel$Style" "LETTER" "Lcom/example/recital/recital/ClauseLabel$Style;" (.ref (w 1)) ∧ Fld Z h (w 0) "java/lang/Enum" "ordinal" "I" (.int (1 : Int32)) ∧ Fld Z h (w 1) "java/lang/Enum" "ordinal" "I" (.int (0 : Int32)) ∧ Exa Z h (w 2) "com/example/recital/recital/ClauseLabel$Style" ∧ Sta Z h "com/example/recital/recital/ClauseLabel$Style" "CAPITAL" "Lcom/example/recital/recital/ClauseLabel$Style;" (.ref (w 2)) ∧ Fld Z h (w 2) "java/lang/Enum" "ordinal" "I" (.int (2 : Int32)) ∧ Exa Z h (w 3) "com/example/recital/recital/ClauseLabel$Style" ∧ Sta Z h "com/example/recital/recital/ClauseLabel$Style" "CAPITAL_ROMAN" "Lcom/example/recital/recital/ClauseLabel$Style;" (.ref (w 3)) ∧ Fld Z h (w 3) "java/lang/Enum" "ordinal" "I" (.int (3 : Int32))
theorem pin_E0 {Z : State} {h : Heap} {w : Nat → Addr} (P : Pins Z h w) : Exa Z h (w 0) "com/example/recital/recital/ClauseLabel$Style" := P.1
theorem pin_S0 {Z : State} {h : Heap} {w : Nat → Addr} (P : Pins Z h w) : Sta Z h "com/example/recital/recital/ClauseLabel$Style" "ROMAN" "Lcom/example/recital/recital/ClauseLabel$Style;" (.ref (w 0)) := P.2.1
theorem pin_E1 {Z : State} {h : Heap} {w : Nat → Addr} (P : Pins Z h w) : Exa Z h (w 1) "com/example/recital/recital/ClauseLabel$Style" := P.2.2.1
theorem pin_S1 {Z : State} {h : Heap} {w : Nat → Addr} (P : Pins Z h w) : Sta Z h "com/example/recital/recital/ClauseLabel$Style" "LETTER" "Lcom/example/recital/recital/ClauseLabel$Style;" (.ref (w 1)) := P.2.2.2.1
theorem pin_F0_ordinal {Z : State} {h : Heap} {w : Nat → Addr} (P : Pins Z h w) : Fld Z h (w 0) "java/lang/Enum" "ordinal" "I" (.int (1 : Int32)) := P.2.2.2.2.1
theorem pin_F1_ordinal {Z : State} {h : Heap} {w : Nat → Addr} (P : Pins Z h w) : Fld Z h (w 1) "java/lang/Enum" "ordinal" "I" (.int (0 : Int32)) := P.2.2.2.2.2.1
theorem pin_E2 {Z : State} {h : Heap} {w : Nat → Addr} (P : Pins Z h w) : Exa Z h (w 2) "com/example/recital/recital/ClauseLabel$Style" := P.2.2.2.2.2.2.1
theorem pin_S2 {Z : State} {h : Heap} {w : Nat → Addr} (P : Pins Z h w) : Sta Z h "com/example/recital/recital/ClauseLabel$Style" "CAPITAL" "Lcom/example/recital/recital/ClauseLabel$Style;" (.ref (w 2)) := P.2.2.2.2.2.2.2.1
theorem pin_F2_ordinal {Z : State} {h : Heap} {w : Nat → Addr} (P : Pins Z h w) : Fld Z h (w 2) "java/lang/Enum" "ordinal" "I" (.int (2 : Int32)) := P.2.2.2.2.2.2.2.2.1
theorem pin_E3 {Z : State} {h : Heap} {w : Nat → Addr} (P : Pins Z h w) : Exa Z h (w 3) "com/example/recital/recital/ClauseLabel$Style" := P.2.2.2.2.2.2.2.2.2.1
theorem pin_S3 {Z : State} {h : Heap} {w : Nat → Addr} (P : Pins Z h w) : Sta Z h "com/example/recital/recital/ClauseLabel$Style" "CAPITAL_ROMAN" "Lcom/example/recital/recital/ClauseLabel$Style;" (.ref (w 3)) := P.2.2.2.2.2.2.2.2.2.2.1
theorem pin_F3_ordinal {Z : State} {h : Heap} {w : Nat → Addr} (P : Pins Z h w) : Fld Z h (w 3) "java/lang/Enum" "ordinal" "I" (.int (3 : Int32)) := P.2.2.2.2.2.2.2.2.2.2.2
theorem Pins.ext {Z : State} {h h' : Heap} {w : Nat → Addr} (E : Ext h h') (P : Pins Z h w) : Pins Z h' w := ⟨Exa.ext E (pin_E0 P), Sta.ext E (pin_S0 P), Exa.ext E (pin_E1 P), Sta.ext E (pin_S1 P), Fld.ext E (pin_F0_ordinal P), Fld.ext E (pin_F1_ordinal P), Exa.ext E (pin_E2 P), Sta.ext E (pin_S2 P), Fld.ext E (pin_F2_ordinal P), Exa.ext E (pin_E3 P), Sta.ext E (pin_S3 P), Fld.ext E (pin_F3_ordinal P)⟩
set_option maxRecDepth 65536 in
theorem own_pins {s : State} {args : Array Value} (hw : ∀ d ∈ tables_1, d.before args s = true) (hn : narrow_1.value args s none s [] = some true) : ∃ w, Pins s s.heap w := by
  obtain ⟨c0, hn⟩ := and_e hn
  obtain ⟨c1, hn⟩ := and_e hn
  obtain ⟨c2, hn⟩ := and_e hn
  obtain ⟨c3, hn⟩ := and_e hn
  obtain ⟨c4, hn⟩ := and_e hn
  obtain ⟨c5, hn⟩ := and_e hn
  obtain ⟨c6, hn⟩ := and_e hn
  have c7 := hn
  obtain ⟨a0, ev0⟩ := exa_v c0
  obtain ⟨a1, ev1⟩ := exa_v c1
  obtain ⟨a2, ev2⟩ := exa_v c4
  obtain ⟨a3, ev3⟩ := exa_v c6
  have E0 := Exa.start ev0 c0
  have S0 := Sta.start ev0 (Or.inr ⟨(hw _ (List.mem_of_getElem? (i := 2) rfl)), (hw _ (List.mem_of_getElem? (i := 5) rfl))⟩)
  have E1 := Exa.start ev1 c1
  have S1 := Sta.start ev1 (Or.inr ⟨(hw _ (List.mem_of_getElem? (i := 2) rfl)), (hw _ (List.mem_of_getElem? (i := 7) rfl))⟩)
  have F0_ordinal := own_fldI ev0 c2
  have F1_ordinal := own_fldI ev1 c3
  have E2 := Exa.start ev2 c4
  have S2 := Sta.start ev2 (Or.inr ⟨(hw _ (List.mem_of_getElem? (i := 2) rfl)), (hw _ (List.mem_of_getElem? (i := 10) rfl))⟩)
  have F2_ordinal := own_fldI ev2 c5
  have E3 := Exa.start ev3 c6
  have S3 := Sta.start ev3 (Or.inr ⟨(hw _ (List.mem_of_getElem? (i := 2) rfl)), (hw _ (List.mem_of_getElem? (i := 12) rfl))⟩)
  have F3_ordinal := own_fldI ev3 c7
  exact ⟨fun i => [a0, a1, a2, a3].getD i 0, E0, S0, E1, S1, F0_ordinal, F1_ordinal, E2, S2, F2_ordinal, E3, S3, F3_ordinal⟩
set_option maxRecDepth 65536 in
set_option maxHeartbeats 40000000 in
theorem rm1_0_0 (l : Launch) (Z : State) (a0 : Array Value) (hw : ∀ d ∈ tables_1, d.before a0 Z = true) (ws : List Jvm.Cond) (w : Nat → Addr) (h0 : Heap) (n0 : Nat) (Z0 : n0 ≤ h0.size) (P : Pins Z h0 w) :
    MetFree l (⟨"com/example/recital/recital/ClauseLabel$Style", "of", "(ZZ)Lcom/example/recital/recital/ClauseLabel$Style;"⟩ : MethodName) (head1 (Jvm.Cond.code (⟨"com/example/recital/recital/ClauseLabel$Style", "of", "(ZZ)Lcom/example/recital/recital/ClauseLabel$Style;"⟩ : MethodName) prog_20_method_4_code 2 (some (.object "com/example/recital/recital/ClauseLabel$Style")) :: ws) ({ frames := 0, cells := 0, slots := 0, locals := 0 } : Room)) (fun a U => a = #[(.int (0 : Int32)), (.int (0 : Int32))] ∧ Z.Warmed39 U.vm ∧ U.heap = h0) (fun _ _ _ _ _ => True) (fun _ U o U' => ∃ v L, o = .returned v ∧ own_QK (some (.ref (w 1))) h0 n0 v U'.heap L ∧ FrameEnd U o U' L ({ frames := 0, cells := 0, slots := 0, locals := 0 } : Room).cells ({ frames := 0, cells := 0, slots := 0, locals := 0 } : Room).slots) := by
  refine MetFree.of_bodySF (plainFor_of_name pn_com_example_recital_recital_ClauseLabel_Style) hisR ?_
  intro p e s m args below meth c s₁ Bd hml0 hP hK
  obtain ⟨rfl, hZ, hh⟩ := hP
  have hx := Bd.exec
  have hby := Bd.bytes
  have hml : c.maxLocals = 2 := hml0
  have hown : s.vm.findClass "com/example/recital/recital/ClauseLabel$Style" = some m.cls := findClass_of_methodNamed Bd.named
  have hnm := (name_of_methodNamed Bd.named Bd.method).1
  have X0 : Stand p l e ({ frames := 0, cells := 0, slots := 0, locals := 0 } : Room) s m #[(.int (0 : Int32)), (.int (0 : Int32))] below meth c s₁ [] 0 0 := Stand.of_body Bd
  have e0 : s₁.heap = h0 := by rw [← hh, Bd.state]; rfl
  have N0 := Fr.nil n0
  refine own_enter (ef_1_II m (0 : Int32) (0 : Int32)) ?_
  refine own_step (W' := s₁.setTop (mkF m 1 #[.val (.int (0 : Int32)), .val (.int (0 : Int32))] [(.int (0 : Int32))])) (fun _ k => XS.iloadN X0.here hx rfl (hb hby d1_0) rfl k) ?_
  refine own_step (W' := s₁.setTop (mkF m 20 #[.val (.int (0 : Int32)), .val (.int (0 : Int32))] [])) (fun _ k => XS.ifYes X0.here hx rfl (pc0 := 1) (pc' := 20) rfl (hb hby d1_1) rfl (by decide) (by decide) (by decide) k) ?_
  refine own_step (W' := s₁.setTop (mkF m 21 #[.val (.int (0 : Int32)), .val (.int (0 : Int32))] [(.int (0 : Int32))])) (fun _ k => XS.iloadN X0.here hx rfl (hb hby d1_20) rfl k) ?_
  refine own_step (W' := s₁.setTop (mkF m 30 #[.val (.int (0 : Int32)), .val (.int (0 : Int32))] [])) (fun _ k => XS.ifYes X0.here hx rfl (pc0 := 21) (pc' := 30) rfl (hb hby d1_21) rfl (by decide) (by decide) (by decide) k) ?_
  obtain ⟨T1, X1, e1, st1⟩ := getS2 X0 hx hZ hown (host := "") (Or.inl (hw _ (List.mem_of_getElem? (i := 13) rfl))) Via.refl e0 (pin_S1 P) (g := (mkF m 30 #[.val (.int (0 : Int32)), .val (.int (0 : Int32))] [])) rfl (hb hby d1_30)
  refine own_step (W' := T1.setTop (mkF m 33 #[.val (.int (0 : Int32)), .val (.int (0 : Int32))] [(.ref (w 1))])) (fun _ k => st1 _ k) ?_
  exact own_ret X1 Bd.notSynchronized Bd.returns (v := (.ref (w 1))) (fun fs hr => retOut X1 hx Bd.returns rfl (Or.inr (Or.inr (Or.inr (Or.inr ⟨rfl, rfl, rfl⟩)))) (hb hby d1_33) hr) ⟨rfl, N0, e1⟩ (by decide) (by decide)
set_option maxRecDepth 65536 in
set_option maxHeartbeats 40000000 in
theorem rm0_00 (l : Launch) (Z : State) (a0 : Array Value) (hw : ∀ d ∈ tables_1, d.before a0 Z = true) (ws : List Jvm.Cond) (p1 p2 : Int32) (ha : (p1 &&& (1 : Int32)) = (0 : Int32)) (hb' : (p2 &&& (1 : Int32)) = (0 : Int32)) (w : Nat → Addr) (h0 : Heap) (n0 : Nat) (Z0 : n0 ≤ h0.size) (P : Pins Z h0 w) :
    MetFree l x (head1 (Jvm.Cond.code x code maxLocals ret :: ws) room_1) (fun a U => a = #[(.int p1), (.int p2)] ∧ Z.Warmed39 U.vm ∧ U.heap = h0) (fun _ _ _ _ _ => True) (fun _ U o U' => ∃ v L, o = .returned v ∧ own_Q0 n0 v U'.heap L ∧ FrameEnd U o U' L room_1.cells room_1.slots) := by
  refine MetFree.of_bodySF (plainFor_of_name pn_com_example_recital_recital_StyleOfPinLaw) hisR ?_
  intro p e s m args below meth c s₁ Bd hml0 hP hK
  obtain ⟨rfl, hZ, hh⟩ := hP
  have hx := Bd.exec
  have hby := Bd.bytes
  have hml : c.maxLocals = 9 := hml0
  have hown : s.vm.findClass "com/example/recital/recital/StyleOfPinLaw" = some m.cls := findClass_of_methodNamed Bd.named
  have hnm := (name_of_methodNamed Bd.named Bd.method).1
  have X0 : Stand p l e room_1 s m #[(.int p1), (.int p2)] below meth c s₁ [] 0 0 := Stand.of_body Bd
  have e0 : s₁.heap = h0 := by rw [← hh, Bd.state]; rfl
  have N0 := Fr.nil n0
  refine own_enter (ef_0_II m p1 p2) ?_
  refine own_step (W' := s₁.setTop (mkF m 1 #[.val (.int p1), .val (.int p2), .unset, .unset, .unset, .unset, .unset, .unset, .unset] [(.int p1)])) (fun _ k => XS.iloadN X0.here hx rfl (hb hby at_0) rfl k) ?_
  refine own_step (W' := s₁.setTop (mkF m 2 #[.val (.int p1), .val (.int p2), .unset, .unset, .unset, .unset, .unset, .unset, .unset] [(.int (1 : Int32)), (.int p1)])) (fun _ k => XS.iconst X0.here hx rfl (hb hby at_1) k) ?_
  refine own_step (W' := s₁.setTop (mkF m 3 #[.val (.int p1), .val (.int p2), .unset, .unset, .unset, .unset, .unset, .unset, .unset] [(.int (p1 &&& (1 : Int32)))])) (fun _ k => XS.iand X0.here hx rfl (hb hby at_2) rfl k) ?_
  rw [ha]
  refine own_step (W' := s₁.setTop (mkF m 10 #[.val (.int p1), .val (.int p2), .unset, .unset, .unset, .unset, .unset, .unset, .unset] [])) (fun _ k => XS.ifYes X0.here hx rfl (pc0 := 3) (pc' := 10) rfl (hb hby at_3) rfl (by decide) (by decide) (by decide) k) ?_
  refine own_step (W' := s₁.setTop (mkF m 11 #[.val (.int p1), .val (.int p2), .unset, .unset, .unset, .unset, .unset, .unset, .unset] [(.int (0 : Int32))])) (fun _ k => XS.iconst X0.here hx rfl (hb hby at_10) k) ?_
  refine own_step (W' := s₁.setTop (mkF m 12 #[.val (.int p1), .val (.int p2), .val (.int (0 : Int32)), .unset, .unset, .unset, .unset, .unset, .unset] [])) (fun _ k => XS.istoreN X0.here hx rfl (hb hby at_11) rfl (l' := #[.val (.int p1), .val (.int p2), .val (.int (0 : Int32)), .unset, .unset, .unset, .unset, .unset, .unset]) rfl k) ?_
  refine own_step (W' := s₁.setTop (mkF m 13 #[.val (.int p1), .val (.int p2), .val (.int (0 : Int32)), .unset, .unset, .unset, .unset, .unset, .unset] [(.int p2)])) (fun _ k => XS.iloadN X0.here hx rfl (hb hby at_12) rfl k) ?_
  refine own_step (W' := s₁.setTop (mkF m 14 #[.val (.int p1), .val (.int p2), .val (.int (0 : Int32)), .unset, .unset, .unset, .unset, .unset, .unset] [(.int (1 : Int32)), (.int p2)])) (fun _ k => XS.iconst X0.here hx rfl (hb hby at_13) k) ?_
  refine own_step (W' := s₁.setTop (mkF m 15 #[.val (.int p1), .val (.int p2), .val (.int (0 : Int32)), .unset, .unset, .unset, .unset, .unset, .unset] [(.int (p2 &&& (1 : Int32)))])) (fun _ k => XS.iand X0.here hx rfl (hb hby at_14) rfl k) ?_
  rw [hb']
  refine own_step (W' := s₁.setTop (mkF m 22 #[.val (.int p1), .val (.int p2), .val (.int (0 : Int32)), .unset, .unset, .unset, .unset, .unset, .unset] [])) (fun _ k => XS.ifYes X0.here hx rfl (pc0 := 15) (pc' := 22) rfl (hb hby at_15) rfl (by decide) (by decide) (by decide) k) ?_
  refine own_step (W' := s₁.setTop (mkF m 23 #[.val (.int p1), .val (.int p2), .val (.int (0 : Int32)), .unset, .unset, .unset, .unset, .unset, .unset] [(.int (0 : Int32))])) (fun _ k => XS.iconst X0.here hx rfl (hb hby at_22) k) ?_
  refine own_step (W' := s₁.setTop (mkF m 24 #[.val (.int p1), .val (.int p2), .val (.int (0 : Int32)), .val (.int (0 : Int32)), .unset, .unset, .unset, .unset, .unset] [])) (fun _ k => XS.istoreN X0.here hx rfl (hb hby at_23) rfl (l' := #[.val (.int p1), .val (.int p2), .val (.int (0 : Int32)), .val (.int (0 : Int32)), .unset, .unset, .unset, .unset, .unset]) rfl k) ?_
  refine own_step (W' := s₁.setTop (mkF m 25 #[.val (.int p1), .val (.int p2), .val (.int (0 : Int32)), .val (.int (0 : Int32)), .unset, .unset, .unset, .unset, .unset] [(.int (0 : Int32))])) (fun _ k => XS.iloadN X0.here hx rfl (hb hby at_24) rfl k) ?_
  refine own_step (W' := s₁.setTop (mkF m 26 #[.val (.int p1), .val (.int p2), .val (.int (0 : Int32)), .val (.int (0 : Int32)), .unset, .unset, .unset, .unset, .unset] [(.int (0 : Int32)), (.int (0 : Int32))])) (fun _ k => XS.iloadN X0.here hx rfl (hb hby at_25) rfl k) ?_
  obtain ⟨_, _, ⟨T1, L1, k1, n1⟩, -, X1, ⟨Lc1, hQ1, l1, y1, z1⟩, st1⟩ := Jvm.LawKit.callS X0 hx (y := (⟨"com/example/recital/recital/ClauseLabel$Style", "of", "(ZZ)Lcom/example/recital/recital/ClauseLabel$Style;"⟩ : MethodName)) hown (mvT hZ (hw _ (List.mem_of_getElem? (i := 0) rfl))) (mvT hZ (hw _ (List.mem_of_getElem? (i := 1) rfl))) (mvT hZ (hw _ (List.mem_of_getElem? (i := 2) rfl))) (mvT hZ (hw _ (List.mem_of_getElem? (i := 3) rfl))) (by decide) (backOf (W := 0) (rm1_0_0 l Z a0 hw [] w h0 n0 Z0 P) hZ (hw _ (List.mem_of_getElem? (i := 3) rfl)) (hw _ (List.mem_of_getElem? (i := 2) rfl)) (by decide) (by decide)) (g := (mkF m 26 #[.val (.int p1), .val (.int p2), .val (.int (0 : Int32)), .val (.int (0 : Int32)), .unset, .unset, .unset, .unset, .unset] [(.int (0 : Int32)), (.int (0 : Int32))])) rfl (by rw [hml]; rfl) (argsL := [(.int (0 : Int32)), (.int (0 : Int32))]) (rest := []) (lenOf pd_0 rfl) rfl (by show 2 * 0 + _ ≤ _; exact Nat.le_of_eq rfl) (hb hby at_26) (fun _ _ => ⟨rfl, e0, (by decide : 0 + 0 ≤ _), (by decide : 0 + 0 ≤ _)⟩)
  dsimp only [Pt.U, Pt.locs, Pt.cells, Pt.slots] at X1 l1 y1 z1 st1 hQ1
  subst l1 y1 z1
  obtain ⟨rfl, N1q, e1⟩ := hQ1
  have N1 := Fr.app N0 N1q
  refine own_step (W' := T1.setTop (mkF m 29 #[.val (.int p1), .val (.int p2), .val (.int (0 : Int32)), .val (.int (0 : Int32)), .unset, .unset, .unset, .unset, .unset] [(.ref (w 1))])) (fun _ k => st1 _ k) ?_
  refine own_step (W' := T1.setTop (mkF m 31 #[.val (.int p1), .val (.int p2), .val (.int (0 : Int32)), .val (.int (0 : Int32)), .val (.ref (w 1)), .unset, .unset, .unset, .unset] [])) (fun _ k => XS.astore X1.here hx rfl (hb hby at_29) rfl rfl (l' := #[.val (.int p1), .val (.int p2), .val (.int (0 : Int32)), .val (.int (0 : Int32)), .val (.ref (w 1)), .unset, .unset, .unset, .unset]) rfl k) ?_
  refine own_step (W' := T1.setTop (mkF m 33 #[.val (.int p1), .val (.int p2), .val (.int (0 : Int32)), .val (.int (0 : Int32)), .val (.ref (w 1)), .unset, .unset, .unset, .unset] [(.ref (w 1))])) (fun _ k => XS.aload X1.here hx rfl (hb hby at_31) rfl rfl k) ?_
  obtain ⟨T2, X2, e2, st2⟩ := getS2 X1 hx hZ hown (host := "") (Or.inl (hw _ (List.mem_of_getElem? (i := 6) rfl))) Via.refl e1 (pin_S1 P) (g := (mkF m 33 #[.val (.int p1), .val (.int p2), .val (.int (0 : Int32)), .val (.int (0 : Int32)), .val (.ref (w 1)), .unset, .unset, .unset, .unset] [(.ref (w 1))])) rfl (hb hby at_33)
  refine own_step (W' := T2.setTop (mkF m 36 #[.val (.int p1), .val (.int p2), .val (.int (0 : Int32)), .val (.int (0 : Int32)), .val (.ref (w 1)), .unset, .unset, .unset, .unset] [(.ref (w 1)), (.ref (w 1))])) (fun _ k => st2 _ k) ?_
  refine own_step (W' := T2.setTop (mkF m 39 #[.val (.int p1), .val (.int p2), .val (.int (0 : Int32)), .val (.int (0 : Int32)), .val (.ref (w 1)), .unset, .unset, .unset, .unset] [])) (fun _ k => Jvm.RoadKit.acmp (g := (mkF m 36 #[.val (.int p1), .val (.int p2), .val (.int (0 : Int32)), .val (.int (0 : Int32)), .val (.ref (w 1)), .unset, .unset, .unset, .unset] [(.ref (w 1)), (.ref (w 1))])) X2 hx rfl rfl rfl (pc0 := 36) (pc' := 39) (same := true) rfl (hb hby at_36) rfl (decide_eq_true rfl) (by decide) (by decide) k) ?_
  refine own_step (W' := T2.setTop (mkF m 40 #[.val (.int p1), .val (.int p2), .val (.int (0 : Int32)), .val (.int (0 : Int32)), .val (.ref (w 1)), .unset, .unset, .unset, .unset] [(.int (1 : Int32))])) (fun _ k => XS.iconst X2.here hx rfl (hb hby at_39) k) ?_
  refine own_step (W' := T2.setTop (mkF m 44 #[.val (.int p1), .val (.int p2), .val (.int (0 : Int32)), .val (.int (0 : Int32)), .val (.ref (w 1)), .unset, .unset, .unset, .unset] [(.int (1 : Int32))])) (fun _ k => XS.goto X2.here hx rfl (pc0 := 40) (pc' := 44) rfl (hb hby at_40) (by decide) (by decide) k) ?_
  refine own_step (W' := T2.setTop (mkF m 45 #[.val (.int p1), .val (.int p2), .val (.int (0 : Int32)), .val (.int (0 : Int32)), .val (.ref (w 1)), .unset, .unset, .unset, .unset] [(.int (0 : Int32)), (.int (1 : Int32))])) (fun _ k => XS.iloadN X2.here hx rfl (hb hby at_44) rfl k) ?_
  refine own_step (W' := T2.setTop (mkF m 48 #[.val (.int p1), .val (.int p2), .val (.int (0 : Int32)), .val (.int (0 : Int32)), .val (.ref (w 1)), .unset, .unset, .unset, .unset] [(.int (1 : Int32))])) (fun _ k => XS.ifNo X2.here hx rfl (hb hby at_45) rfl (by decide) k) ?_
  refine own_step (W' := T2.setTop (mkF m 49 #[.val (.int p1), .val (.int p2), .val (.int (0 : Int32)), .val (.int (0 : Int32)), .val (.ref (w 1)), .unset, .unset, .unset, .unset] [(.int (0 : Int32)), (.int (1 : Int32))])) (fun _ k => XS.iloadN X2.here hx rfl (hb hby at_48) rfl k) ?_
  refine own_step (W' := T2.setTop (mkF m 52 #[.val (.int p1), .val (.int p2), .val (.int (0 : Int32)), .val (.int (0 : Int32)), .val (.ref (w 1)), .unset, .unset, .unset, .unset] [(.int (1 : Int32))])) (fun _ k => XS.ifNo X2.here hx rfl (hb hby at_49) rfl (by decide) k) ?_
  refine own_step (W' := T2.setTop (mkF m 53 #[.val (.int p1), .val (.int p2), .val (.int (0 : Int32)), .val (.int (0 : Int32)), .val (.ref (w 1)), .unset, .unset, .unset, .unset] [(.int (1 : Int32)), (.int (1 : Int32))])) (fun _ k => XS.iconst X2.here hx rfl (hb hby at_52) k) ?_
  refine own_step (W' := T2.setTop (mkF m 57 #[.val (.int p1), .val (.int p2), .val (.int (0 : Int32)), .val (.int (0 : Int32)), .val (.ref (w 1)), .unset, .unset, .unset, .unset] [(.int (1 : Int32)), (.int (1 : Int32))])) (fun _ k => XS.goto X2.here hx rfl (pc0 := 53) (pc' := 57) rfl (hb hby at_53) (by decide) (by decide) k) ?_
  refine own_step (W' := T2.setTop (mkF m 60 #[.val (.int p1), .val (.int p2), .val (.int (0 : Int32)), .val (.int (0 : Int32)), .val (.ref (w 1)), .unset, .unset, .unset, .unset] [])) (fun _ k => XS.icmpNo X2.here hx rfl (hb hby at_57) rfl (by decide) k) ?_
  refine own_step (W' := T2.setTop (mkF m 61 #[.val (.int p1), .val (.int p2), .val (.int (0 : Int32)), .val (.int (0 : Int32)), .val (.ref (w 1)), .unset, .unset, .unset, .unset] [(.int (1 : Int32))])) (fun _ k => XS.iconst X2.here hx rfl (hb hby at_60) k) ?_
  refine own_step (W' := T2.setTop (mkF m 65 #[.val (.int p1), .val (.int p2), .val (.int (0 : Int32)), .val (.int (0 : Int32)), .val (.ref (w 1)), .unset, .unset, .unset, .unset] [(.int (1 : Int32))])) (fun _ k => XS.goto X2.here hx rfl (pc0 := 61) (pc' := 65) rfl (hb hby at_61) (by decide) (by decide) k) ?_
  refine own_step (W' := T2.setTop (mkF m 67 #[.val (.int p1), .val (.int p2), .val (.int (0 : Int32)), .val (.int (0 : Int32)), .val (.ref (w 1)), .val (.int (1 : Int32)), .unset, .unset, .unset] [])) (fun _ k => XS.istore X2.here hx rfl (hb hby at_65) rfl (l' := #[.val (.int p1), .val (.int p2), .val (.int (0 : Int32)), .val (.int (0 : Int32)), .val (.ref (w 1)), .val (.int (1 : Int32)), .unset, .unset, .unset]) rfl k) ?_
  refine own_step (W' := T2.setTop (mkF m 69 #[.val (.int p1), .val (.int p2), .val (.int (0 : Int32)), .val (.int (0 : Int32)), .val (.ref (w 1)), .val (.int (1 : Int32)), .unset, .unset, .unset] [(.ref (w 1))])) (fun _ k => XS.aload X2.here hx rfl (hb hby at_67) rfl rfl k) ?_
  obtain ⟨T3, X3, e3, st3⟩ := getS2 X2 hx hZ hown (host := "") (Or.inl (hw _ (List.mem_of_getElem? (i := 8) rfl))) Via.refl e2 (pin_S0 P) (g := (mkF m 69 #[.val (.int p1), .val (.int p2), .val (.int (0 : Int32)), .val (.int (0 : Int32)), .val (.ref (w 1)), .val (.int (1 : Int32)), .unset, .unset, .unset] [(.ref (w 1))])) rfl (hb hby at_69)
  refine own_step (W' := T3.setTop (mkF m 72 #[.val (.int p1), .val (.int p2), .val (.int (0 : Int32)), .val (.int (0 : Int32)), .val (.ref (w 1)), .val (.int (1 : Int32)), .unset, .unset, .unset] [(.ref (w 0)), (.ref (w 1))])) (fun _ k => st3 _ k) ?_
  refine own_step (W' := T3.setTop (mkF m 79 #[.val (.int p1), .val (.int p2), .val (.int (0 : Int32)), .val (.int (0 : Int32)), .val (.ref (w 1)), .val (.int (1 : Int32)), .unset, .unset, .unset] [])) (fun _ k => Jvm.RoadKit.acmp (g := (mkF m 72 #[.val (.int p1), .val (.int p2), .val (.int (0 : Int32)), .val (.int (0 : Int32)), .val (.ref (w 1)), .val (.int (1 : Int32)), .unset, .unset, .unset] [(.ref (w 0)), (.ref (w 1))])) X3 hx rfl rfl rfl (pc0 := 72) (pc' := 79) (same := false) rfl (hb hby at_72) rfl (decide_eq_false fun q => (Fld.ne (pin_F1_ordinal P) (pin_F0_ordinal P) (by decide)) (Value.ref.inj q)) (by decide) (by decide) k) ?_
  refine own_step (W' := T3.setTop (mkF m 80 #[.val (.int p1), .val (.int p2), .val (.int (0 : Int32)), .val (.int (0 : Int32)), .val (.ref (w 1)), .val (.int (1 : Int32)), .unset, .unset, .unset] [(.int (0 : Int32))])) (fun _ k => XS.iconst X3.here hx rfl (hb hby at_79) k) ?_
  refine own_step (W' := T3.setTop (mkF m 81 #[.val (.int p1), .val (.int p2), .val (.int (0 : Int32)), .val (.int (0 : Int32)), .val (.ref (w 1)), .val (.int (1 : Int32)), .unset, .unset, .unset] [(.int (0 : Int32)), (.int (0 : Int32))])) (fun _ k => XS.iloadN X3.here hx rfl (hb hby at_80) rfl k) ?_
  refine own_step (W' := T3.setTop (mkF m 84 #[.val (.int p1), .val (.int p2), .val (.int (0 : Int32)), .val (.int (0 : Int32)), .val (.ref (w 1)), .val (.int (1 : Int32)), .unset, .unset, .unset] [(.int (0 : Int32))])) (fun _ k => XS.ifNo X3.here hx rfl (hb hby at_81) rfl (by decide) k) ?_
  refine own_step (W' := T3.setTop (mkF m 85 #[.val (.int p1), .val (.int p2), .val (.int (0 : Int32)), .val (.int (0 : Int32)), .val (.ref (w 1)), .val (.int (1 : Int32)), .unset, .unset, .unset] [(.int (0 : Int32)), (.int (0 : Int32))])) (fun _ k => XS.iloadN X3.here hx rfl (hb hby at_84) rfl k) ?_
  refine own_step (W' := T3.setTop (mkF m 92 #[.val (.int p1), .val (.int p2), .val (.int (0 : Int32)), .val (.int (0 : Int32)), .val (.ref (w 1)), .val (.int (1 : Int32)), .unset, .unset, .unset] [(.int (0 : Int32))])) (fun _ k => XS.ifYes X3.here hx rfl (pc0 := 85) (pc' := 92) rfl (hb hby at_85) rfl (by decide) (by decide) (by decide) k) ?_
  refine own_step (W' := T3.setTop (mkF m 93 #[.val (.int p1), .val (.int p2), .val (.int (0 : Int32)), .val (.int (0 : Int32)), .val (.ref (w 1)), .val (.int (1 : Int32)), .unset, .unset, .unset] [(.int (0 : Int32)), (.int (0 : Int32))])) (fun _ k => XS.iconst X3.here hx rfl (hb hby at_92) k) ?_
  refine own_step (W' := T3.setTop (mkF m 96 #[.val (.int p1), .val (.int p2), .val (.int (0 : Int32)), .val (.int (0 : Int32)), .val (.ref (w 1)), .val (.int (1 : Int32)), .unset, .unset, .unset] [])) (fun _ k => XS.icmpNo X3.here hx rfl (hb hby at_93) rfl (by decide) k) ?_
  refine own_step (W' := T3.setTop (mkF m 97 #[.val (.int p1), .val (.int p2), .val (.int (0 : Int32)), .val (.int (0 : Int32)), .val (.ref (w 1)), .val (.int (1 : Int32)), .unset, .unset, .unset] [(.int (1 : Int32))])) (fun _ k => XS.iconst X3.here hx rfl (hb hby at_96) k) ?_
  refine own_step (W' := T3.setTop (mkF m 101 #[.val (.int p1), .val (.int p2), .val (.int (0 : Int32)), .val (.int (0 : Int32)), .val (.ref (w 1)), .val (.int (1 : Int32)), .unset, .unset, .unset] [(.int (1 : Int32))])) (fun _ k => XS.goto X3.here hx rfl (pc0 := 97) (pc' := 101) rfl (hb hby at_97) (by decide) (by decide) k) ?_
  refine own_step (W' := T3.setTop (mkF m 103 #[.val (.int p1), .val (.int p2), .val (.int (0 : Int32)), .val (.int (0 : Int32)), .val (.ref (w 1)), .val (.int (1 : Int32)), .val (.int (1 : Int32)), .unset, .unset] [])) (fun _ k => XS.istore X3.here hx rfl (hb hby at_101) rfl (l' := #[.val (.int p1), .val (.int p2), .val (.int (0 : Int32)), .val (.int (0 : Int32)), .val (.ref (w 1)), .val (.int (1 : Int32)), .val (.int (1 : Int32)), .unset, .unset]) rfl k) ?_
  refine own_step (W' := T3.setTop (mkF m 105 #[.val (.int p1), .val (.int p2), .val (.int (0 : Int32)), .val (.int (0 : Int32)), .val (.ref (w 1)), .val (.int (1 : Int32)), .val (.int (1 : Int32)), .unset, .unset] [(.ref (w 1))])) (fun _ k => XS.aload X3.here hx rfl (hb hby at_103) rfl rfl k) ?_
  obtain ⟨T4, X4, e4, st4⟩ := getS2 X3 hx hZ hown (host := "") (Or.inl (hw _ (List.mem_of_getElem? (i := 9) rfl))) Via.refl e3 (pin_S2 P) (g := (mkF m 105 #[.val (.int p1), .val (.int p2), .val (.int (0 : Int32)), .val (.int (0 : Int32)), .val (.ref (w 1)), .val (.int (1 : Int32)), .val (.int (1 : Int32)), .unset, .unset] [(.ref (w 1))])) rfl (hb hby at_105)
  refine own_step (W' := T4.setTop (mkF m 108 #[.val (.int p1), .val (.int p2), .val (.int (0 : Int32)), .val (.int (0 : Int32)), .val (.ref (w 1)), .val (.int (1 : Int32)), .val (.int (1 : Int32)), .unset, .unset] [(.ref (w 2)), (.ref (w 1))])) (fun _ k => st4 _ k) ?_
  refine own_step (W' := T4.setTop (mkF m 115 #[.val (.int p1), .val (.int p2), .val (.int (0 : Int32)), .val (.int (0 : Int32)), .val (.ref (w 1)), .val (.int (1 : Int32)), .val (.int (1 : Int32)), .unset, .unset] [])) (fun _ k => Jvm.RoadKit.acmp (g := (mkF m 108 #[.val (.int p1), .val (.int p2), .val (.int (0 : Int32)), .val (.int (0 : Int32)), .val (.ref (w 1)), .val (.int (1 : Int32)), .val (.int (1 : Int32)), .unset, .unset] [(.ref (w 2)), (.ref (w 1))])) X4 hx rfl rfl rfl (pc0 := 108) (pc' := 115) (same := false) rfl (hb hby at_108) rfl (decide_eq_false fun q => (Fld.ne (pin_F1_ordinal P) (pin_F2_ordinal P) (by decide)) (Value.ref.inj q)) (by decide) (by decide) k) ?_
  refine own_step (W' := T4.setTop (mkF m 116 #[.val (.int p1), .val (.int p2), .val (.int (0 : Int32)), .val (.int (0 : Int32)), .val (.ref (w 1)), .val (.int (1 : Int32)), .val (.int (1 : Int32)), .unset, .unset] [(.int (0 : Int32))])) (fun _ k => XS.iconst X4.here hx rfl (hb hby at_115) k) ?_
  refine own_step (W' := T4.setTop (mkF m 117 #[.val (.int p1), .val (.int p2), .val (.int (0 : Int32)), .val (.int (0 : Int32)), .val (.ref (w 1)), .val (.int (1 : Int32)), .val (.int (1 : Int32)), .unset, .unset] [(.int (0 : Int32)), (.int (0 : Int32))])) (fun _ k => XS.iloadN X4.here hx rfl (hb hby at_116) rfl k) ?_
  refine own_step (W' := T4.setTop (mkF m 128 #[.val (.int p1), .val (.int p2), .val (.int (0 : Int32)), .val (.int (0 : Int32)), .val (.ref (w 1)), .val (.int (1 : Int32)), .val (.int (1 : Int32)), .unset, .unset] [(.int (0 : Int32))])) (fun _ k => XS.ifYes X4.here hx rfl (pc0 := 117) (pc' := 128) rfl (hb hby at_117) rfl (by decide) (by decide) (by decide) k) ?_
  refine own_step (W' := T4.setTop (mkF m 129 #[.val (.int p1), .val (.int p2), .val (.int (0 : Int32)), .val (.int (0 : Int32)), .val (.ref (w 1)), .val (.int (1 : Int32)), .val (.int (1 : Int32)), .unset, .unset] [(.int (0 : Int32)), (.int (0 : Int32))])) (fun _ k => XS.iconst X4.here hx rfl (hb hby at_128) k) ?_
  refine own_step (W' := T4.setTop (mkF m 132 #[.val (.int p1), .val (.int p2), .val (.int (0 : Int32)), .val (.int (0 : Int32)), .val (.ref (w 1)), .val (.int (1 : Int32)), .val (.int (1 : Int32)), .unset, .unset] [])) (fun _ k => XS.icmpNo X4.here hx rfl (hb hby at_129) rfl (by decide) k) ?_
  refine own_step (W' := T4.setTop (mkF m 133 #[.val (.int p1), .val (.int p2), .val (.int (0 : Int32)), .val (.int (0 : Int32)), .val (.ref (w 1)), .val (.int (1 : Int32)), .val (.int (1 : Int32)), .unset, .unset] [(.int (1 : Int32))])) (fun _ k => XS.iconst X4.here hx rfl (hb hby at_132) k) ?_
  refine own_step (W' := T4.setTop (mkF m 137 #[.val (.int p1), .val (.int p2), .val (.int (0 : Int32)), .val (.int (0 : Int32)), .val (.ref (w 1)), .val (.int (1 : Int32)), .val (.int (1 : Int32)), .unset, .unset] [(.int (1 : Int32))])) (fun _ k => XS.goto X4.here hx rfl (pc0 := 133) (pc' := 137) rfl (hb hby at_133) (by decide) (by decide) k) ?_
  refine own_step (W' := T4.setTop (mkF m 139 #[.val (.int p1), .val (.int p2), .val (.int (0 : Int32)), .val (.int (0 : Int32)), .val (.ref (w 1)), .val (.int (1 : Int32)), .val (.int (1 : Int32)), .val (.int (1 : Int32)), .unset] [])) (fun _ k => XS.istore X4.here hx rfl (hb hby at_137) rfl (l' := #[.val (.int p1), .val (.int p2), .val (.int (0 : Int32)), .val (.int (0 : Int32)), .val (.ref (w 1)), .val (.int (1 : Int32)), .val (.int (1 : Int32)), .val (.int (1 : Int32)), .unset]) rfl k) ?_
  refine own_step (W' := T4.setTop (mkF m 141 #[.val (.int p1), .val (.int p2), .val (.int (0 : Int32)), .val (.int (0 : Int32)), .val (.ref (w 1)), .val (.int (1 : Int32)), .val (.int (1 : Int32)), .val (.int (1 : Int32)), .unset] [(.ref (w 1))])) (fun _ k => XS.aload X4.here hx rfl (hb hby at_139) rfl rfl k) ?_
  obtain ⟨T5, X5, e5, st5⟩ := getS2 X4 hx hZ hown (host := "") (Or.inl (hw _ (List.mem_of_getElem? (i := 11) rfl))) Via.refl e4 (pin_S3 P) (g := (mkF m 141 #[.val (.int p1), .val (.int p2), .val (.int (0 : Int32)), .val (.int (0 : Int32)), .val (.ref (w 1)), .val (.int (1 : Int32)), .val (.int (1 : Int32)), .val (.int (1 : Int32)), .unset] [(.ref (w 1))])) rfl (hb hby at_141)
  refine own_step (W' := T5.setTop (mkF m 144 #[.val (.int p1), .val (.int p2), .val (.int (0 : Int32)), .val (.int (0 : Int32)), .val (.ref (w 1)), .val (.int (1 : Int32)), .val (.int (1 : Int32)), .val (.int (1 : Int32)), .unset] [(.ref (w 3)), (.ref (w 1))])) (fun _ k => st5 _ k) ?_
  refine own_step (W' := T5.setTop (mkF m 151 #[.val (.int p1), .val (.int p2), .val (.int (0 : Int32)), .val (.int (0 : Int32)), .val (.ref (w 1)), .val (.int (1 : Int32)), .val (.int (1 : Int32)), .val (.int (1 : Int32)), .unset] [])) (fun _ k => Jvm.RoadKit.acmp (g := (mkF m 144 #[.val (.int p1), .val (.int p2), .val (.int (0 : Int32)), .val (.int (0 : Int32)), .val (.ref (w 1)), .val (.int (1 : Int32)), .val (.int (1 : Int32)), .val (.int (1 : Int32)), .unset] [(.ref (w 3)), (.ref (w 1))])) X5 hx rfl rfl rfl (pc0 := 144) (pc' := 151) (same := false) rfl (hb hby at_144) rfl (decide_eq_false fun q => (Fld.ne (pin_F1_ordinal P) (pin_F3_ordinal P) (by decide)) (Value.ref.inj q)) (by decide) (by decide) k) ?_
  refine own_step (W' := T5.setTop (mkF m 152 #[.val (.int p1), .val (.int p2), .val (.int (0 : Int32)), .val (.int (0 : Int32)), .val (.ref (w 1)), .val (.int (1 : Int32)), .val (.int (1 : Int32)), .val (.int (1 : Int32)), .unset] [(.int (0 : Int32))])) (fun _ k => XS.iconst X5.here hx rfl (hb hby at_151) k) ?_
  refine own_step (W' := T5.setTop (mkF m 153 #[.val (.int p1), .val (.int p2), .val (.int (0 : Int32)), .val (.int (0 : Int32)), .val (.ref (w 1)), .val (.int (1 : Int32)), .val (.int (1 : Int32)), .val (.int (1 : Int32)), .unset] [(.int (0 : Int32)), (.int (0 : Int32))])) (fun _ k => XS.iloadN X5.here hx rfl (hb hby at_152) rfl k) ?_
  refine own_step (W' := T5.setTop (mkF m 164 #[.val (.int p1), .val (.int p2), .val (.int (0 : Int32)), .val (.int (0 : Int32)), .val (.ref (w 1)), .val (.int (1 : Int32)), .val (.int (1 : Int32)), .val (.int (1 : Int32)), .unset] [(.int (0 : Int32))])) (fun _ k => XS.ifYes X5.here hx rfl (pc0 := 153) (pc' := 164) rfl (hb hby at_153) rfl (by decide) (by decide) (by decide) k) ?_
  refine own_step (W' := T5.setTop (mkF m 165 #[.val (.int p1), .val (.int p2), .val (.int (0 : Int32)), .val (.int (0 : Int32)), .val (.ref (w 1)), .val (.int (1 : Int32)), .val (.int (1 : Int32)), .val (.int (1 : Int32)), .unset] [(.int (0 : Int32)), (.int (0 : Int32))])) (fun _ k => XS.iconst X5.here hx rfl (hb hby at_164) k) ?_
  refine own_step (W' := T5.setTop (mkF m 168 #[.val (.int p1), .val (.int p2), .val (.int (0 : Int32)), .val (.int (0 : Int32)), .val (.ref (w 1)), .val (.int (1 : Int32)), .val (.int (1 : Int32)), .val (.int (1 : Int32)), .unset] [])) (fun _ k => XS.icmpNo X5.here hx rfl (hb hby at_165) rfl (by decide) k) ?_
  refine own_step (W' := T5.setTop (mkF m 169 #[.val (.int p1), .val (.int p2), .val (.int (0 : Int32)), .val (.int (0 : Int32)), .val (.ref (w 1)), .val (.int (1 : Int32)), .val (.int (1 : Int32)), .val (.int (1 : Int32)), .unset] [(.int (1 : Int32))])) (fun _ k => XS.iconst X5.here hx rfl (hb hby at_168) k) ?_
  refine own_step (W' := T5.setTop (mkF m 173 #[.val (.int p1), .val (.int p2), .val (.int (0 : Int32)), .val (.int (0 : Int32)), .val (.ref (w 1)), .val (.int (1 : Int32)), .val (.int (1 : Int32)), .val (.int (1 : Int32)), .unset] [(.int (1 : Int32))])) (fun _ k => XS.goto X5.here hx rfl (pc0 := 169) (pc' := 173) rfl (hb hby at_169) (by decide) (by decide) k) ?_
  refine own_step (W' := T5.setTop (mkF m 175 #[.val (.int p1), .val (.int p2), .val (.int (0 : Int32)), .val (.int (0 : Int32)), .val (.ref (w 1)), .val (.int (1 : Int32)), .val (.int (1 : Int32)), .val (.int (1 : Int32)), .val (.int (1 : Int32))] [])) (fun _ k => XS.istore X5.here hx rfl (hb hby at_173) rfl (l' := #[.val (.int p1), .val (.int p2), .val (.int (0 : Int32)), .val (.int (0 : Int32)), .val (.ref (w 1)), .val (.int (1 : Int32)), .val (.int (1 : Int32)), .val (.int (1 : Int32)), .val (.int (1 : Int32))]) rfl k) ?_
  refine own_step (W' := T5.setTop (mkF m 177 #[.val (.int p1), .val (.int p2), .val (.int (0 : Int32)), .val (.int (0 : Int32)), .val (.ref (w 1)), .val (.int (1 : Int32)), .val (.int (1 : Int32)), .val (.int (1 : Int32)), .val (.int (1 : Int32))] [(.int (1 : Int32))])) (fun _ k => XS.iload X5.here hx rfl (hb hby at_175) rfl k) ?_
  refine own_step (W' := T5.setTop (mkF m 180 #[.val (.int p1), .val (.int p2), .val (.int (0 : Int32)), .val (.int (0 : Int32)), .val (.ref (w 1)), .val (.int (1 : Int32)), .val (.int (1 : Int32)), .val (.int (1 : Int32)), .val (.int (1 : Int32))] [])) (fun _ k => XS.ifNo X5.here hx rfl (hb hby at_177) rfl (by decide) k) ?_
  refine own_step (W' := T5.setTop (mkF m 182 #[.val (.int p1), .val (.int p2), .val (.int (0 : Int32)), .val (.int (0 : Int32)), .val (.ref (w 1)), .val (.int (1 : Int32)), .val (.int (1 : Int32)), .val (.int (1 : Int32)), .val (.int (1 : Int32))] [(.int (1 : Int32))])) (fun _ k => XS.iload X5.here hx rfl (hb hby at_180) rfl k) ?_
  refine own_step (W' := T5.setTop (mkF m 185 #[.val (.int p1), .val (.int p2), .val (.int (0 : Int32)), .val (.int (0 : Int32)), .val (.ref (w 1)), .val (.int (1 : Int32)), .val (.int (1 : Int32)), .val (.int (1 : Int32)), .val (.int (1 : Int32))] [])) (fun _ k => XS.ifNo X5.here hx rfl (hb hby at_182) rfl (by decide) k) ?_
  refine own_step (W' := T5.setTop (mkF m 187 #[.val (.int p1), .val (.int p2), .val (.int (0 : Int32)), .val (.int (0 : Int32)), .val (.ref (w 1)), .val (.int (1 : Int32)), .val (.int (1 : Int32)), .val (.int (1 : Int32)), .val (.int (1 : Int32))] [(.int (1 : Int32))])) (fun _ k => XS.iload X5.here hx rfl (hb hby at_185) rfl k) ?_
  refine own_step (W' := T5.setTop (mkF m 190 #[.val (.int p1), .val (.int p2), .val (.int (0 : Int32)), .val (.int (0 : Int32)), .val (.ref (w 1)), .val (.int (1 : Int32)), .val (.int (1 : Int32)), .val (.int (1 : Int32)), .val (.int (1 : Int32))] [])) (fun _ k => XS.ifNo X5.here hx rfl (hb hby at_187) rfl (by decide) k) ?_
  refine own_step (W' := T5.setTop (mkF m 192 #[.val (.int p1), .val (.int p2), .val (.int (0 : Int32)), .val (.int (0 : Int32)), .val (.ref (w 1)), .val (.int (1 : Int32)), .val (.int (1 : Int32)), .val (.int (1 : Int32)), .val (.int (1 : Int32))] [(.int (1 : Int32))])) (fun _ k => XS.iload X5.here hx rfl (hb hby at_190) rfl k) ?_
  refine own_step (W' := T5.setTop (mkF m 195 #[.val (.int p1), .val (.int p2), .val (.int (0 : Int32)), .val (.int (0 : Int32)), .val (.ref (w 1)), .val (.int (1 : Int32)), .val (.int (1 : Int32)), .val (.int (1 : Int32)), .val (.int (1 : Int32))] [])) (fun _ k => XS.ifNo X5.here hx rfl (hb hby at_192) rfl (by decide) k) ?_
  refine own_step (W' := T5.setTop (mkF m 196 #[.val (.int p1), .val (.int p2), .val (.int (0 : Int32)), .val (.int (0 : Int32)), .val (.ref (w 1)), .val (.int (1 : Int32)), .val (.int (1 : Int32)), .val (.int (1 : Int32)), .val (.int (1 : Int32))] [(.int (1 : Int32))])) (fun _ k => XS.iconst X5.here hx rfl (hb hby at_195) k) ?_
  refine own_step (W' := T5.setTop (mkF m 200 #[.val (.int p1), .val (.int p2), .val (.int (0 : Int32)), .val (.int (0 : Int32)), .val (.ref (w 1)), .val (.int (1 : Int32)), .val (.int (1 : Int32)), .val (.int (1 : Int32)), .val (.int (1 : Int32))] [(.int (1 : Int32))])) (fun _ k => XS.goto X5.here hx rfl (pc0 := 196) (pc' := 200) rfl (hb hby at_196) (by decide) (by decide) k) ?_
  exact own_ret X5 Bd.notSynchronized Bd.returns (v := (.int (1 : Int32))) (fun fs hr => retN X5 hx (t := .boolean) Bd.returns (by simp) (hb hby at_200) hr) ⟨rfl, N1⟩ (by decide) (by decide)
set_option maxRecDepth 65536 in
set_option maxHeartbeats 40000000 in
theorem rm1_0_1 (l : Launch) (Z : State) (a0 : Array Value) (hw : ∀ d ∈ tables_1, d.before a0 Z = true) (ws : List Jvm.Cond) (w : Nat → Addr) (h0 : Heap) (n0 : Nat) (Z0 : n0 ≤ h0.size) (P : Pins Z h0 w) :
    MetFree l (⟨"com/example/recital/recital/ClauseLabel$Style", "of", "(ZZ)Lcom/example/recital/recital/ClauseLabel$Style;"⟩ : MethodName) (head1 (Jvm.Cond.code (⟨"com/example/recital/recital/ClauseLabel$Style", "of", "(ZZ)Lcom/example/recital/recital/ClauseLabel$Style;"⟩ : MethodName) prog_20_method_4_code 2 (some (.object "com/example/recital/recital/ClauseLabel$Style")) :: ws) ({ frames := 0, cells := 0, slots := 0, locals := 0 } : Room)) (fun a U => a = #[(.int (0 : Int32)), (.int (1 : Int32))] ∧ Z.Warmed39 U.vm ∧ U.heap = h0) (fun _ _ _ _ _ => True) (fun _ U o U' => ∃ v L, o = .returned v ∧ own_QK (some (.ref (w 0))) h0 n0 v U'.heap L ∧ FrameEnd U o U' L ({ frames := 0, cells := 0, slots := 0, locals := 0 } : Room).cells ({ frames := 0, cells := 0, slots := 0, locals := 0 } : Room).slots) := by
  refine MetFree.of_bodySF (plainFor_of_name pn_com_example_recital_recital_ClauseLabel_Style) hisR ?_
  intro p e s m args below meth c s₁ Bd hml0 hP hK
  obtain ⟨rfl, hZ, hh⟩ := hP
  have hx := Bd.exec
  have hby := Bd.bytes
  have hml : c.maxLocals = 2 := hml0
  have hown : s.vm.findClass "com/example/recital/recital/ClauseLabel$Style" = some m.cls := findClass_of_methodNamed Bd.named
  have hnm := (name_of_methodNamed Bd.named Bd.method).1
  have X0 : Stand p l e ({ frames := 0, cells := 0, slots := 0, locals := 0 } : Room) s m #[(.int (0 : Int32)), (.int (1 : Int32))] below meth c s₁ [] 0 0 := Stand.of_body Bd
  have e0 : s₁.heap = h0 := by rw [← hh, Bd.state]; rfl
  have N0 := Fr.nil n0
  refine own_enter (ef_1_II m (0 : Int32) (1 : Int32)) ?_
  refine own_step (W' := s₁.setTop (mkF m 1 #[.val (.int (0 : Int32)), .val (.int (1 : Int32))] [(.int (0 : Int32))])) (fun _ k => XS.iloadN X0.here hx rfl (hb hby d1_0) rfl k) ?_
  refine own_step (W' := s₁.setTop (mkF m 20 #[.val (.int (0 : Int32)), .val (.int (1 : Int32))] [])) (fun _ k => XS.ifYes X0.here hx rfl (pc0 := 1) (pc' := 20) rfl (hb hby d1_1) rfl (by decide) (by decide) (by decide) k) ?_
  refine own_step (W' := s₁.setTop (mkF m 21 #[.val (.int (0 : Int32)), .val (.int (1 : Int32))] [(.int (1 : Int32))])) (fun _ k => XS.iloadN X0.here hx rfl (hb hby d1_20) rfl k) ?_
  refine own_step (W' := s₁.setTop (mkF m 24 #[.val (.int (0 : Int32)), .val (.int (1 : Int32))] [])) (fun _ k => XS.ifNo X0.here hx rfl (hb hby d1_21) rfl (by decide) k) ?_
  obtain ⟨T1, X1, e1, st1⟩ := getS2 X0 hx hZ hown (host := "") (Or.inl (hw _ (List.mem_of_getElem? (i := 4) rfl))) Via.refl e0 (pin_S0 P) (g := (mkF m 24 #[.val (.int (0 : Int32)), .val (.int (1 : Int32))] [])) rfl (hb hby d1_24)
  refine own_step (W' := T1.setTop (mkF m 27 #[.val (.int (0 : Int32)), .val (.int (1 : Int32))] [(.ref (w 0))])) (fun _ k => st1 _ k) ?_
  refine own_step (W' := T1.setTop (mkF m 33 #[.val (.int (0 : Int32)), .val (.int (1 : Int32))] [(.ref (w 0))])) (fun _ k => XS.goto X1.here hx rfl (pc0 := 27) (pc' := 33) rfl (hb hby d1_27) (by decide) (by decide) k) ?_
  exact own_ret X1 Bd.notSynchronized Bd.returns (v := (.ref (w 0))) (fun fs hr => retOut X1 hx Bd.returns rfl (Or.inr (Or.inr (Or.inr (Or.inr ⟨rfl, rfl, rfl⟩)))) (hb hby d1_33) hr) ⟨rfl, N0, e1⟩ (by decide) (by decide)
set_option maxRecDepth 65536 in
set_option maxHeartbeats 40000000 in
theorem rm0_01 (l : Launch) (Z : State) (a0 : Array Value) (hw : ∀ d ∈ tables_1, d.before a0 Z = true) (ws : List Jvm.Cond) (p1 p2 : Int32) (ha : (p1 &&& (1 : Int32)) = (0 : Int32)) (hb' : (p2 &&& (1 : Int32)) = (1 : Int32)) (w : Nat → Addr) (h0 : Heap) (n0 : Nat) (Z0 : n0 ≤ h0.size) (P : Pins Z h0 w) :
    MetFree l x (head1 (Jvm.Cond.code x code maxLocals ret :: ws) room_1) (fun a U => a = #[(.int p1), (.int p2)] ∧ Z.Warmed39 U.vm ∧ U.heap = h0) (fun _ _ _ _ _ => True) (fun _ U o U' => ∃ v L, o = .returned v ∧ own_Q0 n0 v U'.heap L ∧ FrameEnd U o U' L room_1.cells room_1.slots) := by
  refine MetFree.of_bodySF (plainFor_of_name pn_com_example_recital_recital_StyleOfPinLaw) hisR ?_
  intro p e s m args below meth c s₁ Bd hml0 hP hK
  obtain ⟨rfl, hZ, hh⟩ := hP
  have hx := Bd.exec
  have hby := Bd.bytes
  have hml : c.maxLocals = 9 := hml0
  have hown : s.vm.findClass "com/example/recital/recital/StyleOfPinLaw" = some m.cls := findClass_of_methodNamed Bd.named
  have hnm := (name_of_methodNamed Bd.named Bd.method).1
  have X0 : Stand p l e room_1 s m #[(.int p1), (.int p2)] below meth c s₁ [] 0 0 := Stand.of_body Bd
  have e0 : s₁.heap = h0 := by rw [← hh, Bd.state]; rfl
  have N0 := Fr.nil n0
  refine own_enter (ef_0_II m p1 p2) ?_
  refine own_step (W' := s₁.setTop (mkF m 1 #[.val (.int p1), .val (.int p2), .unset, .unset, .unset, .unset, .unset, .unset, .unset] [(.int p1)])) (fun _ k => XS.iloadN X0.here hx rfl (hb hby at_0) rfl k) ?_
  refine own_step (W' := s₁.setTop (mkF m 2 #[.val (.int p1), .val (.int p2), .unset, .unset, .unset, .unset, .unset, .unset, .unset] [(.int (1 : Int32)), (.int p1)])) (fun _ k => XS.iconst X0.here hx rfl (hb hby at_1) k) ?_
  refine own_step (W' := s₁.setTop (mkF m 3 #[.val (.int p1), .val (.int p2), .unset, .unset, .unset, .unset, .unset, .unset, .unset] [(.int (p1 &&& (1 : Int32)))])) (fun _ k => XS.iand X0.here hx rfl (hb hby at_2) rfl k) ?_
  rw [ha]
  refine own_step (W' := s₁.setTop (mkF m 10 #[.val (.int p1), .val (.int p2), .unset, .unset, .unset, .unset, .unset, .unset, .unset] [])) (fun _ k => XS.ifYes X0.here hx rfl (pc0 := 3) (pc' := 10) rfl (hb hby at_3) rfl (by decide) (by decide) (by decide) k) ?_
  refine own_step (W' := s₁.setTop (mkF m 11 #[.val (.int p1), .val (.int p2), .unset, .unset, .unset, .unset, .unset, .unset, .unset] [(.int (0 : Int32))])) (fun _ k => XS.iconst X0.here hx rfl (hb hby at_10) k) ?_
  refine own_step (W' := s₁.setTop (mkF m 12 #[.val (.int p1), .val (.int p2), .val (.int (0 : Int32)), .unset, .unset, .unset, .unset, .unset, .unset] [])) (fun _ k => XS.istoreN X0.here hx rfl (hb hby at_11) rfl (l' := #[.val (.int p1), .val (.int p2), .val (.int (0 : Int32)), .unset, .unset, .unset, .unset, .unset, .unset]) rfl k) ?_
  refine own_step (W' := s₁.setTop (mkF m 13 #[.val (.int p1), .val (.int p2), .val (.int (0 : Int32)), .unset, .unset, .unset, .unset, .unset, .unset] [(.int p2)])) (fun _ k => XS.iloadN X0.here hx rfl (hb hby at_12) rfl k) ?_
  refine own_step (W' := s₁.setTop (mkF m 14 #[.val (.int p1), .val (.int p2), .val (.int (0 : Int32)), .unset, .unset, .unset, .unset, .unset, .unset] [(.int (1 : Int32)), (.int p2)])) (fun _ k => XS.iconst X0.here hx rfl (hb hby at_13) k) ?_
  refine own_step (W' := s₁.setTop (mkF m 15 #[.val (.int p1), .val (.int p2), .val (.int (0 : Int32)), .unset, .unset, .unset, .unset, .unset, .unset] [(.int (p2 &&& (1 : Int32)))])) (fun _ k => XS.iand X0.here hx rfl (hb hby at_14) rfl k) ?_
  rw [hb']
  refine own_step (W' := s₁.setTop (mkF m 18 #[.val (.int p1), .val (.int p2), .val (.int (0 : Int32)), .unset, .unset, .unset, .unset, .unset, .unset] [])) (fun _ k => XS.ifNo X0.here hx rfl (hb hby at_15) rfl (by decide) k) ?_
  refine own_step (W' := s₁.setTop (mkF m 19 #[.val (.int p1), .val (.int p2), .val (.int (0 : Int32)), .unset, .unset, .unset, .unset, .unset, .unset] [(.int (1 : Int32))])) (fun _ k => XS.iconst X0.here hx rfl (hb hby at_18) k) ?_
  refine own_step (W' := s₁.setTop (mkF m 23 #[.val (.int p1), .val (.int p2), .val (.int (0 : Int32)), .unset, .unset, .unset, .unset, .unset, .unset] [(.int (1 : Int32))])) (fun _ k => XS.goto X0.here hx rfl (pc0 := 19) (pc' := 23) rfl (hb hby at_19) (by decide) (by decide) k) ?_
  refine own_step (W' := s₁.setTop (mkF m 24 #[.val (.int p1), .val (.int p2), .val (.int (0 : Int32)), .val (.int (1 : Int32)), .unset, .unset, .unset, .unset, .unset] [])) (fun _ k => XS.istoreN X0.here hx rfl (hb hby at_23) rfl (l' := #[.val (.int p1), .val (.int p2), .val (.int (0 : Int32)), .val (.int (1 : Int32)), .unset, .unset, .unset, .unset, .unset]) rfl k) ?_
  refine own_step (W' := s₁.setTop (mkF m 25 #[.val (.int p1), .val (.int p2), .val (.int (0 : Int32)), .val (.int (1 : Int32)), .unset, .unset, .unset, .unset, .unset] [(.int (0 : Int32))])) (fun _ k => XS.iloadN X0.here hx rfl (hb hby at_24) rfl k) ?_
  refine own_step (W' := s₁.setTop (mkF m 26 #[.val (.int p1), .val (.int p2), .val (.int (0 : Int32)), .val (.int (1 : Int32)), .unset, .unset, .unset, .unset, .unset] [(.int (1 : Int32)), (.int (0 : Int32))])) (fun _ k => XS.iloadN X0.here hx rfl (hb hby at_25) rfl k) ?_
  obtain ⟨_, _, ⟨T1, L1, k1, n1⟩, -, X1, ⟨Lc1, hQ1, l1, y1, z1⟩, st1⟩ := Jvm.LawKit.callS X0 hx (y := (⟨"com/example/recital/recital/ClauseLabel$Style", "of", "(ZZ)Lcom/example/recital/recital/ClauseLabel$Style;"⟩ : MethodName)) hown (mvT hZ (hw _ (List.mem_of_getElem? (i := 0) rfl))) (mvT hZ (hw _ (List.mem_of_getElem? (i := 1) rfl))) (mvT hZ (hw _ (List.mem_of_getElem? (i := 2) rfl))) (mvT hZ (hw _ (List.mem_of_getElem? (i := 3) rfl))) (by decide) (backOf (W := 0) (rm1_0_1 l Z a0 hw [] w h0 n0 Z0 P) hZ (hw _ (List.mem_of_getElem? (i := 3) rfl)) (hw _ (List.mem_of_getElem? (i := 2) rfl)) (by decide) (by decide)) (g := (mkF m 26 #[.val (.int p1), .val (.int p2), .val (.int (0 : Int32)), .val (.int (1 : Int32)), .unset, .unset, .unset, .unset, .unset] [(.int (1 : Int32)), (.int (0 : Int32))])) rfl (by rw [hml]; rfl) (argsL := [(.int (0 : Int32)), (.int (1 : Int32))]) (rest := []) (lenOf pd_0 rfl) rfl (by show 2 * 0 + _ ≤ _; exact Nat.le_of_eq rfl) (hb hby at_26) (fun _ _ => ⟨rfl, e0, (by decide : 0 + 0 ≤ _), (by decide : 0 + 0 ≤ _)⟩)
  dsimp only [Pt.U, Pt.locs, Pt.cells, Pt.slots] at X1 l1 y1 z1 st1 hQ1
  subst l1 y1 z1
  obtain ⟨rfl, N1q, e1⟩ := hQ1
  have N1 := Fr.app N0 N1q
  refine own_step (W' := T1.setTop (mkF m 29 #[.val (.int p1), .val (.int p2), .val (.int (0 : Int32)), .val (.int (1 : Int32)), .unset, .unset, .unset, .unset, .unset] [(.ref (w 0))])) (fun _ k => st1 _ k) ?_
  refine own_step (W' := T1.setTop (mkF m 31 #[.val (.int p1), .val (.int p2), .val (.int (0 : Int32)), .val (.int (1 : Int32)), .val (.ref (w 0)), .unset, .unset, .unset, .unset] [])) (fun _ k => XS.astore X1.here hx rfl (hb hby at_29) rfl rfl (l' := #[.val (.int p1), .val (.int p2), .val (.int (0 : Int32)), .val (.int (1 : Int32)), .val (.ref (w 0)), .unset, .unset, .unset, .unset]) rfl k) ?_
  refine own_step (W' := T1.setTop (mkF m 33 #[.val (.int p1), .val (.int p2), .val (.int (0 : Int32)), .val (.int (1 : Int32)), .val (.ref (w 0)), .unset, .unset, .unset, .unset] [(.ref (w 0))])) (fun _ k => XS.aload X1.here hx rfl (hb hby at_31) rfl rfl k) ?_
  obtain ⟨T2, X2, e2, st2⟩ := getS2 X1 hx hZ hown (host := "") (Or.inl (hw _ (List.mem_of_getElem? (i := 6) rfl))) Via.refl e1 (pin_S1 P) (g := (mkF m 33 #[.val (.int p1), .val (.int p2), .val (.int (0 : Int32)), .val (.int (1 : Int32)), .val (.ref (w 0)), .unset, .unset, .unset, .unset] [(.ref (w 0))])) rfl (hb hby at_33)
  refine own_step (W' := T2.setTop (mkF m 36 #[.val (.int p1), .val (.int p2), .val (.int (0 : Int32)), .val (.int (1 : Int32)), .val (.ref (w 0)), .unset, .unset, .unset, .unset] [(.ref (w 1)), (.ref (w 0))])) (fun _ k => st2 _ k) ?_
  refine own_step (W' := T2.setTop (mkF m 43 #[.val (.int p1), .val (.int p2), .val (.int (0 : Int32)), .val (.int (1 : Int32)), .val (.ref (w 0)), .unset, .unset, .unset, .unset] [])) (fun _ k => Jvm.RoadKit.acmp (g := (mkF m 36 #[.val (.int p1), .val (.int p2), .val (.int (0 : Int32)), .val (.int (1 : Int32)), .val (.ref (w 0)), .unset, .unset, .unset, .unset] [(.ref (w 1)), (.ref (w 0))])) X2 hx rfl rfl rfl (pc0 := 36) (pc' := 43) (same := false) rfl (hb hby at_36) rfl (decide_eq_false fun q => (Fld.ne (pin_F0_ordinal P) (pin_F1_ordinal P) (by decide)) (Value.ref.inj q)) (by decide) (by decide) k) ?_
  refine own_step (W' := T2.setTop (mkF m 44 #[.val (.int p1), .val (.int p2), .val (.int (0 : Int32)), .val (.int (1 : Int32)), .val (.ref (w 0)), .unset, .unset, .unset, .unset] [(.int (0 : Int32))])) (fun _ k => XS.iconst X2.here hx rfl (hb hby at_43) k) ?_
  refine own_step (W' := T2.setTop (mkF m 45 #[.val (.int p1), .val (.int p2), .val (.int (0 : Int32)), .val (.int (1 : Int32)), .val (.ref (w 0)), .unset, .unset, .unset, .unset] [(.int (0 : Int32)), (.int (0 : Int32))])) (fun _ k => XS.iloadN X2.here hx rfl (hb hby at_44) rfl k) ?_
  refine own_step (W' := T2.setTop (mkF m 48 #[.val (.int p1), .val (.int p2), .val (.int (0 : Int32)), .val (.int (1 : Int32)), .val (.ref (w 0)), .unset, .unset, .unset, .unset] [(.int (0 : Int32))])) (fun _ k => XS.ifNo X2.here hx rfl (hb hby at_45) rfl (by decide) k) ?_
  refine own_step (W' := T2.setTop (mkF m 49 #[.val (.int p1), .val (.int p2), .val (.int (0 : Int32)), .val (.int (1 : Int32)), .val (.ref (w 0)), .unset, .unset, .unset, .unset] [(.int (1 : Int32)), (.int (0 : Int32))])) (fun _ k => XS.iloadN X2.here hx rfl (hb hby at_48) rfl k) ?_
  refine own_step (W' := T2.setTop (mkF m 56 #[.val (.int p1), .val (.int p2), .val (.int (0 : Int32)), .val (.int (1 : Int32)), .val (.ref (w 0)), .unset, .unset, .unset, .unset] [(.int (0 : Int32))])) (fun _ k => XS.ifYes X2.here hx rfl (pc0 := 49) (pc' := 56) rfl (hb hby at_49) rfl (by decide) (by decide) (by decide) k) ?_
  refine own_step (W' := T2.setTop (mkF m 57 #[.val (.int p1), .val (.int p2), .val (.int (0 : Int32)), .val (.int (1 : Int32)), .val (.ref (w 0)), .unset, .unset, .unset, .unset] [(.int (0 : Int32)), (.int (0 : Int32))])) (fun _ k => XS.iconst X2.here hx rfl (hb hby at_56) k) ?_
  refine own_step (W' := T2.setTop (mkF m 60 #[.val (.int p1), .val (.int p2), .val (.int (0 : Int32)), .val (.int (1 : Int32)), .val (.ref (w 0)), .unset, .unset, .unset, .unset] [])) (fun _ k => XS.icmpNo X2.here hx rfl (hb hby at_57) rfl (by decide) k) ?_
  refine own_step (W' := T2.setTop (mkF m 61 #[.val (.int p1), .val (.int p2), .val (.int (0 : Int32)), .val (.int (1 : Int32)), .val (.ref (w 0)), .unset, .unset, .unset, .unset] [(.int (1 : Int32))])) (fun _ k => XS.iconst X2.here hx rfl (hb hby at_60) k) ?_
  refine own_step (W' := T2.setTop (mkF m 65 #[.val (.int p1), .val (.int p2), .val (.int (0 : Int32)), .val (.int (1 : Int32)), .val (.ref (w 0)), .unset, .unset, .unset, .unset] [(.int (1 : Int32))])) (fun _ k => XS.goto X2.here hx rfl (pc0 := 61) (pc' := 65) rfl (hb hby at_61) (by decide) (by decide) k) ?_
  refine own_step (W' := T2.setTop (mkF m 67 #[.val (.int p1), .val (.int p2), .val (.int (0 : Int32)), .val (.int (1 : Int32)), .val (.ref (w 0)), .val (.int (1 : Int32)), .unset, .unset, .unset] [])) (fun _ k => XS.istore X2.here hx rfl (hb hby at_65) rfl (l' := #[.val (.int p1), .val (.int p2), .val (.int (0 : Int32)), .val (.int (1 : Int32)), .val (.ref (w 0)), .val (.int (1 : Int32)), .unset, .unset, .unset]) rfl k) ?_
  refine own_step (W' := T2.setTop (mkF m 69 #[.val (.int p1), .val (.int p2), .val (.int (0 : Int32)), .val (.int (1 : Int32)), .val (.ref (w 0)), .val (.int (1 : Int32)), .unset, .unset, .unset] [(.ref (w 0))])) (fun _ k => XS.aload X2.here hx rfl (hb hby at_67) rfl rfl k) ?_
  obtain ⟨T3, X3, e3, st3⟩ := getS2 X2 hx hZ hown (host := "") (Or.inl (hw _ (List.mem_of_getElem? (i := 8) rfl))) Via.refl e2 (pin_S0 P) (g := (mkF m 69 #[.val (.int p1), .val (.int p2), .val (.int (0 : Int32)), .val (.int (1 : Int32)), .val (.ref (w 0)), .val (.int (1 : Int32)), .unset, .unset, .unset] [(.ref (w 0))])) rfl (hb hby at_69)
  refine own_step (W' := T3.setTop (mkF m 72 #[.val (.int p1), .val (.int p2), .val (.int (0 : Int32)), .val (.int (1 : Int32)), .val (.ref (w 0)), .val (.int (1 : Int32)), .unset, .unset, .unset] [(.ref (w 0)), (.ref (w 0))])) (fun _ k => st3 _ k) ?_
  refine own_step (W' := T3.setTop (mkF m 75 #[.val (.int p1), .val (.int p2), .val (.int (0 : Int32)), .val (.int (1 : Int32)), .val (.ref (w 0)), .val (.int (1 : Int32)), .unset, .unset, .unset] [])) (fun _ k => Jvm.RoadKit.acmp (g := (mkF m 72 #[.val (.int p1), .val (.int p2), .val (.int (0 : Int32)), .val (.int (1 : Int32)), .val (.ref (w 0)), .val (.int (1 : Int32)), .unset, .unset, .unset] [(.ref (w 0)), (.ref (w 0))])) X3 hx rfl rfl rfl (pc0 := 72) (pc' := 75) (same := true) rfl (hb hby at_72) rfl (decide_eq_true rfl) (by decide) (by decide) k) ?_
  refine own_step (W' := T3.setTop (mkF m 76 #[.val (.int p1), .val (.int p2), .val (.int (0 : Int32)), .val (.int (1 : Int32)), .val (.ref (w 0)), .val (.int (1 : Int32)), .unset, .unset, .unset] [(.int (1 : Int32))])) (fun _ k => XS.iconst X3.here hx rfl (hb hby at_75) k) ?_
  refine own_step (W' := T3.setTop (mkF m 80 #[.val (.int p1), .val (.int p2), .val (.int (0 : Int32)), .val (.int (1 : Int32)), .val (.ref (w 0)), .val (.int (1 : Int32)), .unset, .unset, .unset] [(.int (1 : Int32))])) (fun _ k => XS.goto X3.here hx rfl (pc0 := 76) (pc' := 80) rfl (hb hby at_76) (by decide) (by decide) k) ?_
  refine own_step (W' := T3.setTop (mkF m 81 #[.val (.int p1), .val (.int p2), .val (.int (0 : Int32)), .val (.int (1 : Int32)), .val (.ref (w 0)), .val (.int (1 : Int32)), .unset, .unset, .unset] [(.int (0 : Int32)), (.int (1 : Int32))])) (fun _ k => XS.iloadN X3.here hx rfl (hb hby at_80) rfl k) ?_
  refine own_step (W' := T3.setTop (mkF m 84 #[.val (.int p1), .val (.int p2), .val (.int (0 : Int32)), .val (.int (1 : Int32)), .val (.ref (w 0)), .val (.int (1 : Int32)), .unset, .unset, .unset] [(.int (1 : Int32))])) (fun _ k => XS.ifNo X3.here hx rfl (hb hby at_81) rfl (by decide) k) ?_
  refine own_step (W' := T3.setTop (mkF m 85 #[.val (.int p1), .val (.int p2), .val (.int (0 : Int32)), .val (.int (1 : Int32)), .val (.ref (w 0)), .val (.int (1 : Int32)), .unset, .unset, .unset] [(.int (1 : Int32)), (.int (1 : Int32))])) (fun _ k => XS.iloadN X3.here hx rfl (hb hby at_84) rfl k) ?_
  refine own_step (W' := T3.setTop (mkF m 88 #[.val (.int p1), .val (.int p2), .val (.int (0 : Int32)), .val (.int (1 : Int32)), .val (.ref (w 0)), .val (.int (1 : Int32)), .unset, .unset, .unset] [(.int (1 : Int32))])) (fun _ k => XS.ifNo X3.here hx rfl (hb hby at_85) rfl (by decide) k) ?_
  refine own_step (W' := T3.setTop (mkF m 89 #[.val (.int p1), .val (.int p2), .val (.int (0 : Int32)), .val (.int (1 : Int32)), .val (.ref (w 0)), .val (.int (1 : Int32)), .unset, .unset, .unset] [(.int (1 : Int32)), (.int (1 : Int32))])) (fun _ k => XS.iconst X3.here hx rfl (hb hby at_88) k) ?_
  refine own_step (W' := T3.setTop (mkF m 93 #[.val (.int p1), .val (.int p2), .val (.int (0 : Int32)), .val (.int (1 : Int32)), .val (.ref (w 0)), .val (.int (1 : Int32)), .unset, .unset, .unset] [(.int (1 : Int32)), (.int (1 : Int32))])) (fun _ k => XS.goto X3.here hx rfl (pc0 := 89) (pc' := 93) rfl (hb hby at_89) (by decide) (by decide) k) ?_
  refine own_step (W' := T3.setTop (mkF m 96 #[.val (.int p1), .val (.int p2), .val (.int (0 : Int32)), .val (.int (1 : Int32)), .val (.ref (w 0)), .val (.int (1 : Int32)), .unset, .unset, .unset] [])) (fun _ k => XS.icmpNo X3.here hx rfl (hb hby at_93) rfl (by decide) k) ?_
  refine own_step (W' := T3.setTop (mkF m 97 #[.val (.int p1), .val (.int p2), .val (.int (0 : Int32)), .val (.int (1 : Int32)), .val (.ref (w 0)), .val (.int (1 : Int32)), .unset, .unset, .unset] [(.int (1 : Int32))])) (fun _ k => XS.iconst X3.here hx rfl (hb hby at_96) k) ?_
  refine own_step (W' := T3.setTop (mkF m 101 #[.val (.int p1), .val (.int p2), .val (.int (0 : Int32)), .val (.int (1 : Int32)), .val (.ref (w 0)), .val (.int (1 : Int32)), .unset, .unset, .unset] [(.int (1 : Int32))])) (fun _ k => XS.goto X3.here hx rfl (pc0 := 97) (pc' := 101) rfl (hb hby at_97) (by decide) (by decide) k) ?_
  refine own_step (W' := T3.setTop (mkF m 103 #[.val (.int p1), .val (.int p2), .val (.int (0 : Int32)), .val (.int (1 : Int32)), .val (.ref (w 0)), .val (.int (1 : Int32)), .val (.int (1 : Int32)), .unset, .unset] [])) (fun _ k => XS.istore X3.here hx rfl (hb hby at_101) rfl (l' := #[.val (.int p1), .val (.int p2), .val (.int (0 : Int32)), .val (.int (1 : Int32)), .val (.ref (w 0)), .val (.int (1 : Int32)), .val (.int (1 : Int32)), .unset, .unset]) rfl k) ?_
  refine own_step (W' := T3.setTop (mkF m 105 #[.val (.int p1), .val (.int p2), .val (.int (0 : Int32)), .val (.int (1 : Int32)), .val (.ref (w 0)), .val (.int (1 : Int32)), .val (.int (1 : Int32)), .unset, .unset] [(.ref (w 0))])) (fun _ k => XS.aload X3.here hx rfl (hb hby at_103) rfl rfl k) ?_
  obtain ⟨T4, X4, e4, st4⟩ := getS2 X3 hx hZ hown (host := "") (Or.inl (hw _ (List.mem_of_getElem? (i := 9) rfl))) Via.refl e3 (pin_S2 P) (g := (mkF m 105 #[.val (.int p1), .val (.int p2), .val (.int (0 : Int32)), .val (.int (1 : Int32)), .val (.ref (w 0)), .val (.int (1 : Int32)), .val (.int (1 : Int32)), .unset, .unset] [(.ref (w 0))])) rfl (hb hby at_105)
  refine own_step (W' := T4.setTop (mkF m 108 #[.val (.int p1), .val (.int p2), .val (.int (0 : Int32)), .val (.int (1 : Int32)), .val (.ref (w 0)), .val (.int (1 : Int32)), .val (.int (1 : Int32)), .unset, .unset] [(.ref (w 2)), (.ref (w 0))])) (fun _ k => st4 _ k) ?_
  refine own_step (W' := T4.setTop (mkF m 115 #[.val (.int p1), .val (.int p2), .val (.int (0 : Int32)), .val (.int (1 : Int32)), .val (.ref (w 0)), .val (.int (1 : Int32)), .val (.int (1 : Int32)), .unset, .unset] [])) (fun _ k => Jvm.RoadKit.acmp (g := (mkF m 108 #[.val (.int p1), .val (.int p2), .val (.int (0 : Int32)), .val (.int (1 : Int32)), .val (.ref (w 0)), .val (.int (1 : Int32)), .val (.int (1 : Int32)), .unset, .unset] [(.ref (w 2)), (.ref (w 0))])) X4 hx rfl rfl rfl (pc0 := 108) (pc' := 115) (same := false) rfl (hb hby at_108) rfl (decide_eq_false fun q => (Fld.ne (pin_F0_ordinal P) (pin_F2_ordinal P) (by decide)) (Value.ref.inj q)) (by decide) (by decide) k) ?_
  refine own_step (W' := T4.setTop (mkF m 116 #[.val (.int p1), .val (.int p2), .val (.int (0 : Int32)), .val (.int (1 : Int32)), .val (.ref (w 0)), .val (.int (1 : Int32)), .val (.int (1 : Int32)), .unset, .unset] [(.int (0 : Int32))])) (fun _ k => XS.iconst X4.here hx rfl (hb hby at_115) k) ?_
  refine own_step (W' := T4.setTop (mkF m 117 #[.val (.int p1), .val (.int p2), .val (.int (0 : Int32)), .val (.int (1 : Int32)), .val (.ref (w 0)), .val (.int (1 : Int32)), .val (.int (1 : Int32)), .unset, .unset] [(.int (0 : Int32)), (.int (0 : Int32))])) (fun _ k => XS.iloadN X4.here hx rfl (hb hby at_116) rfl k) ?_
  refine own_step (W' := T4.setTop (mkF m 128 #[.val (.int p1), .val (.int p2), .val (.int (0 : Int32)), .val (.int (1 : Int32)), .val (.ref (w 0)), .val (.int (1 : Int32)), .val (.int (1 : Int32)), .unset, .unset] [(.int (0 : Int32))])) (fun _ k => XS.ifYes X4.here hx rfl (pc0 := 117) (pc' := 128) rfl (hb hby at_117) rfl (by decide) (by decide) (by decide) k) ?_
  refine own_step (W' := T4.setTop (mkF m 129 #[.val (.int p1), .val (.int p2), .val (.int (0 : Int32)), .val (.int (1 : Int32)), .val (.ref (w 0)), .val (.int (1 : Int32)), .val (.int (1 : Int32)), .unset, .unset] [(.int (0 : Int32)), (.int (0 : Int32))])) (fun _ k => XS.iconst X4.here hx rfl (hb hby at_128) k) ?_
  refine own_step (W' := T4.setTop (mkF m 132 #[.val (.int p1), .val (.int p2), .val (.int (0 : Int32)), .val (.int (1 : Int32)), .val (.ref (w 0)), .val (.int (1 : Int32)), .val (.int (1 : Int32)), .unset, .unset] [])) (fun _ k => XS.icmpNo X4.here hx rfl (hb hby at_129) rfl (by decide) k) ?_
  refine own_step (W' := T4.setTop (mkF m 133 #[.val (.int p1), .val (.int p2), .val (.int (0 : Int32)), .val (.int (1 : Int32)), .val (.ref (w 0)), .val (.int (1 : Int32)), .val (.int (1 : Int32)), .unset, .unset] [(.int (1 : Int32))])) (fun _ k => XS.iconst X4.here hx rfl (hb hby at_132) k) ?_
  refine own_step (W' := T4.setTop (mkF m 137 #[.val (.int p1), .val (.int p2), .val (.int (0 : Int32)), .val (.int (1 : Int32)), .val (.ref (w 0)), .val (.int (1 : Int32)), .val (.int (1 : Int32)), .unset, .unset] [(.int (1 : Int32))])) (fun _ k => XS.goto X4.here hx rfl (pc0 := 133) (pc' := 137) rfl (hb hby at_133) (by decide) (by decide) k) ?_
  refine own_step (W' := T4.setTop (mkF m 139 #[.val (.int p1), .val (.int p2), .val (.int (0 : Int32)), .val (.int (1 : Int32)), .val (.ref (w 0)), .val (.int (1 : Int32)), .val (.int (1 : Int32)), .val (.int (1 : Int32)), .unset] [])) (fun _ k => XS.istore X4.here hx rfl (hb hby at_137) rfl (l' := #[.val (.int p1), .val (.int p2), .val (.int (0 : Int32)), .val (.int (1 : Int32)), .val (.ref (w 0)), .val (.int (1 : Int32)), .val (.int (1 : Int32)), .val (.int (1 : Int32)), .unset]) rfl k) ?_
  refine own_step (W' := T4.setTop (mkF m 141 #[.val (.int p1), .val (.int p2), .val (.int (0 : Int32)), .val (.int (1 : Int32)), .val (.ref (w 0)), .val (.int (1 : Int32)), .val (.int (1 : Int32)), .val (.int (1 : Int32)), .unset] [(.ref (w 0))])) (fun _ k => XS.aload X4.here hx rfl (hb hby at_139) rfl rfl k) ?_
  obtain ⟨T5, X5, e5, st5⟩ := getS2 X4 hx hZ hown (host := "") (Or.inl (hw _ (List.mem_of_getElem? (i := 11) rfl))) Via.refl e4 (pin_S3 P) (g := (mkF m 141 #[.val (.int p1), .val (.int p2), .val (.int (0 : Int32)), .val (.int (1 : Int32)), .val (.ref (w 0)), .val (.int (1 : Int32)), .val (.int (1 : Int32)), .val (.int (1 : Int32)), .unset] [(.ref (w 0))])) rfl (hb hby at_141)
  refine own_step (W' := T5.setTop (mkF m 144 #[.val (.int p1), .val (.int p2), .val (.int (0 : Int32)), .val (.int (1 : Int32)), .val (.ref (w 0)), .val (.int (1 : Int32)), .val (.int (1 : Int32)), .val (.int (1 : Int32)), .unset] [(.ref (w 3)), (.ref (w 0))])) (fun _ k => st5 _ k) ?_
  refine own_step (W' := T5.setTop (mkF m 151 #[.val (.int p1), .val (.int p2), .val (.int (0 : Int32)), .val (.int (1 : Int32)), .val (.ref (w 0)), .val (.int (1 : Int32)), .val (.int (1 : Int32)), .val (.int (1 : Int32)), .unset] [])) (fun _ k => Jvm.RoadKit.acmp (g := (mkF m 144 #[.val (.int p1), .val (.int p2), .val (.int (0 : Int32)), .val (.int (1 : Int32)), .val (.ref (w 0)), .val (.int (1 : Int32)), .val (.int (1 : Int32)), .val (.int (1 : Int32)), .unset] [(.ref (w 3)), (.ref (w 0))])) X5 hx rfl rfl rfl (pc0 := 144) (pc' := 151) (same := false) rfl (hb hby at_144) rfl (decide_eq_false fun q => (Fld.ne (pin_F0_ordinal P) (pin_F3_ordinal P) (by decide)) (Value.ref.inj q)) (by decide) (by decide) k) ?_
  refine own_step (W' := T5.setTop (mkF m 152 #[.val (.int p1), .val (.int p2), .val (.int (0 : Int32)), .val (.int (1 : Int32)), .val (.ref (w 0)), .val (.int (1 : Int32)), .val (.int (1 : Int32)), .val (.int (1 : Int32)), .unset] [(.int (0 : Int32))])) (fun _ k => XS.iconst X5.here hx rfl (hb hby at_151) k) ?_
  refine own_step (W' := T5.setTop (mkF m 153 #[.val (.int p1), .val (.int p2), .val (.int (0 : Int32)), .val (.int (1 : Int32)), .val (.ref (w 0)), .val (.int (1 : Int32)), .val (.int (1 : Int32)), .val (.int (1 : Int32)), .unset] [(.int (0 : Int32)), (.int (0 : Int32))])) (fun _ k => XS.iloadN X5.here hx rfl (hb hby at_152) rfl k) ?_
  refine own_step (W' := T5.setTop (mkF m 164 #[.val (.int p1), .val (.int p2), .val (.int (0 : Int32)), .val (.int (1 : Int32)), .val (.ref (w 0)), .val (.int (1 : Int32)), .val (.int (1 : Int32)), .val (.int (1 : Int32)), .unset] [(.int (0 : Int32))])) (fun _ k => XS.ifYes X5.here hx rfl (pc0 := 153) (pc' := 164) rfl (hb hby at_153) rfl (by decide) (by decide) (by decide) k) ?_
  refine own_step (W' := T5.setTop (mkF m 165 #[.val (.int p1), .val (.int p2), .val (.int (0 : Int32)), .val (.int (1 : Int32)), .val (.ref (w 0)), .val (.int (1 : Int32)), .val (.int (1 : Int32)), .val (.int (1 : Int32)), .unset] [(.int (0 : Int32)), (.int (0 : Int32))])) (fun _ k => XS.iconst X5.here hx rfl (hb hby at_164) k) ?_
  refine own_step (W' := T5.setTop (mkF m 168 #[.val (.int p1), .val (.int p2), .val (.int (0 : Int32)), .val (.int (1 : Int32)), .val (.ref (w 0)), .val (.int (1 : Int32)), .val (.int (1 : Int32)), .val (.int (1 : Int32)), .unset] [])) (fun _ k => XS.icmpNo X5.here hx rfl (hb hby at_165) rfl (by decide) k) ?_
  refine own_step (W' := T5.setTop (mkF m 169 #[.val (.int p1), .val (.int p2), .val (.int (0 : Int32)), .val (.int (1 : Int32)), .val (.ref (w 0)), .val (.int (1 : Int32)), .val (.int (1 : Int32)), .val (.int (1 : Int32)), .unset] [(.int (1 : Int32))])) (fun _ k => XS.iconst X5.here hx rfl (hb hby at_168) k) ?_
  refine own_step (W' := T5.setTop (mkF m 173 #[.val (.int p1), .val (.int p2), .val (.int (0 : Int32)), .val (.int (1 : Int32)), .val (.ref (w 0)), .val (.int (1 : Int32)), .val (.int (1 : Int32)), .val (.int (1 : Int32)), .unset] [(.int (1 : Int32))])) (fun _ k => XS.goto X5.here hx rfl (pc0 := 169) (pc' := 173) rfl (hb hby at_169) (by decide) (by decide) k) ?_
  refine own_step (W' := T5.setTop (mkF m 175 #[.val (.int p1), .val (.int p2), .val (.int (0 : Int32)), .val (.int (1 : Int32)), .val (.ref (w 0)), .val (.int (1 : Int32)), .val (.int (1 : Int32)), .val (.int (1 : Int32)), .val (.int (1 : Int32))] [])) (fun _ k => XS.istore X5.here hx rfl (hb hby at_173) rfl (l' := #[.val (.int p1), .val (.int p2), .val (.int (0 : Int32)), .val (.int (1 : Int32)), .val (.ref (w 0)), .val (.int (1 : Int32)), .val (.int (1 : Int32)), .val (.int (1 : Int32)), .val (.int (1 : Int32))]) rfl k) ?_
  refine own_step (W' := T5.setTop (mkF m 177 #[.val (.int p1), .val (.int p2), .val (.int (0 : Int32)), .val (.int (1 : Int32)), .val (.ref (w 0)), .val (.int (1 : Int32)), .val (.int (1 : Int32)), .val (.int (1 : Int32)), .val (.int (1 : Int32))] [(.int (1 : Int32))])) (fun _ k => XS.iload X5.here hx rfl (hb hby at_175) rfl k) ?_
  refine own_step (W' := T5.setTop (mkF m 180 #[.val (.int p1), .val (.int p2), .val (.int (0 : Int32)), .val (.int (1 : Int32)), .val (.ref (w 0)), .val (.int (1 : Int32)), .val (.int (1 : Int32)), .val (.int (1 : Int32)), .val (.int (1 : Int32))] [])) (fun _ k => XS.ifNo X5.here hx rfl (hb hby at_177) rfl (by decide) k) ?_
  refine own_step (W' := T5.setTop (mkF m 182 #[.val (.int p1), .val (.int p2), .val (.int (0 : Int32)), .val (.int (1 : Int32)), .val (.ref (w 0)), .val (.int (1 : Int32)), .val (.int (1 : Int32)), .val (.int (1 : Int32)), .val (.int (1 : Int32))] [(.int (1 : Int32))])) (fun _ k => XS.iload X5.here hx rfl (hb hby at_180) rfl k) ?_
  refine own_step (W' := T5.setTop (mkF m 185 #[.val (.int p1), .val (.int p2), .val (.int (0 : Int32)), .val (.int (1 : Int32)), .val (.ref (w 0)), .val (.int (1 : Int32)), .val (.int (1 : Int32)), .val (.int (1 : Int32)), .val (.int (1 : Int32))] [])) (fun _ k => XS.ifNo X5.here hx rfl (hb hby at_182) rfl (by decide) k) ?_
  refine own_step (W' := T5.setTop (mkF m 187 #[.val (.int p1), .val (.int p2), .val (.int (0 : Int32)), .val (.int (1 : Int32)), .val (.ref (w 0)), .val (.int (1 : Int32)), .val (.int (1 : Int32)), .val (.int (1 : Int32)), .val (.int (1 : Int32))] [(.int (1 : Int32))])) (fun _ k => XS.iload X5.here hx rfl (hb hby at_185) rfl k) ?_
  refine own_step (W' := T5.setTop (mkF m 190 #[.val (.int p1), .val (.int p2), .val (.int (0 : Int32)), .val (.int (1 : Int32)), .val (.ref (w 0)), .val (.int (1 : Int32)), .val (.int (1 : Int32)), .val (.int (1 : Int32)), .val (.int (1 : Int32))] [])) (fun _ k => XS.ifNo X5.here hx rfl (hb hby at_187) rfl (by decide) k) ?_
  refine own_step (W' := T5.setTop (mkF m 192 #[.val (.int p1), .val (.int p2), .val (.int (0 : Int32)), .val (.int (1 : Int32)), .val (.ref (w 0)), .val (.int (1 : Int32)), .val (.int (1 : Int32)), .val (.int (1 : Int32)), .val (.int (1 : Int32))] [(.int (1 : Int32))])) (fun _ k => XS.iload X5.here hx rfl (hb hby at_190) rfl k) ?_
  refine own_step (W' := T5.setTop (mkF m 195 #[.val (.int p1), .val (.int p2), .val (.int (0 : Int32)), .val (.int (1 : Int32)), .val (.ref (w 0)), .val (.int (1 : Int32)), .val (.int (1 : Int32)), .val (.int (1 : Int32)), .val (.int (1 : Int32))] [])) (fun _ k => XS.ifNo X5.here hx rfl (hb hby at_192) rfl (by decide) k) ?_
  refine own_step (W' := T5.setTop (mkF m 196 #[.val (.int p1), .val (.int p2), .val (.int (0 : Int32)), .val (.int (1 : Int32)), .val (.ref (w 0)), .val (.int (1 : Int32)), .val (.int (1 : Int32)), .val (.int (1 : Int32)), .val (.int (1 : Int32))] [(.int (1 : Int32))])) (fun _ k => XS.iconst X5.here hx rfl (hb hby at_195) k) ?_
  refine own_step (W' := T5.setTop (mkF m 200 #[.val (.int p1), .val (.int p2), .val (.int (0 : Int32)), .val (.int (1 : Int32)), .val (.ref (w 0)), .val (.int (1 : Int32)), .val (.int (1 : Int32)), .val (.int (1 : Int32)), .val (.int (1 : Int32))] [(.int (1 : Int32))])) (fun _ k => XS.goto X5.here hx rfl (pc0 := 196) (pc' := 200) rfl (hb hby at_196) (by decide) (by decide) k) ?_
  exact own_ret X5 Bd.notSynchronized Bd.returns (v := (.int (1 : Int32))) (fun fs hr => retN X5 hx (t := .boolean) Bd.returns (by simp) (hb hby at_200) hr) ⟨rfl, N1⟩ (by decide) (by decide)
set_option maxRecDepth 65536 in
set_option maxHeartbeats 40000000 in
theorem rm1_1_0 (l : Launch) (Z : State) (a0 : Array Value) (hw : ∀ d ∈ tables_1, d.before a0 Z = true) (ws : List Jvm.Cond) (w : Nat → Addr) (h0 : Heap) (n0 : Nat) (Z0 : n0 ≤ h0.size) (P : Pins Z h0 w) :
    MetFree l (⟨"com/example/recital/recital/ClauseLabel$Style", "of", "(ZZ)Lcom/example/recital/recital/ClauseLabel$Style;"⟩ : MethodName) (head1 (Jvm.Cond.code (⟨"com/example/recital/recital/ClauseLabel$Style", "of", "(ZZ)Lcom/example/recital/recital/ClauseLabel$Style;"⟩ : MethodName) prog_20_method_4_code 2 (some (.object "com/example/recital/recital/ClauseLabel$Style")) :: ws) ({ frames := 0, cells := 0, slots := 0, locals := 0 } : Room)) (fun a U => a = #[(.int (1 : Int32)), (.int (0 : Int32))] ∧ Z.Warmed39 U.vm ∧ U.heap = h0) (fun _ _ _ _ _ => True) (fun _ U o U' => ∃ v L, o = .returned v ∧ own_QK (some (.ref (w 2))) h0 n0 v U'.heap L ∧ FrameEnd U o U' L ({ frames := 0, cells := 0, slots := 0, locals := 0 } : Room).cells ({ frames := 0, cells := 0, slots := 0, locals := 0 } : Room).slots) := by
  refine MetFree.of_bodySF (plainFor_of_name pn_com_example_recital_recital_ClauseLabel_Style) hisR ?_
  intro p e s m args below meth c s₁ Bd hml0 hP hK
  obtain ⟨rfl, hZ, hh⟩ := hP
  have hx := Bd.exec
  have hby := Bd.bytes
  have hml : c.maxLocals = 2 := hml0
  have hown : s.vm.findClass "com/example/recital/recital/ClauseLabel$Style" = some m.cls := findClass_of_methodNamed Bd.named
  have hnm := (name_of_methodNamed Bd.named Bd.method).1
  have X0 : Stand p l e ({ frames := 0, cells := 0, slots := 0, locals := 0 } : Room) s m #[(.int (1 : Int32)), (.int (0 : Int32))] below meth c s₁ [] 0 0 := Stand.of_body Bd
  have e0 : s₁.heap = h0 := by rw [← hh, Bd.state]; rfl
  have N0 := Fr.nil n0
  refine own_enter (ef_1_II m (1 : Int32) (0 : Int32)) ?_
  refine own_step (W' := s₁.setTop (mkF m 1 #[.val (.int (1 : Int32)), .val (.int (0 : Int32))] [(.int (1 : Int32))])) (fun _ k => XS.iloadN X0.here hx rfl (hb hby d1_0) rfl k) ?_
  refine own_step (W' := s₁.setTop (mkF m 4 #[.val (.int (1 : Int32)), .val (.int (0 : Int32))] [])) (fun _ k => XS.ifNo X0.here hx rfl (hb hby d1_1) rfl (by decide) k) ?_
  refine own_step (W' := s₁.setTop (mkF m 5 #[.val (.int (1 : Int32)), .val (.int (0 : Int32))] [(.int (0 : Int32))])) (fun _ k => XS.iloadN X0.here hx rfl (hb hby d1_4) rfl k) ?_
  refine own_step (W' := s₁.setTop (mkF m 14 #[.val (.int (1 : Int32)), .val (.int (0 : Int32))] [])) (fun _ k => XS.ifYes X0.here hx rfl (pc0 := 5) (pc' := 14) rfl (hb hby d1_5) rfl (by decide) (by decide) (by decide) k) ?_
  obtain ⟨T1, X1, e1, st1⟩ := getS2 X0 hx hZ hown (host := "") (Or.inl (hw _ (List.mem_of_getElem? (i := 15) rfl))) Via.refl e0 (pin_S2 P) (g := (mkF m 14 #[.val (.int (1 : Int32)), .val (.int (0 : Int32))] [])) rfl (hb hby d1_14)
  refine own_step (W' := T1.setTop (mkF m 17 #[.val (.int (1 : Int32)), .val (.int (0 : Int32))] [(.ref (w 2))])) (fun _ k => st1 _ k) ?_
  refine own_step (W' := T1.setTop (mkF m 33 #[.val (.int (1 : Int32)), .val (.int (0 : Int32))] [(.ref (w 2))])) (fun _ k => XS.goto X1.here hx rfl (pc0 := 17) (pc' := 33) rfl (hb hby d1_17) (by decide) (by decide) k) ?_
  exact own_ret X1 Bd.notSynchronized Bd.returns (v := (.ref (w 2))) (fun fs hr => retOut X1 hx Bd.returns rfl (Or.inr (Or.inr (Or.inr (Or.inr ⟨rfl, rfl, rfl⟩)))) (hb hby d1_33) hr) ⟨rfl, N0, e1⟩ (by decide) (by decide)
set_option maxRecDepth 65536 in
set_option maxHeartbeats 40000000 in
theorem rm0_10 (l : Launch) (Z : State) (a0 : Array Value) (hw : ∀ d ∈ tables_1, d.before a0 Z = true) (ws : List Jvm.Cond) (p1 p2 : Int32) (ha : (p1 &&& (1 : Int32)) = (1 : Int32)) (hb' : (p2 &&& (1 : Int32)) = (0 : Int32)) (w : Nat → Addr) (h0 : Heap) (n0 : Nat) (Z0 : n0 ≤ h0.size) (P : Pins Z h0 w) :
    MetFree l x (head1 (Jvm.Cond.code x code maxLocals ret :: ws) room_1) (fun a U => a = #[(.int p1), (.int p2)] ∧ Z.Warmed39 U.vm ∧ U.heap = h0) (fun _ _ _ _ _ => True) (fun _ U o U' => ∃ v L, o = .returned v ∧ own_Q0 n0 v U'.heap L ∧ FrameEnd U o U' L room_1.cells room_1.slots) := by
  refine MetFree.of_bodySF (plainFor_of_name pn_com_example_recital_recital_StyleOfPinLaw) hisR ?_
  intro p e s m args below meth c s₁ Bd hml0 hP hK
  obtain ⟨rfl, hZ, hh⟩ := hP
  have hx := Bd.exec
  have hby := Bd.bytes
  have hml : c.maxLocals = 9 := hml0
  have hown : s.vm.findClass "com/example/recital/recital/StyleOfPinLaw" = some m.cls := findClass_of_methodNamed Bd.named
  have hnm := (name_of_methodNamed Bd.named Bd.method).1
  have X0 : Stand p l e room_1 s m #[(.int p1), (.int p2)] below meth c s₁ [] 0 0 := Stand.of_body Bd
  have e0 : s₁.heap = h0 := by rw [← hh, Bd.state]; rfl
  have N0 := Fr.nil n0
  refine own_enter (ef_0_II m p1 p2) ?_
  refine own_step (W' := s₁.setTop (mkF m 1 #[.val (.int p1), .val (.int p2), .unset, .unset, .unset, .unset, .unset, .unset, .unset] [(.int p1)])) (fun _ k => XS.iloadN X0.here hx rfl (hb hby at_0) rfl k) ?_
  refine own_step (W' := s₁.setTop (mkF m 2 #[.val (.int p1), .val (.int p2), .unset, .unset, .unset, .unset, .unset, .unset, .unset] [(.int (1 : Int32)), (.int p1)])) (fun _ k => XS.iconst X0.here hx rfl (hb hby at_1) k) ?_
  refine own_step (W' := s₁.setTop (mkF m 3 #[.val (.int p1), .val (.int p2), .unset, .unset, .unset, .unset, .unset, .unset, .unset] [(.int (p1 &&& (1 : Int32)))])) (fun _ k => XS.iand X0.here hx rfl (hb hby at_2) rfl k) ?_
  rw [ha]
  refine own_step (W' := s₁.setTop (mkF m 6 #[.val (.int p1), .val (.int p2), .unset, .unset, .unset, .unset, .unset, .unset, .unset] [])) (fun _ k => XS.ifNo X0.here hx rfl (hb hby at_3) rfl (by decide) k) ?_
  refine own_step (W' := s₁.setTop (mkF m 7 #[.val (.int p1), .val (.int p2), .unset, .unset, .unset, .unset, .unset, .unset, .unset] [(.int (1 : Int32))])) (fun _ k => XS.iconst X0.here hx rfl (hb hby at_6) k) ?_
  refine own_step (W' := s₁.setTop (mkF m 11 #[.val (.int p1), .val (.int p2), .unset, .unset, .unset, .unset, .unset, .unset, .unset] [(.int (1 : Int32))])) (fun _ k => XS.goto X0.here hx rfl (pc0 := 7) (pc' := 11) rfl (hb hby at_7) (by decide) (by decide) k) ?_
  refine own_step (W' := s₁.setTop (mkF m 12 #[.val (.int p1), .val (.int p2), .val (.int (1 : Int32)), .unset, .unset, .unset, .unset, .unset, .unset] [])) (fun _ k => XS.istoreN X0.here hx rfl (hb hby at_11) rfl (l' := #[.val (.int p1), .val (.int p2), .val (.int (1 : Int32)), .unset, .unset, .unset, .unset, .unset, .unset]) rfl k) ?_
  refine own_step (W' := s₁.setTop (mkF m 13 #[.val (.int p1), .val (.int p2), .val (.int (1 : Int32)), .unset, .unset, .unset, .unset, .unset, .unset] [(.int p2)])) (fun _ k => XS.iloadN X0.here hx rfl (hb hby at_12) rfl k) ?_
  refine own_step (W' := s₁.setTop (mkF m 14 #[.val (.int p1), .val (.int p2), .val (.int (1 : Int32)), .unset, .unset, .unset, .unset, .unset, .unset] [(.int (1 : Int32)), (.int p2)])) (fun _ k => XS.iconst X0.here hx rfl (hb hby at_13) k) ?_
  refine own_step (W' := s₁.setTop (mkF m 15 #[.val (.int p1), .val (.int p2), .val (.int (1 : Int32)), .unset, .unset, .unset, .unset, .unset, .unset] [(.int (p2 &&& (1 : Int32)))])) (fun _ k => XS.iand X0.here hx rfl (hb hby at_14) rfl k) ?_
  rw [hb']
  refine own_step (W' := s₁.setTop (mkF m 22 #[.val (.int p1), .val (.int p2), .val (.int (1 : Int32)), .unset, .unset, .unset, .unset, .unset, .unset] [])) (fun _ k => XS.ifYes X0.here hx rfl (pc0 := 15) (pc' := 22) rfl (hb hby at_15) rfl (by decide) (by decide) (by decide) k) ?_
  refine own_step (W' := s₁.setTop (mkF m 23 #[.val (.int p1), .val (.int p2), .val (.int (1 : Int32)), .unset, .unset, .unset, .unset, .unset, .unset] [(.int (0 : Int32))])) (fun _ k => XS.iconst X0.here hx rfl (hb hby at_22) k) ?_
  refine own_step (W' := s₁.setTop (mkF m 24 #[.val (.int p1), .val (.int p2), .val (.int (1 : Int32)), .val (.int (0 : Int32)), .unset, .unset, .unset, .unset, .unset] [])) (fun _ k => XS.istoreN X0.here hx rfl (hb hby at_23) rfl (l' := #[.val (.int p1), .val (.int p2), .val (.int (1 : Int32)), .val (.int (0 : Int32)), .unset, .unset, .unset, .unset, .unset]) rfl k) ?_
  refine own_step (W' := s₁.setTop (mkF m 25 #[.val (.int p1), .val (.int p2), .val (.int (1 : Int32)), .val (.int (0 : Int32)), .unset, .unset, .unset, .unset, .unset] [(.int (1 : Int32))])) (fun _ k => XS.iloadN X0.here hx rfl (hb hby at_24) rfl k) ?_
  refine own_step (W' := s₁.setTop (mkF m 26 #[.val (.int p1), .val (.int p2), .val (.int (1 : Int32)), .val (.int (0 : Int32)), .unset, .unset, .unset, .unset, .unset] [(.int (0 : Int32)), (.int (1 : Int32))])) (fun _ k => XS.iloadN X0.here hx rfl (hb hby at_25) rfl k) ?_
  obtain ⟨_, _, ⟨T1, L1, k1, n1⟩, -, X1, ⟨Lc1, hQ1, l1, y1, z1⟩, st1⟩ := Jvm.LawKit.callS X0 hx (y := (⟨"com/example/recital/recital/ClauseLabel$Style", "of", "(ZZ)Lcom/example/recital/recital/ClauseLabel$Style;"⟩ : MethodName)) hown (mvT hZ (hw _ (List.mem_of_getElem? (i := 0) rfl))) (mvT hZ (hw _ (List.mem_of_getElem? (i := 1) rfl))) (mvT hZ (hw _ (List.mem_of_getElem? (i := 2) rfl))) (mvT hZ (hw _ (List.mem_of_getElem? (i := 3) rfl))) (by decide) (backOf (W := 0) (rm1_1_0 l Z a0 hw [] w h0 n0 Z0 P) hZ (hw _ (List.mem_of_getElem? (i := 3) rfl)) (hw _ (List.mem_of_getElem? (i := 2) rfl)) (by decide) (by decide)) (g := (mkF m 26 #[.val (.int p1), .val (.int p2), .val (.int (1 : Int32)), .val (.int (0 : Int32)), .unset, .unset, .unset, .unset, .unset] [(.int (0 : Int32)), (.int (1 : Int32))])) rfl (by rw [hml]; rfl) (argsL := [(.int (1 : Int32)), (.int (0 : Int32))]) (rest := []) (lenOf pd_0 rfl) rfl (by show 2 * 0 + _ ≤ _; exact Nat.le_of_eq rfl) (hb hby at_26) (fun _ _ => ⟨rfl, e0, (by decide : 0 + 0 ≤ _), (by decide : 0 + 0 ≤ _)⟩)
  dsimp only [Pt.U, Pt.locs, Pt.cells, Pt.slots] at X1 l1 y1 z1 st1 hQ1
  subst l1 y1 z1
  obtain ⟨rfl, N1q, e1⟩ := hQ1
  have N1 := Fr.app N0 N1q
  refine own_step (W' := T1.setTop (mkF m 29 #[.val (.int p1), .val (.int p2), .val (.int (1 : Int32)), .val (.int (0 : Int32)), .unset, .unset, .unset, .unset, .unset] [(.ref (w 2))])) (fun _ k => st1 _ k) ?_
  refine own_step (W' := T1.setTop (mkF m 31 #[.val (.int p1), .val (.int p2), .val (.int (1 : Int32)), .val (.int (0 : Int32)), .val (.ref (w 2)), .unset, .unset, .unset, .unset] [])) (fun _ k => XS.astore X1.here hx rfl (hb hby at_29) rfl rfl (l' := #[.val (.int p1), .val (.int p2), .val (.int (1 : Int32)), .val (.int (0 : Int32)), .val (.ref (w 2)), .unset, .unset, .unset, .unset]) rfl k) ?_
  refine own_step (W' := T1.setTop (mkF m 33 #[.val (.int p1), .val (.int p2), .val (.int (1 : Int32)), .val (.int (0 : Int32)), .val (.ref (w 2)), .unset, .unset, .unset, .unset] [(.ref (w 2))])) (fun _ k => XS.aload X1.here hx rfl (hb hby at_31) rfl rfl k) ?_
  obtain ⟨T2, X2, e2, st2⟩ := getS2 X1 hx hZ hown (host := "") (Or.inl (hw _ (List.mem_of_getElem? (i := 6) rfl))) Via.refl e1 (pin_S1 P) (g := (mkF m 33 #[.val (.int p1), .val (.int p2), .val (.int (1 : Int32)), .val (.int (0 : Int32)), .val (.ref (w 2)), .unset, .unset, .unset, .unset] [(.ref (w 2))])) rfl (hb hby at_33)
  refine own_step (W' := T2.setTop (mkF m 36 #[.val (.int p1), .val (.int p2), .val (.int (1 : Int32)), .val (.int (0 : Int32)), .val (.ref (w 2)), .unset, .unset, .unset, .unset] [(.ref (w 1)), (.ref (w 2))])) (fun _ k => st2 _ k) ?_
  refine own_step (W' := T2.setTop (mkF m 43 #[.val (.int p1), .val (.int p2), .val (.int (1 : Int32)), .val (.int (0 : Int32)), .val (.ref (w 2)), .unset, .unset, .unset, .unset] [])) (fun _ k => Jvm.RoadKit.acmp (g := (mkF m 36 #[.val (.int p1), .val (.int p2), .val (.int (1 : Int32)), .val (.int (0 : Int32)), .val (.ref (w 2)), .unset, .unset, .unset, .unset] [(.ref (w 1)), (.ref (w 2))])) X2 hx rfl rfl rfl (pc0 := 36) (pc' := 43) (same := false) rfl (hb hby at_36) rfl (decide_eq_false fun q => (Fld.ne (pin_F2_ordinal P) (pin_F1_ordinal P) (by decide)) (Value.ref.inj q)) (by decide) (by decide) k) ?_
  refine own_step (W' := T2.setTop (mkF m 44 #[.val (.int p1), .val (.int p2), .val (.int (1 : Int32)), .val (.int (0 : Int32)), .val (.ref (w 2)), .unset, .unset, .unset, .unset] [(.int (0 : Int32))])) (fun _ k => XS.iconst X2.here hx rfl (hb hby at_43) k) ?_
  refine own_step (W' := T2.setTop (mkF m 45 #[.val (.int p1), .val (.int p2), .val (.int (1 : Int32)), .val (.int (0 : Int32)), .val (.ref (w 2)), .unset, .unset, .unset, .unset] [(.int (1 : Int32)), (.int (0 : Int32))])) (fun _ k => XS.iloadN X2.here hx rfl (hb hby at_44) rfl k) ?_
  refine own_step (W' := T2.setTop (mkF m 56 #[.val (.int p1), .val (.int p2), .val (.int (1 : Int32)), .val (.int (0 : Int32)), .val (.ref (w 2)), .unset, .unset, .unset, .unset] [(.int (0 : Int32))])) (fun _ k => XS.ifYes X2.here hx rfl (pc0 := 45) (pc' := 56) rfl (hb hby at_45) rfl (by decide) (by decide) (by decide) k) ?_
  refine own_step (W' := T2.setTop (mkF m 57 #[.val (.int p1), .val (.int p2), .val (.int (1 : Int32)), .val (.int (0 : Int32)), .val (.ref (w 2)), .unset, .unset, .unset, .unset] [(.int (0 : Int32)), (.int (0 : Int32))])) (fun _ k => XS.iconst X2.here hx rfl (hb hby at_56) k) ?_
  refine own_step (W' := T2.setTop (mkF m 60 #[.val (.int p1), .val (.int p2), .val (.int (1 : Int32)), .val (.int (0 : Int32)), .val (.ref (w 2)), .unset, .unset, .unset, .unset] [])) (fun _ k => XS.icmpNo X2.here hx rfl (hb hby at_57) rfl (by decide) k) ?_
  refine own_step (W' := T2.setTop (mkF m 61 #[.val (.int p1), .val (.int p2), .val (.int (1 : Int32)), .val (.int (0 : Int32)), .val (.ref (w 2)), .unset, .unset, .unset, .unset] [(.int (1 : Int32))])) (fun _ k => XS.iconst X2.here hx rfl (hb hby at_60) k) ?_
  refine own_step (W' := T2.setTop (mkF m 65 #[.val (.int p1), .val (.int p2), .val (.int (1 : Int32)), .val (.int (0 : Int32)), .val (.ref (w 2)), .unset, .unset, .unset, .unset] [(.int (1 : Int32))])) (fun _ k => XS.goto X2.here hx rfl (pc0 := 61) (pc' := 65) rfl (hb hby at_61) (by decide) (by decide) k) ?_
  refine own_step (W' := T2.setTop (mkF m 67 #[.val (.int p1), .val (.int p2), .val (.int (1 : Int32)), .val (.int (0 : Int32)), .val (.ref (w 2)), .val (.int (1 : Int32)), .unset, .unset, .unset] [])) (fun _ k => XS.istore X2.here hx rfl (hb hby at_65) rfl (l' := #[.val (.int p1), .val (.int p2), .val (.int (1 : Int32)), .val (.int (0 : Int32)), .val (.ref (w 2)), .val (.int (1 : Int32)), .unset, .unset, .unset]) rfl k) ?_
  refine own_step (W' := T2.setTop (mkF m 69 #[.val (.int p1), .val (.int p2), .val (.int (1 : Int32)), .val (.int (0 : Int32)), .val (.ref (w 2)), .val (.int (1 : Int32)), .unset, .unset, .unset] [(.ref (w 2))])) (fun _ k => XS.aload X2.here hx rfl (hb hby at_67) rfl rfl k) ?_
  obtain ⟨T3, X3, e3, st3⟩ := getS2 X2 hx hZ hown (host := "") (Or.inl (hw _ (List.mem_of_getElem? (i := 8) rfl))) Via.refl e2 (pin_S0 P) (g := (mkF m 69 #[.val (.int p1), .val (.int p2), .val (.int (1 : Int32)), .val (.int (0 : Int32)), .val (.ref (w 2)), .val (.int (1 : Int32)), .unset, .unset, .unset] [(.ref (w 2))])) rfl (hb hby at_69)
  refine own_step (W' := T3.setTop (mkF m 72 #[.val (.int p1), .val (.int p2), .val (.int (1 : Int32)), .val (.int (0 : Int32)), .val (.ref (w 2)), .val (.int (1 : Int32)), .unset, .unset, .unset] [(.ref (w 0)), (.ref (w 2))])) (fun _ k => st3 _ k) ?_
  refine own_step (W' := T3.setTop (mkF m 79 #[.val (.int p1), .val (.int p2), .val (.int (1 : Int32)), .val (.int (0 : Int32)), .val (.ref (w 2)), .val (.int (1 : Int32)), .unset, .unset, .unset] [])) (fun _ k => Jvm.RoadKit.acmp (g := (mkF m 72 #[.val (.int p1), .val (.int p2), .val (.int (1 : Int32)), .val (.int (0 : Int32)), .val (.ref (w 2)), .val (.int (1 : Int32)), .unset, .unset, .unset] [(.ref (w 0)), (.ref (w 2))])) X3 hx rfl rfl rfl (pc0 := 72) (pc' := 79) (same := false) rfl (hb hby at_72) rfl (decide_eq_false fun q => (Fld.ne (pin_F2_ordinal P) (pin_F0_ordinal P) (by decide)) (Value.ref.inj q)) (by decide) (by decide) k) ?_
  refine own_step (W' := T3.setTop (mkF m 80 #[.val (.int p1), .val (.int p2), .val (.int (1 : Int32)), .val (.int (0 : Int32)), .val (.ref (w 2)), .val (.int (1 : Int32)), .unset, .unset, .unset] [(.int (0 : Int32))])) (fun _ k => XS.iconst X3.here hx rfl (hb hby at_79) k) ?_
  refine own_step (W' := T3.setTop (mkF m 81 #[.val (.int p1), .val (.int p2), .val (.int (1 : Int32)), .val (.int (0 : Int32)), .val (.ref (w 2)), .val (.int (1 : Int32)), .unset, .unset, .unset] [(.int (1 : Int32)), (.int (0 : Int32))])) (fun _ k => XS.iloadN X3.here hx rfl (hb hby at_80) rfl k) ?_
  refine own_step (W' := T3.setTop (mkF m 92 #[.val (.int p1), .val (.int p2), .val (.int (1 : Int32)), .val (.int (0 : Int32)), .val (.ref (w 2)), .val (.int (1 : Int32)), .unset, .unset, .unset] [(.int (0 : Int32))])) (fun _ k => XS.ifYes X3.here hx rfl (pc0 := 81) (pc' := 92) rfl (hb hby at_81) rfl (by decide) (by decide) (by decide) k) ?_
  refine own_step (W' := T3.setTop (mkF m 93 #[.val (.int p1), .val (.int p2), .val (.int (1 : Int32)), .val (.int (0 : Int32)), .val (.ref (w 2)), .val (.int (1 : Int32)), .unset, .unset, .unset] [(.int (0 : Int32)), (.int (0 : Int32))])) (fun _ k => XS.iconst X3.here hx rfl (hb hby at_92) k) ?_
  refine own_step (W' := T3.setTop (mkF m 96 #[.val (.int p1), .val (.int p2), .val (.int (1 : Int32)), .val (.int (0 : Int32)), .val (.ref (w 2)), .val (.int (1 : Int32)), .unset, .unset, .unset] [])) (fun _ k => XS.icmpNo X3.here hx rfl (hb hby at_93) rfl (by decide) k) ?_
  refine own_step (W' := T3.setTop (mkF m 97 #[.val (.int p1), .val (.int p2), .val (.int (1 : Int32)), .val (.int (0 : Int32)), .val (.ref (w 2)), .val (.int (1 : Int32)), .unset, .unset, .unset] [(.int (1 : Int32))])) (fun _ k => XS.iconst X3.here hx rfl (hb hby at_96) k) ?_
  refine own_step (W' := T3.setTop (mkF m 101 #[.val (.int p1), .val (.int p2), .val (.int (1 : Int32)), .val (.int (0 : Int32)), .val (.ref (w 2)), .val (.int (1 : Int32)), .unset, .unset, .unset] [(.int (1 : Int32))])) (fun _ k => XS.goto X3.here hx rfl (pc0 := 97) (pc' := 101) rfl (hb hby at_97) (by decide) (by decide) k) ?_
  refine own_step (W' := T3.setTop (mkF m 103 #[.val (.int p1), .val (.int p2), .val (.int (1 : Int32)), .val (.int (0 : Int32)), .val (.ref (w 2)), .val (.int (1 : Int32)), .val (.int (1 : Int32)), .unset, .unset] [])) (fun _ k => XS.istore X3.here hx rfl (hb hby at_101) rfl (l' := #[.val (.int p1), .val (.int p2), .val (.int (1 : Int32)), .val (.int (0 : Int32)), .val (.ref (w 2)), .val (.int (1 : Int32)), .val (.int (1 : Int32)), .unset, .unset]) rfl k) ?_
  refine own_step (W' := T3.setTop (mkF m 105 #[.val (.int p1), .val (.int p2), .val (.int (1 : Int32)), .val (.int (0 : Int32)), .val (.ref (w 2)), .val (.int (1 : Int32)), .val (.int (1 : Int32)), .unset, .unset] [(.ref (w 2))])) (fun _ k => XS.aload X3.here hx rfl (hb hby at_103) rfl rfl k) ?_
  obtain ⟨T4, X4, e4, st4⟩ := getS2 X3 hx hZ hown (host := "") (Or.inl (hw _ (List.mem_of_getElem? (i := 9) rfl))) Via.refl e3 (pin_S2 P) (g := (mkF m 105 #[.val (.int p1), .val (.int p2), .val (.int (1 : Int32)), .val (.int (0 : Int32)), .val (.ref (w 2)), .val (.int (1 : Int32)), .val (.int (1 : Int32)), .unset, .unset] [(.ref (w 2))])) rfl (hb hby at_105)
  refine own_step (W' := T4.setTop (mkF m 108 #[.val (.int p1), .val (.int p2), .val (.int (1 : Int32)), .val (.int (0 : Int32)), .val (.ref (w 2)), .val (.int (1 : Int32)), .val (.int (1 : Int32)), .unset, .unset] [(.ref (w 2)), (.ref (w 2))])) (fun _ k => st4 _ k) ?_
  refine own_step (W' := T4.setTop (mkF m 111 #[.val (.int p1), .val (.int p2), .val (.int (1 : Int32)), .val (.int (0 : Int32)), .val (.ref (w 2)), .val (.int (1 : Int32)), .val (.int (1 : Int32)), .unset, .unset] [])) (fun _ k => Jvm.RoadKit.acmp (g := (mkF m 108 #[.val (.int p1), .val (.int p2), .val (.int (1 : Int32)), .val (.int (0 : Int32)), .val (.ref (w 2)), .val (.int (1 : Int32)), .val (.int (1 : Int32)), .unset, .unset] [(.ref (w 2)), (.ref (w 2))])) X4 hx rfl rfl rfl (pc0 := 108) (pc' := 111) (same := true) rfl (hb hby at_108) rfl (decide_eq_true rfl) (by decide) (by decide) k) ?_
  refine own_step (W' := T4.setTop (mkF m 112 #[.val (.int p1), .val (.int p2), .val (.int (1 : Int32)), .val (.int (0 : Int32)), .val (.ref (w 2)), .val (.int (1 : Int32)), .val (.int (1 : Int32)), .unset, .unset] [(.int (1 : Int32))])) (fun _ k => XS.iconst X4.here hx rfl (hb hby at_111) k) ?_
  refine own_step (W' := T4.setTop (mkF m 116 #[.val (.int p1), .val (.int p2), .val (.int (1 : Int32)), .val (.int (0 : Int32)), .val (.ref (w 2)), .val (.int (1 : Int32)), .val (.int (1 : Int32)), .unset, .unset] [(.int (1 : Int32))])) (fun _ k => XS.goto X4.here hx rfl (pc0 := 112) (pc' := 116) rfl (hb hby at_112) (by decide) (by decide) k) ?_
  refine own_step (W' := T4.setTop (mkF m 117 #[.val (.int p1), .val (.int p2), .val (.int (1 : Int32)), .val (.int (0 : Int32)), .val (.ref (w 2)), .val (.int (1 : Int32)), .val (.int (1 : Int32)), .unset, .unset] [(.int (1 : Int32)), (.int (1 : Int32))])) (fun _ k => XS.iloadN X4.here hx rfl (hb hby at_116) rfl k) ?_
  refine own_step (W' := T4.setTop (mkF m 120 #[.val (.int p1), .val (.int p2), .val (.int (1 : Int32)), .val (.int (0 : Int32)), .val (.ref (w 2)), .val (.int (1 : Int32)), .val (.int (1 : Int32)), .unset, .unset] [(.int (1 : Int32))])) (fun _ k => XS.ifNo X4.here hx rfl (hb hby at_117) rfl (by decide) k) ?_
  refine own_step (W' := T4.setTop (mkF m 121 #[.val (.int p1), .val (.int p2), .val (.int (1 : Int32)), .val (.int (0 : Int32)), .val (.ref (w 2)), .val (.int (1 : Int32)), .val (.int (1 : Int32)), .unset, .unset] [(.int (0 : Int32)), (.int (1 : Int32))])) (fun _ k => XS.iloadN X4.here hx rfl (hb hby at_120) rfl k) ?_
  refine own_step (W' := T4.setTop (mkF m 124 #[.val (.int p1), .val (.int p2), .val (.int (1 : Int32)), .val (.int (0 : Int32)), .val (.ref (w 2)), .val (.int (1 : Int32)), .val (.int (1 : Int32)), .unset, .unset] [(.int (1 : Int32))])) (fun _ k => XS.ifNo X4.here hx rfl (hb hby at_121) rfl (by decide) k) ?_
  refine own_step (W' := T4.setTop (mkF m 125 #[.val (.int p1), .val (.int p2), .val (.int (1 : Int32)), .val (.int (0 : Int32)), .val (.ref (w 2)), .val (.int (1 : Int32)), .val (.int (1 : Int32)), .unset, .unset] [(.int (1 : Int32)), (.int (1 : Int32))])) (fun _ k => XS.iconst X4.here hx rfl (hb hby at_124) k) ?_
  refine own_step (W' := T4.setTop (mkF m 129 #[.val (.int p1), .val (.int p2), .val (.int (1 : Int32)), .val (.int (0 : Int32)), .val (.ref (w 2)), .val (.int (1 : Int32)), .val (.int (1 : Int32)), .unset, .unset] [(.int (1 : Int32)), (.int (1 : Int32))])) (fun _ k => XS.goto X4.here hx rfl (pc0 := 125) (pc' := 129) rfl (hb hby at_125) (by decide) (by decide) k) ?_
  refine own_step (W' := T4.setTop (mkF m 132 #[.val (.int p1), .val (.int p2), .val (.int (1 : Int32)), .val (.int (0 : Int32)), .val (.ref (w 2)), .val (.int (1 : Int32)), .val (.int (1 : Int32)), .unset, .unset] [])) (fun _ k => XS.icmpNo X4.here hx rfl (hb hby at_129) rfl (by decide) k) ?_
  refine own_step (W' := T4.setTop (mkF m 133 #[.val (.int p1), .val (.int p2), .val (.int (1 : Int32)), .val (.int (0 : Int32)), .val (.ref (w 2)), .val (.int (1 : Int32)), .val (.int (1 : Int32)), .unset, .unset] [(.int (1 : Int32))])) (fun _ k => XS.iconst X4.here hx rfl (hb hby at_132) k) ?_
  refine own_step (W' := T4.setTop (mkF m 137 #[.val (.int p1), .val (.int p2), .val (.int (1 : Int32)), .val (.int (0 : Int32)), .val (.ref (w 2)), .val (.int (1 : Int32)), .val (.int (1 : Int32)), .unset, .unset] [(.int (1 : Int32))])) (fun _ k => XS.goto X4.here hx rfl (pc0 := 133) (pc' := 137) rfl (hb hby at_133) (by decide) (by decide) k) ?_
  refine own_step (W' := T4.setTop (mkF m 139 #[.val (.int p1), .val (.int p2), .val (.int (1 : Int32)), .val (.int (0 : Int32)), .val (.ref (w 2)), .val (.int (1 : Int32)), .val (.int (1 : Int32)), .val (.int (1 : Int32)), .unset] [])) (fun _ k => XS.istore X4.here hx rfl (hb hby at_137) rfl (l' := #[.val (.int p1), .val (.int p2), .val (.int (1 : Int32)), .val (.int (0 : Int32)), .val (.ref (w 2)), .val (.int (1 : Int32)), .val (.int (1 : Int32)), .val (.int (1 : Int32)), .unset]) rfl k) ?_
  refine own_step (W' := T4.setTop (mkF m 141 #[.val (.int p1), .val (.int p2), .val (.int (1 : Int32)), .val (.int (0 : Int32)), .val (.ref (w 2)), .val (.int (1 : Int32)), .val (.int (1 : Int32)), .val (.int (1 : Int32)), .unset] [(.ref (w 2))])) (fun _ k => XS.aload X4.here hx rfl (hb hby at_139) rfl rfl k) ?_
  obtain ⟨T5, X5, e5, st5⟩ := getS2 X4 hx hZ hown (host := "") (Or.inl (hw _ (List.mem_of_getElem? (i := 11) rfl))) Via.refl e4 (pin_S3 P) (g := (mkF m 141 #[.val (.int p1), .val (.int p2), .val (.int (1 : Int32)), .val (.int (0 : Int32)), .val (.ref (w 2)), .val (.int (1 : Int32)), .val (.int (1 : Int32)), .val (.int (1 : Int32)), .unset] [(.ref (w 2))])) rfl (hb hby at_141)
  refine own_step (W' := T5.setTop (mkF m 144 #[.val (.int p1), .val (.int p2), .val (.int (1 : Int32)), .val (.int (0 : Int32)), .val (.ref (w 2)), .val (.int (1 : Int32)), .val (.int (1 : Int32)), .val (.int (1 : Int32)), .unset] [(.ref (w 3)), (.ref (w 2))])) (fun _ k => st5 _ k) ?_
  refine own_step (W' := T5.setTop (mkF m 151 #[.val (.int p1), .val (.int p2), .val (.int (1 : Int32)), .val (.int (0 : Int32)), .val (.ref (w 2)), .val (.int (1 : Int32)), .val (.int (1 : Int32)), .val (.int (1 : Int32)), .unset] [])) (fun _ k => Jvm.RoadKit.acmp (g := (mkF m 144 #[.val (.int p1), .val (.int p2), .val (.int (1 : Int32)), .val (.int (0 : Int32)), .val (.ref (w 2)), .val (.int (1 : Int32)), .val (.int (1 : Int32)), .val (.int (1 : Int32)), .unset] [(.ref (w 3)), (.ref (w 2))])) X5 hx rfl rfl rfl (pc0 := 144) (pc' := 151) (same := false) rfl (hb hby at_144) rfl (decide_eq_false fun q => (Fld.ne (pin_F2_ordinal P) (pin_F3_ordinal P) (by decide)) (Value.ref.inj q)) (by decide) (by decide) k) ?_
  refine own_step (W' := T5.setTop (mkF m 152 #[.val (.int p1), .val (.int p2), .val (.int (1 : Int32)), .val (.int (0 : Int32)), .val (.ref (w 2)), .val (.int (1 : Int32)), .val (.int (1 : Int32)), .val (.int (1 : Int32)), .unset] [(.int (0 : Int32))])) (fun _ k => XS.iconst X5.here hx rfl (hb hby at_151) k) ?_
  refine own_step (W' := T5.setTop (mkF m 153 #[.val (.int p1), .val (.int p2), .val (.int (1 : Int32)), .val (.int (0 : Int32)), .val (.ref (w 2)), .val (.int (1 : Int32)), .val (.int (1 : Int32)), .val (.int (1 : Int32)), .unset] [(.int (1 : Int32)), (.int (0 : Int32))])) (fun _ k => XS.iloadN X5.here hx rfl (hb hby at_152) rfl k) ?_
  refine own_step (W' := T5.setTop (mkF m 156 #[.val (.int p1), .val (.int p2), .val (.int (1 : Int32)), .val (.int (0 : Int32)), .val (.ref (w 2)), .val (.int (1 : Int32)), .val (.int (1 : Int32)), .val (.int (1 : Int32)), .unset] [(.int (0 : Int32))])) (fun _ k => XS.ifNo X5.here hx rfl (hb hby at_153) rfl (by decide) k) ?_
  refine own_step (W' := T5.setTop (mkF m 157 #[.val (.int p1), .val (.int p2), .val (.int (1 : Int32)), .val (.int (0 : Int32)), .val (.ref (w 2)), .val (.int (1 : Int32)), .val (.int (1 : Int32)), .val (.int (1 : Int32)), .unset] [(.int (0 : Int32)), (.int (0 : Int32))])) (fun _ k => XS.iloadN X5.here hx rfl (hb hby at_156) rfl k) ?_
  refine own_step (W' := T5.setTop (mkF m 164 #[.val (.int p1), .val (.int p2), .val (.int (1 : Int32)), .val (.int (0 : Int32)), .val (.ref (w 2)), .val (.int (1 : Int32)), .val (.int (1 : Int32)), .val (.int (1 : Int32)), .unset] [(.int (0 : Int32))])) (fun _ k => XS.ifYes X5.here hx rfl (pc0 := 157) (pc' := 164) rfl (hb hby at_157) rfl (by decide) (by decide) (by decide) k) ?_
  refine own_step (W' := T5.setTop (mkF m 165 #[.val (.int p1), .val (.int p2), .val (.int (1 : Int32)), .val (.int (0 : Int32)), .val (.ref (w 2)), .val (.int (1 : Int32)), .val (.int (1 : Int32)), .val (.int (1 : Int32)), .unset] [(.int (0 : Int32)), (.int (0 : Int32))])) (fun _ k => XS.iconst X5.here hx rfl (hb hby at_164) k) ?_
  refine own_step (W' := T5.setTop (mkF m 168 #[.val (.int p1), .val (.int p2), .val (.int (1 : Int32)), .val (.int (0 : Int32)), .val (.ref (w 2)), .val (.int (1 : Int32)), .val (.int (1 : Int32)), .val (.int (1 : Int32)), .unset] [])) (fun _ k => XS.icmpNo X5.here hx rfl (hb hby at_165) rfl (by decide) k) ?_
  refine own_step (W' := T5.setTop (mkF m 169 #[.val (.int p1), .val (.int p2), .val (.int (1 : Int32)), .val (.int (0 : Int32)), .val (.ref (w 2)), .val (.int (1 : Int32)), .val (.int (1 : Int32)), .val (.int (1 : Int32)), .unset] [(.int (1 : Int32))])) (fun _ k => XS.iconst X5.here hx rfl (hb hby at_168) k) ?_
  refine own_step (W' := T5.setTop (mkF m 173 #[.val (.int p1), .val (.int p2), .val (.int (1 : Int32)), .val (.int (0 : Int32)), .val (.ref (w 2)), .val (.int (1 : Int32)), .val (.int (1 : Int32)), .val (.int (1 : Int32)), .unset] [(.int (1 : Int32))])) (fun _ k => XS.goto X5.here hx rfl (pc0 := 169) (pc' := 173) rfl (hb hby at_169) (by decide) (by decide) k) ?_
  refine own_step (W' := T5.setTop (mkF m 175 #[.val (.int p1), .val (.int p2), .val (.int (1 : Int32)), .val (.int (0 : Int32)), .val (.ref (w 2)), .val (.int (1 : Int32)), .val (.int (1 : Int32)), .val (.int (1 : Int32)), .val (.int (1 : Int32))] [])) (fun _ k => XS.istore X5.here hx rfl (hb hby at_173) rfl (l' := #[.val (.int p1), .val (.int p2), .val (.int (1 : Int32)), .val (.int (0 : Int32)), .val (.ref (w 2)), .val (.int (1 : Int32)), .val (.int (1 : Int32)), .val (.int (1 : Int32)), .val (.int (1 : Int32))]) rfl k) ?_
  refine own_step (W' := T5.setTop (mkF m 177 #[.val (.int p1), .val (.int p2), .val (.int (1 : Int32)), .val (.int (0 : Int32)), .val (.ref (w 2)), .val (.int (1 : Int32)), .val (.int (1 : Int32)), .val (.int (1 : Int32)), .val (.int (1 : Int32))] [(.int (1 : Int32))])) (fun _ k => XS.iload X5.here hx rfl (hb hby at_175) rfl k) ?_
  refine own_step (W' := T5.setTop (mkF m 180 #[.val (.int p1), .val (.int p2), .val (.int (1 : Int32)), .val (.int (0 : Int32)), .val (.ref (w 2)), .val (.int (1 : Int32)), .val (.int (1 : Int32)), .val (.int (1 : Int32)), .val (.int (1 : Int32))] [])) (fun _ k => XS.ifNo X5.here hx rfl (hb hby at_177) rfl (by decide) k) ?_
  refine own_step (W' := T5.setTop (mkF m 182 #[.val (.int p1), .val (.int p2), .val (.int (1 : Int32)), .val (.int (0 : Int32)), .val (.ref (w 2)), .val (.int (1 : Int32)), .val (.int (1 : Int32)), .val (.int (1 : Int32)), .val (.int (1 : Int32))] [(.int (1 : Int32))])) (fun _ k => XS.iload X5.here hx rfl (hb hby at_180) rfl k) ?_
  refine own_step (W' := T5.setTop (mkF m 185 #[.val (.int p1), .val (.int p2), .val (.int (1 : Int32)), .val (.int (0 : Int32)), .val (.ref (w 2)), .val (.int (1 : Int32)), .val (.int (1 : Int32)), .val (.int (1 : Int32)), .val (.int (1 : Int32))] [])) (fun _ k => XS.ifNo X5.here hx rfl (hb hby at_182) rfl (by decide) k) ?_
  refine own_step (W' := T5.setTop (mkF m 187 #[.val (.int p1), .val (.int p2), .val (.int (1 : Int32)), .val (.int (0 : Int32)), .val (.ref (w 2)), .val (.int (1 : Int32)), .val (.int (1 : Int32)), .val (.int (1 : Int32)), .val (.int (1 : Int32))] [(.int (1 : Int32))])) (fun _ k => XS.iload X5.here hx rfl (hb hby at_185) rfl k) ?_
  refine own_step (W' := T5.setTop (mkF m 190 #[.val (.int p1), .val (.int p2), .val (.int (1 : Int32)), .val (.int (0 : Int32)), .val (.ref (w 2)), .val (.int (1 : Int32)), .val (.int (1 : Int32)), .val (.int (1 : Int32)), .val (.int (1 : Int32))] [])) (fun _ k => XS.ifNo X5.here hx rfl (hb hby at_187) rfl (by decide) k) ?_
  refine own_step (W' := T5.setTop (mkF m 192 #[.val (.int p1), .val (.int p2), .val (.int (1 : Int32)), .val (.int (0 : Int32)), .val (.ref (w 2)), .val (.int (1 : Int32)), .val (.int (1 : Int32)), .val (.int (1 : Int32)), .val (.int (1 : Int32))] [(.int (1 : Int32))])) (fun _ k => XS.iload X5.here hx rfl (hb hby at_190) rfl k) ?_
  refine own_step (W' := T5.setTop (mkF m 195 #[.val (.int p1), .val (.int p2), .val (.int (1 : Int32)), .val (.int (0 : Int32)), .val (.ref (w 2)), .val (.int (1 : Int32)), .val (.int (1 : Int32)), .val (.int (1 : Int32)), .val (.int (1 : Int32))] [])) (fun _ k => XS.ifNo X5.here hx rfl (hb hby at_192) rfl (by decide) k) ?_
  refine own_step (W' := T5.setTop (mkF m 196 #[.val (.int p1), .val (.int p2), .val (.int (1 : Int32)), .val (.int (0 : Int32)), .val (.ref (w 2)), .val (.int (1 : Int32)), .val (.int (1 : Int32)), .val (.int (1 : Int32)), .val (.int (1 : Int32))] [(.int (1 : Int32))])) (fun _ k => XS.iconst X5.here hx rfl (hb hby at_195) k) ?_
  refine own_step (W' := T5.setTop (mkF m 200 #[.val (.int p1), .val (.int p2), .val (.int (1 : Int32)), .val (.int (0 : Int32)), .val (.ref (w 2)), .val (.int (1 : Int32)), .val (.int (1 : Int32)), .val (.int (1 : Int32)), .val (.int (1 : Int32))] [(.int (1 : Int32))])) (fun _ k => XS.goto X5.here hx rfl (pc0 := 196) (pc' := 200) rfl (hb hby at_196) (by decide) (by decide) k) ?_
  exact own_ret X5 Bd.notSynchronized Bd.returns (v := (.int (1 : Int32))) (fun fs hr => retN X5 hx (t := .boolean) Bd.returns (by simp) (hb hby at_200) hr) ⟨rfl, N1⟩ (by decide) (by decide)
set_option maxRecDepth 65536 in
set_option maxHeartbeats 40000000 in
theorem rm1_1_1 (l : Launch) (Z : State) (a0 : Array Value) (hw : ∀ d ∈ tables_1, d.before a0 Z = true) (ws : List Jvm.Cond) (w : Nat → Addr) (h0 : Heap) (n0 : Nat) (Z0 : n0 ≤ h0.size) (P : Pins Z h0 w) :
    MetFree l (⟨"com/example/recital/recital/ClauseLabel$Style", "of", "(ZZ)Lcom/example/recital/recital/ClauseLabel$Style;"⟩ : MethodName) (head1 (Jvm.Cond.code (⟨"com/example/recital/recital/ClauseLabel$Style", "of", "(ZZ)Lcom/example/recital/recital/ClauseLabel$Style;"⟩ : MethodName) prog_20_method_4_code 2 (some (.object "com/example/recital/recital/ClauseLabel$Style")) :: ws) ({ frames := 0, cells := 0, slots := 0, locals := 0 } : Room)) (fun a U => a = #[(.int (1 : Int32)), (.int (1 : Int32))] ∧ Z.Warmed39 U.vm ∧ U.heap = h0) (fun _ _ _ _ _ => True) (fun _ U o U' => ∃ v L, o = .returned v ∧ own_QK (some (.ref (w 3))) h0 n0 v U'.heap L ∧ FrameEnd U o U' L ({ frames := 0, cells := 0, slots := 0, locals := 0 } : Room).cells ({ frames := 0, cells := 0, slots := 0, locals := 0 } : Room).slots) := by
  refine MetFree.of_bodySF (plainFor_of_name pn_com_example_recital_recital_ClauseLabel_Style) hisR ?_
  intro p e s m args below meth c s₁ Bd hml0 hP hK
  obtain ⟨rfl, hZ, hh⟩ := hP
  have hx := Bd.exec
  have hby := Bd.bytes
  have hml : c.maxLocals = 2 := hml0
  have hown : s.vm.findClass "com/example/recital/recital/ClauseLabel$Style" = some m.cls := findClass_of_methodNamed Bd.named
  have hnm := (name_of_methodNamed Bd.named Bd.method).1
  have X0 : Stand p l e ({ frames := 0, cells := 0, slots := 0, locals := 0 } : Room) s m #[(.int (1 : Int32)), (.int (1 : Int32))] below meth c s₁ [] 0 0 := Stand.of_body Bd
  have e0 : s₁.heap = h0 := by rw [← hh, Bd.state]; rfl
  have N0 := Fr.nil n0
  refine own_enter (ef_1_II m (1 : Int32) (1 : Int32)) ?_
  refine own_step (W' := s₁.setTop (mkF m 1 #[.val (.int (1 : Int32)), .val (.int (1 : Int32))] [(.int (1 : Int32))])) (fun _ k => XS.iloadN X0.here hx rfl (hb hby d1_0) rfl k) ?_
  refine own_step (W' := s₁.setTop (mkF m 4 #[.val (.int (1 : Int32)), .val (.int (1 : Int32))] [])) (fun _ k => XS.ifNo X0.here hx rfl (hb hby d1_1) rfl (by decide) k) ?_
  refine own_step (W' := s₁.setTop (mkF m 5 #[.val (.int (1 : Int32)), .val (.int (1 : Int32))] [(.int (1 : Int32))])) (fun _ k => XS.iloadN X0.here hx rfl (hb hby d1_4) rfl k) ?_
  refine own_step (W' := s₁.setTop (mkF m 8 #[.val (.int (1 : Int32)), .val (.int (1 : Int32))] [])) (fun _ k => XS.ifNo X0.here hx rfl (hb hby d1_5) rfl (by decide) k) ?_
  obtain ⟨T1, X1, e1, st1⟩ := getS2 X0 hx hZ hown (host := "") (Or.inl (hw _ (List.mem_of_getElem? (i := 14) rfl))) Via.refl e0 (pin_S3 P) (g := (mkF m 8 #[.val (.int (1 : Int32)), .val (.int (1 : Int32))] [])) rfl (hb hby d1_8)
  refine own_step (W' := T1.setTop (mkF m 11 #[.val (.int (1 : Int32)), .val (.int (1 : Int32))] [(.ref (w 3))])) (fun _ k => st1 _ k) ?_
  refine own_step (W' := T1.setTop (mkF m 33 #[.val (.int (1 : Int32)), .val (.int (1 : Int32))] [(.ref (w 3))])) (fun _ k => XS.goto X1.here hx rfl (pc0 := 11) (pc' := 33) rfl (hb hby d1_11) (by decide) (by decide) k) ?_
  exact own_ret X1 Bd.notSynchronized Bd.returns (v := (.ref (w 3))) (fun fs hr => retOut X1 hx Bd.returns rfl (Or.inr (Or.inr (Or.inr (Or.inr ⟨rfl, rfl, rfl⟩)))) (hb hby d1_33) hr) ⟨rfl, N0, e1⟩ (by decide) (by decide)
set_option maxRecDepth 65536 in
set_option maxHeartbeats 40000000 in
theorem rm0_11 (l : Launch) (Z : State) (a0 : Array Value) (hw : ∀ d ∈ tables_1, d.before a0 Z = true) (ws : List Jvm.Cond) (p1 p2 : Int32) (ha : (p1 &&& (1 : Int32)) = (1 : Int32)) (hb' : (p2 &&& (1 : Int32)) = (1 : Int32)) (w : Nat → Addr) (h0 : Heap) (n0 : Nat) (Z0 : n0 ≤ h0.size) (P : Pins Z h0 w) :
    MetFree l x (head1 (Jvm.Cond.code x code maxLocals ret :: ws) room_1) (fun a U => a = #[(.int p1), (.int p2)] ∧ Z.Warmed39 U.vm ∧ U.heap = h0) (fun _ _ _ _ _ => True) (fun _ U o U' => ∃ v L, o = .returned v ∧ own_Q0 n0 v U'.heap L ∧ FrameEnd U o U' L room_1.cells room_1.slots) := by
  refine MetFree.of_bodySF (plainFor_of_name pn_com_example_recital_recital_StyleOfPinLaw) hisR ?_
  intro p e s m args below meth c s₁ Bd hml0 hP hK
  obtain ⟨rfl, hZ, hh⟩ := hP
  have hx := Bd.exec
  have hby := Bd.bytes
  have hml : c.maxLocals = 9 := hml0
  have hown : s.vm.findClass "com/example/recital/recital/StyleOfPinLaw" = some m.cls := findClass_of_methodNamed Bd.named
  have hnm := (name_of_methodNamed Bd.named Bd.method).1
  have X0 : Stand p l e room_1 s m #[(.int p1), (.int p2)] below meth c s₁ [] 0 0 := Stand.of_body Bd
  have e0 : s₁.heap = h0 := by rw [← hh, Bd.state]; rfl
  have N0 := Fr.nil n0
  refine own_enter (ef_0_II m p1 p2) ?_
  refine own_step (W' := s₁.setTop (mkF m 1 #[.val (.int p1), .val (.int p2), .unset, .unset, .unset, .unset, .unset, .unset, .unset] [(.int p1)])) (fun _ k => XS.iloadN X0.here hx rfl (hb hby at_0) rfl k) ?_
  refine own_step (W' := s₁.setTop (mkF m 2 #[.val (.int p1), .val (.int p2), .unset, .unset, .unset, .unset, .unset, .unset, .unset] [(.int (1 : Int32)), (.int p1)])) (fun _ k => XS.iconst X0.here hx rfl (hb hby at_1) k) ?_
  refine own_step (W' := s₁.setTop (mkF m 3 #[.val (.int p1), .val (.int p2), .unset, .unset, .unset, .unset, .unset, .unset, .unset] [(.int (p1 &&& (1 : Int32)))])) (fun _ k => XS.iand X0.here hx rfl (hb hby at_2) rfl k) ?_
  rw [ha]
  refine own_step (W' := s₁.setTop (mkF m 6 #[.val (.int p1), .val (.int p2), .unset, .unset, .unset, .unset, .unset, .unset, .unset] [])) (fun _ k => XS.ifNo X0.here hx rfl (hb hby at_3) rfl (by decide) k) ?_
  refine own_step (W' := s₁.setTop (mkF m 7 #[.val (.int p1), .val (.int p2), .unset, .unset, .unset, .unset, .unset, .unset, .unset] [(.int (1 : Int32))])) (fun _ k => XS.iconst X0.here hx rfl (hb hby at_6) k) ?_
  refine own_step (W' := s₁.setTop (mkF m 11 #[.val (.int p1), .val (.int p2), .unset, .unset, .unset, .unset, .unset, .unset, .unset] [(.int (1 : Int32))])) (fun _ k => XS.goto X0.here hx rfl (pc0 := 7) (pc' := 11) rfl (hb hby at_7) (by decide) (by decide) k) ?_
  refine own_step (W' := s₁.setTop (mkF m 12 #[.val (.int p1), .val (.int p2), .val (.int (1 : Int32)), .unset, .unset, .unset, .unset, .unset, .unset] [])) (fun _ k => XS.istoreN X0.here hx rfl (hb hby at_11) rfl (l' := #[.val (.int p1), .val (.int p2), .val (.int (1 : Int32)), .unset, .unset, .unset, .unset, .unset, .unset]) rfl k) ?_
  refine own_step (W' := s₁.setTop (mkF m 13 #[.val (.int p1), .val (.int p2), .val (.int (1 : Int32)), .unset, .unset, .unset, .unset, .unset, .unset] [(.int p2)])) (fun _ k => XS.iloadN X0.here hx rfl (hb hby at_12) rfl k) ?_
  refine own_step (W' := s₁.setTop (mkF m 14 #[.val (.int p1), .val (.int p2), .val (.int (1 : Int32)), .unset, .unset, .unset, .unset, .unset, .unset] [(.int (1 : Int32)), (.int p2)])) (fun _ k => XS.iconst X0.here hx rfl (hb hby at_13) k) ?_
  refine own_step (W' := s₁.setTop (mkF m 15 #[.val (.int p1), .val (.int p2), .val (.int (1 : Int32)), .unset, .unset, .unset, .unset, .unset, .unset] [(.int (p2 &&& (1 : Int32)))])) (fun _ k => XS.iand X0.here hx rfl (hb hby at_14) rfl k) ?_
  rw [hb']
  refine own_step (W' := s₁.setTop (mkF m 18 #[.val (.int p1), .val (.int p2), .val (.int (1 : Int32)), .unset, .unset, .unset, .unset, .unset, .unset] [])) (fun _ k => XS.ifNo X0.here hx rfl (hb hby at_15) rfl (by decide) k) ?_
  refine own_step (W' := s₁.setTop (mkF m 19 #[.val (.int p1), .val (.int p2), .val (.int (1 : Int32)), .unset, .unset, .unset, .unset, .unset, .unset] [(.int (1 : Int32))])) (fun _ k => XS.iconst X0.here hx rfl (hb hby at_18) k) ?_
  refine own_step (W' := s₁.setTop (mkF m 23 #[.val (.int p1), .val (.int p2), .val (.int (1 : Int32)), .unset, .unset, .unset, .unset, .unset, .unset] [(.int (1 : Int32))])) (fun _ k => XS.goto X0.here hx rfl (pc0 := 19) (pc' := 23) rfl (hb hby at_19) (by decide) (by decide) k) ?_
  refine own_step (W' := s₁.setTop (mkF m 24 #[.val (.int p1), .val (.int p2), .val (.int (1 : Int32)), .val (.int (1 : Int32)), .unset, .unset, .unset, .unset, .unset] [])) (fun _ k => XS.istoreN X0.here hx rfl (hb hby at_23) rfl (l' := #[.val (.int p1), .val (.int p2), .val (.int (1 : Int32)), .val (.int (1 : Int32)), .unset, .unset, .unset, .unset, .unset]) rfl k) ?_
  refine own_step (W' := s₁.setTop (mkF m 25 #[.val (.int p1), .val (.int p2), .val (.int (1 : Int32)), .val (.int (1 : Int32)), .unset, .unset, .unset, .unset, .unset] [(.int (1 : Int32))])) (fun _ k => XS.iloadN X0.here hx rfl (hb hby at_24) rfl k) ?_
  refine own_step (W' := s₁.setTop (mkF m 26 #[.val (.int p1), .val (.int p2), .val (.int (1 : Int32)), .val (.int (1 : Int32)), .unset, .unset, .unset, .unset, .unset] [(.int (1 : Int32)), (.int (1 : Int32))])) (fun _ k => XS.iloadN X0.here hx rfl (hb hby at_25) rfl k) ?_
  obtain ⟨_, _, ⟨T1, L1, k1, n1⟩, -, X1, ⟨Lc1, hQ1, l1, y1, z1⟩, st1⟩ := Jvm.LawKit.callS X0 hx (y := (⟨"com/example/recital/recital/ClauseLabel$Style", "of", "(ZZ)Lcom/example/recital/recital/ClauseLabel$Style;"⟩ : MethodName)) hown (mvT hZ (hw _ (List.mem_of_getElem? (i := 0) rfl))) (mvT hZ (hw _ (List.mem_of_getElem? (i := 1) rfl))) (mvT hZ (hw _ (List.mem_of_getElem? (i := 2) rfl))) (mvT hZ (hw _ (List.mem_of_getElem? (i := 3) rfl))) (by decide) (backOf (W := 0) (rm1_1_1 l Z a0 hw [] w h0 n0 Z0 P) hZ (hw _ (List.mem_of_getElem? (i := 3) rfl)) (hw _ (List.mem_of_getElem? (i := 2) rfl)) (by decide) (by decide)) (g := (mkF m 26 #[.val (.int p1), .val (.int p2), .val (.int (1 : Int32)), .val (.int (1 : Int32)), .unset, .unset, .unset, .unset, .unset] [(.int (1 : Int32)), (.int (1 : Int32))])) rfl (by rw [hml]; rfl) (argsL := [(.int (1 : Int32)), (.int (1 : Int32))]) (rest := []) (lenOf pd_0 rfl) rfl (by show 2 * 0 + _ ≤ _; exact Nat.le_of_eq rfl) (hb hby at_26) (fun _ _ => ⟨rfl, e0, (by decide : 0 + 0 ≤ _), (by decide : 0 + 0 ≤ _)⟩)
  dsimp only [Pt.U, Pt.locs, Pt.cells, Pt.slots] at X1 l1 y1 z1 st1 hQ1
  subst l1 y1 z1
  obtain ⟨rfl, N1q, e1⟩ := hQ1
  have N1 := Fr.app N0 N1q
  refine own_step (W' := T1.setTop (mkF m 29 #[.val (.int p1), .val (.int p2), .val (.int (1 : Int32)), .val (.int (1 : Int32)), .unset, .unset, .unset, .unset, .unset] [(.ref (w 3))])) (fun _ k => st1 _ k) ?_
  refine own_step (W' := T1.setTop (mkF m 31 #[.val (.int p1), .val (.int p2), .val (.int (1 : Int32)), .val (.int (1 : Int32)), .val (.ref (w 3)), .unset, .unset, .unset, .unset] [])) (fun _ k => XS.astore X1.here hx rfl (hb hby at_29) rfl rfl (l' := #[.val (.int p1), .val (.int p2), .val (.int (1 : Int32)), .val (.int (1 : Int32)), .val (.ref (w 3)), .unset, .unset, .unset, .unset]) rfl k) ?_
  refine own_step (W' := T1.setTop (mkF m 33 #[.val (.int p1), .val (.int p2), .val (.int (1 : Int32)), .val (.int (1 : Int32)), .val (.ref (w 3)), .unset, .unset, .unset, .unset] [(.ref (w 3))])) (fun _ k => XS.aload X1.here hx rfl (hb hby at_31) rfl rfl k) ?_
  obtain ⟨T2, X2, e2, st2⟩ := getS2 X1 hx hZ hown (host := "") (Or.inl (hw _ (List.mem_of_getElem? (i := 6) rfl))) Via.refl e1 (pin_S1 P) (g := (mkF m 33 #[.val (.int p1), .val (.int p2), .val (.int (1 : Int32)), .val (.int (1 : Int32)), .val (.ref (w 3)), .unset, .unset, .unset, .unset] [(.ref (w 3))])) rfl (hb hby at_33)
  refine own_step (W' := T2.setTop (mkF m 36 #[.val (.int p1), .val (.int p2), .val (.int (1 : Int32)), .val (.int (1 : Int32)), .val (.ref (w 3)), .unset, .unset, .unset, .unset] [(.ref (w 1)), (.ref (w 3))])) (fun _ k => st2 _ k) ?_
  refine own_step (W' := T2.setTop (mkF m 43 #[.val (.int p1), .val (.int p2), .val (.int (1 : Int32)), .val (.int (1 : Int32)), .val (.ref (w 3)), .unset, .unset, .unset, .unset] [])) (fun _ k => Jvm.RoadKit.acmp (g := (mkF m 36 #[.val (.int p1), .val (.int p2), .val (.int (1 : Int32)), .val (.int (1 : Int32)), .val (.ref (w 3)), .unset, .unset, .unset, .unset] [(.ref (w 1)), (.ref (w 3))])) X2 hx rfl rfl rfl (pc0 := 36) (pc' := 43) (same := false) rfl (hb hby at_36) rfl (decide_eq_false fun q => (Fld.ne (pin_F3_ordinal P) (pin_F1_ordinal P) (by decide)) (Value.ref.inj q)) (by decide) (by decide) k) ?_
  refine own_step (W' := T2.setTop (mkF m 44 #[.val (.int p1), .val (.int p2), .val (.int (1 : Int32)), .val (.int (1 : Int32)), .val (.ref (w 3)), .unset, .unset, .unset, .unset] [(.int (0 : Int32))])) (fun _ k => XS.iconst X2.here hx rfl (hb hby at_43) k) ?_
  refine own_step (W' := T2.setTop (mkF m 45 #[.val (.int p1), .val (.int p2), .val (.int (1 : Int32)), .val (.int (1 : Int32)), .val (.ref (w 3)), .unset, .unset, .unset, .unset] [(.int (1 : Int32)), (.int (0 : Int32))])) (fun _ k => XS.iloadN X2.here hx rfl (hb hby at_44) rfl k) ?_
  refine own_step (W' := T2.setTop (mkF m 56 #[.val (.int p1), .val (.int p2), .val (.int (1 : Int32)), .val (.int (1 : Int32)), .val (.ref (w 3)), .unset, .unset, .unset, .unset] [(.int (0 : Int32))])) (fun _ k => XS.ifYes X2.here hx rfl (pc0 := 45) (pc' := 56) rfl (hb hby at_45) rfl (by decide) (by decide) (by decide) k) ?_
  refine own_step (W' := T2.setTop (mkF m 57 #[.val (.int p1), .val (.int p2), .val (.int (1 : Int32)), .val (.int (1 : Int32)), .val (.ref (w 3)), .unset, .unset, .unset, .unset] [(.int (0 : Int32)), (.int (0 : Int32))])) (fun _ k => XS.iconst X2.here hx rfl (hb hby at_56) k) ?_
  refine own_step (W' := T2.setTop (mkF m 60 #[.val (.int p1), .val (.int p2), .val (.int (1 : Int32)), .val (.int (1 : Int32)), .val (.ref (w 3)), .unset, .unset, .unset, .unset] [])) (fun _ k => XS.icmpNo X2.here hx rfl (hb hby at_57) rfl (by decide) k) ?_
  refine own_step (W' := T2.setTop (mkF m 61 #[.val (.int p1), .val (.int p2), .val (.int (1 : Int32)), .val (.int (1 : Int32)), .val (.ref (w 3)), .unset, .unset, .unset, .unset] [(.int (1 : Int32))])) (fun _ k => XS.iconst X2.here hx rfl (hb hby at_60) k) ?_
  refine own_step (W' := T2.setTop (mkF m 65 #[.val (.int p1), .val (.int p2), .val (.int (1 : Int32)), .val (.int (1 : Int32)), .val (.ref (w 3)), .unset, .unset, .unset, .unset] [(.int (1 : Int32))])) (fun _ k => XS.goto X2.here hx rfl (pc0 := 61) (pc' := 65) rfl (hb hby at_61) (by decide) (by decide) k) ?_
  refine own_step (W' := T2.setTop (mkF m 67 #[.val (.int p1), .val (.int p2), .val (.int (1 : Int32)), .val (.int (1 : Int32)), .val (.ref (w 3)), .val (.int (1 : Int32)), .unset, .unset, .unset] [])) (fun _ k => XS.istore X2.here hx rfl (hb hby at_65) rfl (l' := #[.val (.int p1), .val (.int p2), .val (.int (1 : Int32)), .val (.int (1 : Int32)), .val (.ref (w 3)), .val (.int (1 : Int32)), .unset, .unset, .unset]) rfl k) ?_
  refine own_step (W' := T2.setTop (mkF m 69 #[.val (.int p1), .val (.int p2), .val (.int (1 : Int32)), .val (.int (1 : Int32)), .val (.ref (w 3)), .val (.int (1 : Int32)), .unset, .unset, .unset] [(.ref (w 3))])) (fun _ k => XS.aload X2.here hx rfl (hb hby at_67) rfl rfl k) ?_
  obtain ⟨T3, X3, e3, st3⟩ := getS2 X2 hx hZ hown (host := "") (Or.inl (hw _ (List.mem_of_getElem? (i := 8) rfl))) Via.refl e2 (pin_S0 P) (g := (mkF m 69 #[.val (.int p1), .val (.int p2), .val (.int (1 : Int32)), .val (.int (1 : Int32)), .val (.ref (w 3)), .val (.int (1 : Int32)), .unset, .unset, .unset] [(.ref (w 3))])) rfl (hb hby at_69)
  refine own_step (W' := T3.setTop (mkF m 72 #[.val (.int p1), .val (.int p2), .val (.int (1 : Int32)), .val (.int (1 : Int32)), .val (.ref (w 3)), .val (.int (1 : Int32)), .unset, .unset, .unset] [(.ref (w 0)), (.ref (w 3))])) (fun _ k => st3 _ k) ?_
  refine own_step (W' := T3.setTop (mkF m 79 #[.val (.int p1), .val (.int p2), .val (.int (1 : Int32)), .val (.int (1 : Int32)), .val (.ref (w 3)), .val (.int (1 : Int32)), .unset, .unset, .unset] [])) (fun _ k => Jvm.RoadKit.acmp (g := (mkF m 72 #[.val (.int p1), .val (.int p2), .val (.int (1 : Int32)), .val (.int (1 : Int32)), .val (.ref (w 3)), .val (.int (1 : Int32)), .unset, .unset, .unset] [(.ref (w 0)), (.ref (w 3))])) X3 hx rfl rfl rfl (pc0 := 72) (pc' := 79) (same := false) rfl (hb hby at_72) rfl (decide_eq_false fun q => (Fld.ne (pin_F3_ordinal P) (pin_F0_ordinal P) (by decide)) (Value.ref.inj q)) (by decide) (by decide) k) ?_
  refine own_step (W' := T3.setTop (mkF m 80 #[.val (.int p1), .val (.int p2), .val (.int (1 : Int32)), .val (.int (1 : Int32)), .val (.ref (w 3)), .val (.int (1 : Int32)), .unset, .unset, .unset] [(.int (0 : Int32))])) (fun _ k => XS.iconst X3.here hx rfl (hb hby at_79) k) ?_
  refine own_step (W' := T3.setTop (mkF m 81 #[.val (.int p1), .val (.int p2), .val (.int (1 : Int32)), .val (.int (1 : Int32)), .val (.ref (w 3)), .val (.int (1 : Int32)), .unset, .unset, .unset] [(.int (1 : Int32)), (.int (0 : Int32))])) (fun _ k => XS.iloadN X3.here hx rfl (hb hby at_80) rfl k) ?_
  refine own_step (W' := T3.setTop (mkF m 92 #[.val (.int p1), .val (.int p2), .val (.int (1 : Int32)), .val (.int (1 : Int32)), .val (.ref (w 3)), .val (.int (1 : Int32)), .unset, .unset, .unset] [(.int (0 : Int32))])) (fun _ k => XS.ifYes X3.here hx rfl (pc0 := 81) (pc' := 92) rfl (hb hby at_81) rfl (by decide) (by decide) (by decide) k) ?_
  refine own_step (W' := T3.setTop (mkF m 93 #[.val (.int p1), .val (.int p2), .val (.int (1 : Int32)), .val (.int (1 : Int32)), .val (.ref (w 3)), .val (.int (1 : Int32)), .unset, .unset, .unset] [(.int (0 : Int32)), (.int (0 : Int32))])) (fun _ k => XS.iconst X3.here hx rfl (hb hby at_92) k) ?_
  refine own_step (W' := T3.setTop (mkF m 96 #[.val (.int p1), .val (.int p2), .val (.int (1 : Int32)), .val (.int (1 : Int32)), .val (.ref (w 3)), .val (.int (1 : Int32)), .unset, .unset, .unset] [])) (fun _ k => XS.icmpNo X3.here hx rfl (hb hby at_93) rfl (by decide) k) ?_
  refine own_step (W' := T3.setTop (mkF m 97 #[.val (.int p1), .val (.int p2), .val (.int (1 : Int32)), .val (.int (1 : Int32)), .val (.ref (w 3)), .val (.int (1 : Int32)), .unset, .unset, .unset] [(.int (1 : Int32))])) (fun _ k => XS.iconst X3.here hx rfl (hb hby at_96) k) ?_
  refine own_step (W' := T3.setTop (mkF m 101 #[.val (.int p1), .val (.int p2), .val (.int (1 : Int32)), .val (.int (1 : Int32)), .val (.ref (w 3)), .val (.int (1 : Int32)), .unset, .unset, .unset] [(.int (1 : Int32))])) (fun _ k => XS.goto X3.here hx rfl (pc0 := 97) (pc' := 101) rfl (hb hby at_97) (by decide) (by decide) k) ?_
  refine own_step (W' := T3.setTop (mkF m 103 #[.val (.int p1), .val (.int p2), .val (.int (1 : Int32)), .val (.int (1 : Int32)), .val (.ref (w 3)), .val (.int (1 : Int32)), .val (.int (1 : Int32)), .unset, .unset] [])) (fun _ k => XS.istore X3.here hx rfl (hb hby at_101) rfl (l' := #[.val (.int p1), .val (.int p2), .val (.int (1 : Int32)), .val (.int (1 : Int32)), .val (.ref (w 3)), .val (.int (1 : Int32)), .val (.int (1 : Int32)), .unset, .unset]) rfl k) ?_
  refine own_step (W' := T3.setTop (mkF m 105 #[.val (.int p1), .val (.int p2), .val (.int (1 : Int32)), .val (.int (1 : Int32)), .val (.ref (w 3)), .val (.int (1 : Int32)), .val (.int (1 : Int32)), .unset, .unset] [(.ref (w 3))])) (fun _ k => XS.aload X3.here hx rfl (hb hby at_103) rfl rfl k) ?_
  obtain ⟨T4, X4, e4, st4⟩ := getS2 X3 hx hZ hown (host := "") (Or.inl (hw _ (List.mem_of_getElem? (i := 9) rfl))) Via.refl e3 (pin_S2 P) (g := (mkF m 105 #[.val (.int p1), .val (.int p2), .val (.int (1 : Int32)), .val (.int (1 : Int32)), .val (.ref (w 3)), .val (.int (1 : Int32)), .val (.int (1 : Int32)), .unset, .unset] [(.ref (w 3))])) rfl (hb hby at_105)
  refine own_step (W' := T4.setTop (mkF m 108 #[.val (.int p1), .val (.int p2), .val (.int (1 : Int32)), .val (.int (1 : Int32)), .val (.ref (w 3)), .val (.int (1 : Int32)), .val (.int (1 : Int32)), .unset, .unset] [(.ref (w 2)), (.ref (w 3))])) (fun _ k => st4 _ k) ?_
  refine own_step (W' := T4.setTop (mkF m 115 #[.val (.int p1), .val (.int p2), .val (.int (1 : Int32)), .val (.int (1 : Int32)), .val (.ref (w 3)), .val (.int (1 : Int32)), .val (.int (1 : Int32)), .unset, .unset] [])) (fun _ k => Jvm.RoadKit.acmp (g := (mkF m 108 #[.val (.int p1), .val (.int p2), .val (.int (1 : Int32)), .val (.int (1 : Int32)), .val (.ref (w 3)), .val (.int (1 : Int32)), .val (.int (1 : Int32)), .unset, .unset] [(.ref (w 2)), (.ref (w 3))])) X4 hx rfl rfl rfl (pc0 := 108) (pc' := 115) (same := false) rfl (hb hby at_108) rfl (decide_eq_false fun q => (Fld.ne (pin_F3_ordinal P) (pin_F2_ordinal P) (by decide)) (Value.ref.inj q)) (by decide) (by decide) k) ?_
  refine own_step (W' := T4.setTop (mkF m 116 #[.val (.int p1), .val (.int p2), .val (.int (1 : Int32)), .val (.int (1 : Int32)), .val (.ref (w 3)), .val (.int (1 : Int32)), .val (.int (1 : Int32)), .unset, .unset] [(.int (0 : Int32))])) (fun _ k => XS.iconst X4.here hx rfl (hb hby at_115) k) ?_
  refine own_step (W' := T4.setTop (mkF m 117 #[.val (.int p1), .val (.int p2), .val (.int (1 : Int32)), .val (.int (1 : Int32)), .val (.ref (w 3)), .val (.int (1 : Int32)), .val (.int (1 : Int32)), .unset, .unset] [(.int (1 : Int32)), (.int (0 : Int32))])) (fun _ k => XS.iloadN X4.here hx rfl (hb hby at_116) rfl k) ?_
  refine own_step (W' := T4.setTop (mkF m 120 #[.val (.int p1), .val (.int p2), .val (.int (1 : Int32)), .val (.int (1 : Int32)), .val (.ref (w 3)), .val (.int (1 : Int32)), .val (.int (1 : Int32)), .unset, .unset] [(.int (0 : Int32))])) (fun _ k => XS.ifNo X4.here hx rfl (hb hby at_117) rfl (by decide) k) ?_
  refine own_step (W' := T4.setTop (mkF m 121 #[.val (.int p1), .val (.int p2), .val (.int (1 : Int32)), .val (.int (1 : Int32)), .val (.ref (w 3)), .val (.int (1 : Int32)), .val (.int (1 : Int32)), .unset, .unset] [(.int (1 : Int32)), (.int (0 : Int32))])) (fun _ k => XS.iloadN X4.here hx rfl (hb hby at_120) rfl k) ?_
  refine own_step (W' := T4.setTop (mkF m 128 #[.val (.int p1), .val (.int p2), .val (.int (1 : Int32)), .val (.int (1 : Int32)), .val (.ref (w 3)), .val (.int (1 : Int32)), .val (.int (1 : Int32)), .unset, .unset] [(.int (0 : Int32))])) (fun _ k => XS.ifYes X4.here hx rfl (pc0 := 121) (pc' := 128) rfl (hb hby at_121) rfl (by decide) (by decide) (by decide) k) ?_
  refine own_step (W' := T4.setTop (mkF m 129 #[.val (.int p1), .val (.int p2), .val (.int (1 : Int32)), .val (.int (1 : Int32)), .val (.ref (w 3)), .val (.int (1 : Int32)), .val (.int (1 : Int32)), .unset, .unset] [(.int (0 : Int32)), (.int (0 : Int32))])) (fun _ k => XS.iconst X4.here hx rfl (hb hby at_128) k) ?_
  refine own_step (W' := T4.setTop (mkF m 132 #[.val (.int p1), .val (.int p2), .val (.int (1 : Int32)), .val (.int (1 : Int32)), .val (.ref (w 3)), .val (.int (1 : Int32)), .val (.int (1 : Int32)), .unset, .unset] [])) (fun _ k => XS.icmpNo X4.here hx rfl (hb hby at_129) rfl (by decide) k) ?_
  refine own_step (W' := T4.setTop (mkF m 133 #[.val (.int p1), .val (.int p2), .val (.int (1 : Int32)), .val (.int (1 : Int32)), .val (.ref (w 3)), .val (.int (1 : Int32)), .val (.int (1 : Int32)), .unset, .unset] [(.int (1 : Int32))])) (fun _ k => XS.iconst X4.here hx rfl (hb hby at_132) k) ?_
  refine own_step (W' := T4.setTop (mkF m 137 #[.val (.int p1), .val (.int p2), .val (.int (1 : Int32)), .val (.int (1 : Int32)), .val (.ref (w 3)), .val (.int (1 : Int32)), .val (.int (1 : Int32)), .unset, .unset] [(.int (1 : Int32))])) (fun _ k => XS.goto X4.here hx rfl (pc0 := 133) (pc' := 137) rfl (hb hby at_133) (by decide) (by decide) k) ?_
  refine own_step (W' := T4.setTop (mkF m 139 #[.val (.int p1), .val (.int p2), .val (.int (1 : Int32)), .val (.int (1 : Int32)), .val (.ref (w 3)), .val (.int (1 : Int32)), .val (.int (1 : Int32)), .val (.int (1 : Int32)), .unset] [])) (fun _ k => XS.istore X4.here hx rfl (hb hby at_137) rfl (l' := #[.val (.int p1), .val (.int p2), .val (.int (1 : Int32)), .val (.int (1 : Int32)), .val (.ref (w 3)), .val (.int (1 : Int32)), .val (.int (1 : Int32)), .val (.int (1 : Int32)), .unset]) rfl k) ?_
  refine own_step (W' := T4.setTop (mkF m 141 #[.val (.int p1), .val (.int p2), .val (.int (1 : Int32)), .val (.int (1 : Int32)), .val (.ref (w 3)), .val (.int (1 : Int32)), .val (.int (1 : Int32)), .val (.int (1 : Int32)), .unset] [(.ref (w 3))])) (fun _ k => XS.aload X4.here hx rfl (hb hby at_139) rfl rfl k) ?_
  obtain ⟨T5, X5, e5, st5⟩ := getS2 X4 hx hZ hown (host := "") (Or.inl (hw _ (List.mem_of_getElem? (i := 11) rfl))) Via.refl e4 (pin_S3 P) (g := (mkF m 141 #[.val (.int p1), .val (.int p2), .val (.int (1 : Int32)), .val (.int (1 : Int32)), .val (.ref (w 3)), .val (.int (1 : Int32)), .val (.int (1 : Int32)), .val (.int (1 : Int32)), .unset] [(.ref (w 3))])) rfl (hb hby at_141)
  refine own_step (W' := T5.setTop (mkF m 144 #[.val (.int p1), .val (.int p2), .val (.int (1 : Int32)), .val (.int (1 : Int32)), .val (.ref (w 3)), .val (.int (1 : Int32)), .val (.int (1 : Int32)), .val (.int (1 : Int32)), .unset] [(.ref (w 3)), (.ref (w 3))])) (fun _ k => st5 _ k) ?_
  refine own_step (W' := T5.setTop (mkF m 147 #[.val (.int p1), .val (.int p2), .val (.int (1 : Int32)), .val (.int (1 : Int32)), .val (.ref (w 3)), .val (.int (1 : Int32)), .val (.int (1 : Int32)), .val (.int (1 : Int32)), .unset] [])) (fun _ k => Jvm.RoadKit.acmp (g := (mkF m 144 #[.val (.int p1), .val (.int p2), .val (.int (1 : Int32)), .val (.int (1 : Int32)), .val (.ref (w 3)), .val (.int (1 : Int32)), .val (.int (1 : Int32)), .val (.int (1 : Int32)), .unset] [(.ref (w 3)), (.ref (w 3))])) X5 hx rfl rfl rfl (pc0 := 144) (pc' := 147) (same := true) rfl (hb hby at_144) rfl (decide_eq_true rfl) (by decide) (by decide) k) ?_
  refine own_step (W' := T5.setTop (mkF m 148 #[.val (.int p1), .val (.int p2), .val (.int (1 : Int32)), .val (.int (1 : Int32)), .val (.ref (w 3)), .val (.int (1 : Int32)), .val (.int (1 : Int32)), .val (.int (1 : Int32)), .unset] [(.int (1 : Int32))])) (fun _ k => XS.iconst X5.here hx rfl (hb hby at_147) k) ?_
  refine own_step (W' := T5.setTop (mkF m 152 #[.val (.int p1), .val (.int p2), .val (.int (1 : Int32)), .val (.int (1 : Int32)), .val (.ref (w 3)), .val (.int (1 : Int32)), .val (.int (1 : Int32)), .val (.int (1 : Int32)), .unset] [(.int (1 : Int32))])) (fun _ k => XS.goto X5.here hx rfl (pc0 := 148) (pc' := 152) rfl (hb hby at_148) (by decide) (by decide) k) ?_
  refine own_step (W' := T5.setTop (mkF m 153 #[.val (.int p1), .val (.int p2), .val (.int (1 : Int32)), .val (.int (1 : Int32)), .val (.ref (w 3)), .val (.int (1 : Int32)), .val (.int (1 : Int32)), .val (.int (1 : Int32)), .unset] [(.int (1 : Int32)), (.int (1 : Int32))])) (fun _ k => XS.iloadN X5.here hx rfl (hb hby at_152) rfl k) ?_
  refine own_step (W' := T5.setTop (mkF m 156 #[.val (.int p1), .val (.int p2), .val (.int (1 : Int32)), .val (.int (1 : Int32)), .val (.ref (w 3)), .val (.int (1 : Int32)), .val (.int (1 : Int32)), .val (.int (1 : Int32)), .unset] [(.int (1 : Int32))])) (fun _ k => XS.ifNo X5.here hx rfl (hb hby at_153) rfl (by decide) k) ?_
  refine own_step (W' := T5.setTop (mkF m 157 #[.val (.int p1), .val (.int p2), .val (.int (1 : Int32)), .val (.int (1 : Int32)), .val (.ref (w 3)), .val (.int (1 : Int32)), .val (.int (1 : Int32)), .val (.int (1 : Int32)), .unset] [(.int (1 : Int32)), (.int (1 : Int32))])) (fun _ k => XS.iloadN X5.here hx rfl (hb hby at_156) rfl k) ?_
  refine own_step (W' := T5.setTop (mkF m 160 #[.val (.int p1), .val (.int p2), .val (.int (1 : Int32)), .val (.int (1 : Int32)), .val (.ref (w 3)), .val (.int (1 : Int32)), .val (.int (1 : Int32)), .val (.int (1 : Int32)), .unset] [(.int (1 : Int32))])) (fun _ k => XS.ifNo X5.here hx rfl (hb hby at_157) rfl (by decide) k) ?_
  refine own_step (W' := T5.setTop (mkF m 161 #[.val (.int p1), .val (.int p2), .val (.int (1 : Int32)), .val (.int (1 : Int32)), .val (.ref (w 3)), .val (.int (1 : Int32)), .val (.int (1 : Int32)), .val (.int (1 : Int32)), .unset] [(.int (1 : Int32)), (.int (1 : Int32))])) (fun _ k => XS.iconst X5.here hx rfl (hb hby at_160) k) ?_
  refine own_step (W' := T5.setTop (mkF m 165 #[.val (.int p1), .val (.int p2), .val (.int (1 : Int32)), .val (.int (1 : Int32)), .val (.ref (w 3)), .val (.int (1 : Int32)), .val (.int (1 : Int32)), .val (.int (1 : Int32)), .unset] [(.int (1 : Int32)), (.int (1 : Int32))])) (fun _ k => XS.goto X5.here hx rfl (pc0 := 161) (pc' := 165) rfl (hb hby at_161) (by decide) (by decide) k) ?_
  refine own_step (W' := T5.setTop (mkF m 168 #[.val (.int p1), .val (.int p2), .val (.int (1 : Int32)), .val (.int (1 : Int32)), .val (.ref (w 3)), .val (.int (1 : Int32)), .val (.int (1 : Int32)), .val (.int (1 : Int32)), .unset] [])) (fun _ k => XS.icmpNo X5.here hx rfl (hb hby at_165) rfl (by decide) k) ?_
  refine own_step (W' := T5.setTop (mkF m 169 #[.val (.int p1), .val (.int p2), .val (.int (1 : Int32)), .val (.int (1 : Int32)), .val (.ref (w 3)), .val (.int (1 : Int32)), .val (.int (1 : Int32)), .val (.int (1 : Int32)), .unset] [(.int (1 : Int32))])) (fun _ k => XS.iconst X5.here hx rfl (hb hby at_168) k) ?_
  refine own_step (W' := T5.setTop (mkF m 173 #[.val (.int p1), .val (.int p2), .val (.int (1 : Int32)), .val (.int (1 : Int32)), .val (.ref (w 3)), .val (.int (1 : Int32)), .val (.int (1 : Int32)), .val (.int (1 : Int32)), .unset] [(.int (1 : Int32))])) (fun _ k => XS.goto X5.here hx rfl (pc0 := 169) (pc' := 173) rfl (hb hby at_169) (by decide) (by decide) k) ?_
  refine own_step (W' := T5.setTop (mkF m 175 #[.val (.int p1), .val (.int p2), .val (.int (1 : Int32)), .val (.int (1 : Int32)), .val (.ref (w 3)), .val (.int (1 : Int32)), .val (.int (1 : Int32)), .val (.int (1 : Int32)), .val (.int (1 : Int32))] [])) (fun _ k => XS.istore X5.here hx rfl (hb hby at_173) rfl (l' := #[.val (.int p1), .val (.int p2), .val (.int (1 : Int32)), .val (.int (1 : Int32)), .val (.ref (w 3)), .val (.int (1 : Int32)), .val (.int (1 : Int32)), .val (.int (1 : Int32)), .val (.int (1 : Int32))]) rfl k) ?_
  refine own_step (W' := T5.setTop (mkF m 177 #[.val (.int p1), .val (.int p2), .val (.int (1 : Int32)), .val (.int (1 : Int32)), .val (.ref (w 3)), .val (.int (1 : Int32)), .val (.int (1 : Int32)), .val (.int (1 : Int32)), .val (.int (1 : Int32))] [(.int (1 : Int32))])) (fun _ k => XS.iload X5.here hx rfl (hb hby at_175) rfl k) ?_
  refine own_step (W' := T5.setTop (mkF m 180 #[.val (.int p1), .val (.int p2), .val (.int (1 : Int32)), .val (.int (1 : Int32)), .val (.ref (w 3)), .val (.int (1 : Int32)), .val (.int (1 : Int32)), .val (.int (1 : Int32)), .val (.int (1 : Int32))] [])) (fun _ k => XS.ifNo X5.here hx rfl (hb hby at_177) rfl (by decide) k) ?_
  refine own_step (W' := T5.setTop (mkF m 182 #[.val (.int p1), .val (.int p2), .val (.int (1 : Int32)), .val (.int (1 : Int32)), .val (.ref (w 3)), .val (.int (1 : Int32)), .val (.int (1 : Int32)), .val (.int (1 : Int32)), .val (.int (1 : Int32))] [(.int (1 : Int32))])) (fun _ k => XS.iload X5.here hx rfl (hb hby at_180) rfl k) ?_
  refine own_step (W' := T5.setTop (mkF m 185 #[.val (.int p1), .val (.int p2), .val (.int (1 : Int32)), .val (.int (1 : Int32)), .val (.ref (w 3)), .val (.int (1 : Int32)), .val (.int (1 : Int32)), .val (.int (1 : Int32)), .val (.int (1 : Int32))] [])) (fun _ k => XS.ifNo X5.here hx rfl (hb hby at_182) rfl (by decide) k) ?_
  refine own_step (W' := T5.setTop (mkF m 187 #[.val (.int p1), .val (.int p2), .val (.int (1 : Int32)), .val (.int (1 : Int32)), .val (.ref (w 3)), .val (.int (1 : Int32)), .val (.int (1 : Int32)), .val (.int (1 : Int32)), .val (.int (1 : Int32))] [(.int (1 : Int32))])) (fun _ k => XS.iload X5.here hx rfl (hb hby at_185) rfl k) ?_
  refine own_step (W' := T5.setTop (mkF m 190 #[.val (.int p1), .val (.int p2), .val (.int (1 : Int32)), .val (.int (1 : Int32)), .val (.ref (w 3)), .val (.int (1 : Int32)), .val (.int (1 : Int32)), .val (.int (1 : Int32)), .val (.int (1 : Int32))] [])) (fun _ k => XS.ifNo X5.here hx rfl (hb hby at_187) rfl (by decide) k) ?_
  refine own_step (W' := T5.setTop (mkF m 192 #[.val (.int p1), .val (.int p2), .val (.int (1 : Int32)), .val (.int (1 : Int32)), .val (.ref (w 3)), .val (.int (1 : Int32)), .val (.int (1 : Int32)), .val (.int (1 : Int32)), .val (.int (1 : Int32))] [(.int (1 : Int32))])) (fun _ k => XS.iload X5.here hx rfl (hb hby at_190) rfl k) ?_
  refine own_step (W' := T5.setTop (mkF m 195 #[.val (.int p1), .val (.int p2), .val (.int (1 : Int32)), .val (.int (1 : Int32)), .val (.ref (w 3)), .val (.int (1 : Int32)), .val (.int (1 : Int32)), .val (.int (1 : Int32)), .val (.int (1 : Int32))] [])) (fun _ k => XS.ifNo X5.here hx rfl (hb hby at_192) rfl (by decide) k) ?_
  refine own_step (W' := T5.setTop (mkF m 196 #[.val (.int p1), .val (.int p2), .val (.int (1 : Int32)), .val (.int (1 : Int32)), .val (.ref (w 3)), .val (.int (1 : Int32)), .val (.int (1 : Int32)), .val (.int (1 : Int32)), .val (.int (1 : Int32))] [(.int (1 : Int32))])) (fun _ k => XS.iconst X5.here hx rfl (hb hby at_195) k) ?_
  refine own_step (W' := T5.setTop (mkF m 200 #[.val (.int p1), .val (.int p2), .val (.int (1 : Int32)), .val (.int (1 : Int32)), .val (.ref (w 3)), .val (.int (1 : Int32)), .val (.int (1 : Int32)), .val (.int (1 : Int32)), .val (.int (1 : Int32))] [(.int (1 : Int32))])) (fun _ k => XS.goto X5.here hx rfl (pc0 := 196) (pc' := 200) rfl (hb hby at_196) (by decide) (by decide) k) ?_
  exact own_ret X5 Bd.notSynchronized Bd.returns (v := (.int (1 : Int32))) (fun fs hr => retN X5 hx (t := .boolean) Bd.returns (by simp) (hb hby at_200) hr) ⟨rfl, N1⟩ (by decide) (by decide)
theorem rm0 (l : Launch) (Z : State) (a0 : Array Value) (hw : ∀ d ∈ tables_1, d.before a0 Z = true) (ws : List Jvm.Cond) (p1 p2 : Int32) (w : Nat → Addr) (h0 : Heap) (n0 : Nat) (Z0 : n0 ≤ h0.size) (P : Pins Z h0 w) :
    MetFree l x (head1 (Jvm.Cond.code x code maxLocals ret :: ws) room_1) (fun a U => a = #[(.int p1), (.int p2)] ∧ Z.Warmed39 U.vm ∧ U.heap = h0) (fun _ _ _ _ _ => True) (fun _ U o U' => ∃ v L, o = .returned v ∧ own_Q0 n0 v U'.heap L ∧ FrameEnd U o U' L room_1.cells room_1.slots) := by
  rcases own_a2 p1 with ha | ha <;> rcases own_a2 p2 with hb' | hb'
  · exact rm0_00 l Z a0 hw ws p1 p2 ha hb' w h0 n0 Z0 P
  · exact rm0_01 l Z a0 hw ws p1 p2 ha hb' w h0 n0 Z0 P
  · exact rm0_10 l Z a0 hw ws p1 p2 ha hb' w h0 n0 Z0 P
  · exact rm0_11 l Z a0 hw ws p1 p2 ha hb' w h0 n0 Z0 P
set_option maxRecDepth 65536 in
set_option maxHeartbeats 40000000 in
theorem comes_1 {Post : Tables → Env → Array Value → State → Outcome → State → Prop} (hpost : ∀ tb e args s v u, (limb_1_1.after args s (.returned v) u = true ∧ limb_1_2.after args s (.returned v) u = true ∧ True) → FrameEnd s (.returned v) u (Jvm.fieldLocs frame_1_writes args s ++ Jvm.arrayLocs frame_1_arrays args s ++ Jvm.staticLocs frame_1_statics s) 0 0 → Post tb e args s (.returned v) u) :
    ArmFor flags0 classFile x code maxLocals ret World_1 tables_1 room_1 Calls_1 rest_1 Pre_1 Post := by
  intro l hfl _ _ p e ha hc hk s m args below hf hA hF happ hP
  obtain ⟨hcalls, hrest, hpre⟩ := hP
  obtain ⟨-, -, -, hnamed, -, -, -, hat⟩ := (Spec.applies_iff hf).mp happ
  obtain ⟨hg, hn⟩ := and_e (Cond.before_iff.mp (show (Jvm.Cond.and given_1 narrow_1).before args s = true from hpre))
  obtain ⟨gc, hg⟩ := and_e hg
  obtain ⟨w0, w1, rfl⟩ : ∃ w0 w1 : Value, args = #[w0, w1] := by
    have hs : args.size = 2 := by simpa [Cond.value, given_1] using gc
    obtain ⟨L⟩ := args
    match L, hs with
    | [w0, w1], _ => exact ⟨w0, w1, rfl⟩
  have hw := fun d (hd : d ∈ tables_1) => atoms_spec (ws := Jvm.Cond.code x code maxLocals ret :: tables_1) hat d (List.mem_cons_of_mem _ hd)
  obtain ⟨g0, hg⟩ := and_e hg
  obtain ⟨i0, ei0⟩ := is_v g0
  obtain rfl : w0 = (.int i0) := Option.some.inj ei0
  obtain ⟨i1, ei1⟩ := is_v hg
  obtain rfl : w1 = (.int i1) := Option.some.inj ei1
  obtain ⟨w, P⟩ := own_pins hw hn
  obtain ⟨n, o, h1, h2, h3, _, L, rfl, ⟨rfl, N⟩, hq⟩ := rm0 l s _ hw tables_1 i0 i1 w s.heap s.heap.size (Nat.le_refl _) P p e ha hc hk s m _ below hf ((Spec.applies_iff_loose hf).mp happ).1 ⟨rfl, State.Warmed39.refl s, rfl⟩ trivial
  refine ⟨n, _, h1, h2, h3, hpost _ _ _ _ _ _ ⟨Cond.after_iff.mpr rfl, Cond.after_iff.mpr (eq_i res_at (Term.int_eval (1)) rfl), trivial⟩ ⟨hq.1, hq.2.1, (hq.2.2.sift fun y hy => Or.inr (N y hy)).mono (by decide) (by decide)⟩⟩
theorem main_1_1 : Claimed_1_1 := comes_1 fun _ _ _ _ _ _ h hF => ⟨h.1, hF⟩
theorem main_1_2 : Claimed_1_2 := comes_1 fun _ _ _ _ _ _ h hF => ⟨h.2.1, hF⟩
end Jvm.Pilot.@@N@@
namespace Jvm.Pilot.@@N@@
open Jvm Jvm.ClassFile Sem Op Lib Jvm.Free Jvm.Stand Jvm.Pilot.@@N@@.Jvm.D
/-! MADE BY PROGRAM (witnessworld.py) out of the Statement's table words and the real class files: 12 classes; the members and pool entries that the words name. The judged class is class 1, her method 1. -/
namespace start1
open Jvm.ClassFile
def u (s : String) : CpInfo := .utf8 (stringToUtf16 s)
/-- a pool by its gaps: so many unusable entries, then the entry; so many at the end -/
def gap : Nat → List CpInfo → List CpInfo
  | 0, r => r
  | n + 1, r => .unusable :: gap n r
def poolList (es : List (Nat × CpInfo)) (last : Nat) : List CpInfo := es.foldr (fun e r => gap e.1 (e.2 :: r)) (gap last [])
def pool (es : List (Nat × CpInfo)) (last : Nat) : Array CpInfo := ⟨poolList es last⟩
def fileOf (pool : Array CpInfo) (this : Nat) (attrs : Array Attribute := #[]) (ms : Array MethodInfo := #[]) (fl : Nat := 33) (sup : Nat := 0) (ifs : Array Nat := #[]) (fds : Array FieldInfo := #[]) : ClassFile where
  minorVersion := 0
  majorVersion := 65
  constantPool := pool
  accessFlags := fl
  thisClass := this
  superClass := sup
  interfaces := ifs
  fields := fds
  methods := ms
  attributes := attrs
def plain (name : String) (sup : Option ClassId) : Class where
  name := name
  kind := .ordinary
  loader := none
  accessFlags := 33
  super := sup
  interfaces := #[]
  cf := none
  fields := #[]
  methods := #[]
  instanceTypes := #[]
  staticTypes := #[]
  resolved := #[]
  callSites := []
  init := .initialized
  statics := none
  mirror := none

def pool0 : Array CpInfo := pool [(5, u "<init>"), (0, u "()V"), (1, .class_ 10), (1, u "java/lang/Object")] 113

def k0m0 : Method := { name := "<init>", desc := "()V", sig := { parameters := [], returnType := none }, accessFlags := 1, code := none }
/-- java/lang/Object -/
def k0 : Class := { plain "java/lang/Object" none with
  accessFlags := 33
  interfaces := #[]
  cf := some (fileOf pool0 8 #[] #[{ accessFlags := 1, nameIndex := 5, descriptorIndex := 6, attributes := #[] }] 33 0 #[] #[])
  fields := #[]
  methods := #[k0m0]
  instanceTypes := #[]
  staticTypes := #[]
  resolved := Array.replicate 124 none
  statics := none }

def pool1 : Array CpInfo := pool [(2, .class_ 4), (1, u "java/lang/Object"), (0, u "<init>"), (0, u "()V"), (0, .methodref 8 9), (0, .class_ 10), (0, .nameAndType 11 12), (0, u "com/example/recital/recital/ClauseLabel$Style"), (0, u "of"), (0, u "(ZZ)Lcom/example/recital/recital/ClauseLabel$Style;"), (0, .fieldref 8 14), (0, .nameAndType 15 16), (0, u "LETTER"), (0, u "Lcom/example/recital/recital/ClauseLabel$Style;"), (0, .fieldref 8 18), (0, .nameAndType 19 16), (0, u "ROMAN"), (0, .fieldref 8 21), (0, .nameAndType 22 16), (0, u "CAPITAL"), (0, .fieldref 8 24), (0, .nameAndType 25 16), (0, u "CAPITAL_ROMAN"), (0, .class_ 27), (0, u "com/example/recital/recital/StyleOfPinLaw"), (2, u "law"), (0, u "(II)Z")] 7

def k1m0 : Method := { name := "<init>", desc := "()V", sig := { parameters := [], returnType := none }, accessFlags := 2, code := none }
def k1c1 : Code := { maxStack := 2, maxLocals := 9, code := code, exceptionTable := #[], attributes := #[] }
def k1m1 : Method := { name := "law", desc := "(II)Z", sig := { parameters := [.int, .int], returnType := some .boolean }, accessFlags := 9, code := some k1c1 }
/-- com/example/recital/recital/StyleOfPinLaw -/
def k1 : Class := { plain "com/example/recital/recital/StyleOfPinLaw" (some 0) with
  accessFlags := 49
  interfaces := #[]
  cf := some (fileOf pool1 26 #[] #[{ accessFlags := 2, nameIndex := 5, descriptorIndex := 6, attributes := #[] }, { accessFlags := 9, nameIndex := 30, descriptorIndex := 31, attributes := #[] }] 49 2 #[] #[])
  fields := #[]
  methods := #[k1m0, k1m1]
  instanceTypes := #[]
  staticTypes := #[]
  resolved := Array.replicate 39 none
  statics := none }

def pool2 : Array CpInfo := pool [(1, .class_ 2), (0, u "java/lang/constant/Constable"), (0, .class_ 4), (0, u "java/lang/Object")] 6

/-- java/lang/constant/Constable -/
def k2 : Class := { plain "java/lang/constant/Constable" (some 0) with
  accessFlags := 1537
  interfaces := #[]
  cf := some (fileOf pool2 1 #[] #[] 1537 3 #[] #[])
  fields := #[]
  methods := #[]
  instanceTypes := #[]
  staticTypes := #[]
  resolved := Array.replicate 11 none
  statics := none }

def pool3 : Array CpInfo := pool [(1, .class_ 2), (0, u "java/lang/Comparable"), (0, .class_ 4), (0, u "java/lang/Object")] 7

/-- java/lang/Comparable -/
def k3 : Class := { plain "java/lang/Comparable" (some 0) with
  accessFlags := 1537
  interfaces := #[]
  cf := some (fileOf pool3 1 #[] #[] 1537 3 #[] #[])
  fields := #[]
  methods := #[]
  instanceTypes := #[]
  staticTypes := #[]
  resolved := Array.replicate 12 none
  statics := none }

def pool4 : Array CpInfo := pool [(1, .class_ 2), (0, u "java/io/Serializable"), (0, .class_ 4), (0, u "java/lang/Object")] 2

/-- java/io/Serializable -/
def k4 : Class := { plain "java/io/Serializable" (some 0) with
  accessFlags := 1537
  interfaces := #[]
  cf := some (fileOf pool4 1 #[] #[] 1537 3 #[] #[])
  fields := #[]
  methods := #[]
  instanceTypes := #[]
  staticTypes := #[]
  resolved := Array.replicate 7 none
  statics := none }

def pool5 : Array CpInfo := pool [(2, .class_ 4), (1, u "java/lang/Enum"), (0, u "name"), (0, u "Ljava/lang/String;"), (2, u "ordinal"), (0, u "I"), (1, .class_ 14), (1, u "java/lang/Object"), (4, u "hash"), (86, .class_ 108), (1, u "java/lang/Enum$EnumDesc"), (2, .class_ 112), (0, u "java/lang/constant/Constable"), (0, .class_ 114), (0, u "java/lang/Comparable"), (0, .class_ 116), (0, u "java/io/Serializable")] 87

/-- java/lang/Enum -/
def k5 : Class := { plain "java/lang/Enum" (some 0) with
  accessFlags := 1057
  interfaces := #[2, 3, 4]
  cf := some (fileOf pool5 2 #[.nestMembers #[106]] #[] 1057 12 #[111, 113, 115] #[{ accessFlags := 18, nameIndex := 5, descriptorIndex := 6, attributes := #[] }, { accessFlags := 18, nameIndex := 9, descriptorIndex := 10, attributes := #[] }, { accessFlags := 2, nameIndex := 19, descriptorIndex := 10, attributes := #[] }])
  fields := #[{ name := "name", type := (.object "java/lang/String"), accessFlags := 18, slot := 0, constantValue := 0 }, { name := "ordinal", type := .int, accessFlags := 18, slot := 1, constantValue := 0 }, { name := "hash", type := .int, accessFlags := 2, slot := 2, constantValue := 0 }]
  methods := #[]
  instanceTypes := #[(.object "java/lang/String"), .int, .int]
  staticTypes := #[]
  resolved := Array.replicate 204 none
  statics := none }

def pool6 : Array CpInfo := pool [(1, .class_ 2), (0, u "com/example/recital/recital/ClauseLabel$Style"), (0, .fieldref 1 4), (0, .nameAndType 5 6), (0, u "LETTER"), (0, u "Lcom/example/recital/recital/ClauseLabel$Style;"), (0, .fieldref 1 8), (0, .nameAndType 9 6), (0, u "ROMAN"), (0, .fieldref 1 11), (0, .nameAndType 12 6), (0, u "CAPITAL"), (0, .fieldref 1 14), (0, .nameAndType 15 6), (0, u "CAPITAL_ROMAN"), (2, u "$VALUES"), (0, u "[Lcom/example/recital/recital/ClauseLabel$Style;"), (6, .class_ 28), (1, u "java/lang/Enum"), (8, u "upper"), (0, u "Z"), (2, u "roman"), (1, .class_ 45), (1, u "com/example/recital/recital/ClauseLabel"), (5, u "of"), (50, u "(ZZ)Lcom/example/recital/recital/ClauseLabel$Style;")] 40

def k6c0 : Code := { maxStack := 1, maxLocals := 2, code := prog_20_method_4_code, exceptionTable := #[], attributes := #[] }
def k6m0 : Method := { name := "of", desc := "(ZZ)Lcom/example/recital/recital/ClauseLabel$Style;", sig := { parameters := [.boolean, .boolean], returnType := some (.object "com/example/recital/recital/ClauseLabel$Style") }, accessFlags := 8, code := some k6c0 }
/-- com/example/recital/recital/ClauseLabel$Style -/
def k6 : Class := { plain "com/example/recital/recital/ClauseLabel$Style" (some 5) with
  accessFlags := 16432
  interfaces := #[]
  cf := some (fileOf pool6 1 #[.nestHost 43] #[{ accessFlags := 8, nameIndex := 51, descriptorIndex := 102, attributes := #[] }] 16432 26 #[] #[{ accessFlags := 16409, nameIndex := 5, descriptorIndex := 6, attributes := #[] }, { accessFlags := 16409, nameIndex := 9, descriptorIndex := 6, attributes := #[] }, { accessFlags := 16409, nameIndex := 12, descriptorIndex := 6, attributes := #[] }, { accessFlags := 16409, nameIndex := 15, descriptorIndex := 6, attributes := #[] }, { accessFlags := 18, nameIndex := 37, descriptorIndex := 38, attributes := #[] }, { accessFlags := 18, nameIndex := 41, descriptorIndex := 38, attributes := #[] }, { accessFlags := 4122, nameIndex := 18, descriptorIndex := 19, attributes := #[] }])
  fields := #[{ name := "LETTER", type := (.object "com/example/recital/recital/ClauseLabel$Style"), accessFlags := 16409, slot := 0, constantValue := 0 }, { name := "ROMAN", type := (.object "com/example/recital/recital/ClauseLabel$Style"), accessFlags := 16409, slot := 1, constantValue := 0 }, { name := "CAPITAL", type := (.object "com/example/recital/recital/ClauseLabel$Style"), accessFlags := 16409, slot := 2, constantValue := 0 }, { name := "CAPITAL_ROMAN", type := (.object "com/example/recital/recital/ClauseLabel$Style"), accessFlags := 16409, slot := 3, constantValue := 0 }, { name := "upper", type := .boolean, accessFlags := 18, slot := 3, constantValue := 0 }, { name := "roman", type := .boolean, accessFlags := 18, slot := 4, constantValue := 0 }, { name := "$VALUES", type := (.array (.object "com/example/recital/recital/ClauseLabel$Style")), accessFlags := 4122, slot := 4, constantValue := 0 }]
  methods := #[k6m0]
  instanceTypes := #[(.object "java/lang/String"), .int, .int, .boolean, .boolean]
  staticTypes := #[(.object "com/example/recital/recital/ClauseLabel$Style"), (.object "com/example/recital/recital/ClauseLabel$Style"), (.object "com/example/recital/recital/ClauseLabel$Style"), (.object "com/example/recital/recital/ClauseLabel$Style"), (.array (.object "com/example/recital/recital/ClauseLabel$Style"))]
  resolved := Array.replicate 143 none
  statics := some 0 }

def pool7 : Array CpInfo := pool [(1, u "java/lang/Cloneable"), (0, .class_ 1), (0, u "java/lang/Object"), (0, .class_ 3)] 3

/-- java/lang/Cloneable -/
def k7 : Class := { plain "java/lang/Cloneable" (some 0) with
  accessFlags := 1537
  interfaces := #[]
  cf := some (fileOf pool7 2 #[] #[] 1537 4 #[] #[])
  fields := #[]
  methods := #[]
  instanceTypes := #[]
  staticTypes := #[]
  resolved := Array.replicate 8 none
  statics := none }

/-- the primitive byte -/
def k8 : Class := { plain "byte" none with kind := .primitive 'B', accessFlags := 0x411 }
/-- [B -/
def k9 : Class := { plain "[B" (some 0) with kind := .array 8 .byte, interfaces := #[7, 4], accessFlags := 1041 }

/-- the primitive int -/
def k10 : Class := { plain "int" none with kind := .primitive 'I', accessFlags := 0x411 }
/-- [I -/
def k11 : Class := { plain "[I" (some 0) with kind := .array 10 .int, interfaces := #[7, 4], accessFlags := 1041 }

def heap : Heap := #[{ cls := 6, slots := #[.ref 2, .ref 1, .ref 3, .ref 4, .null], vm := .statics 6 },
  { cls := 6, slots := #[.null, .int 1, .int 0, .int 0, .int 0], vm := .none },
  { cls := 6, slots := #[.null, .int 0, .int 0, .int 0, .int 0], vm := .none },
  { cls := 6, slots := #[.null, .int 2, .int 0, .int 0, .int 0], vm := .none },
  { cls := 6, slots := #[.null, .int 3, .int 0, .int 0, .int 0], vm := .none }]
def classes : Array Class := #[k0, k1, k2, k3, k4, k5, k6, k7, k8, k9, k10, k11]
def interned : List (Array UInt16 × Addr) := []
def slotsUsed : Nat := 25
def theMethod : MethodId := ⟨1, 1⟩
def args0 : Array Value := #[.int 5, .int 6]
def aboutOver (below : List Frame) : State where
  vm := { classes := classes, interned := interned.toArray }
  heap := heap
  slotsUsed := slotsUsed
  threads := #[{ frames := .invoking theMethod args0 :: below }]
def below0 : List Frame := [.native { method := ⟨0, 0⟩, args := #[] }]
def about1 : State := aboutOver below0
def p0 : Program := .bare "" "" ""
def e0 : Env := launch0.env 0 0 0
theorem w_frames : about1.frames = Frame.invoking theMethod args0 :: below0 := rfl
set_option maxRecDepth 65536 in
theorem w_args : argsFit about1.vm theMethod args0 = true := by decide +kernel
set_option maxRecDepth 65536 in
theorem w_heap : heapFits about1 = true := by decide +kernel
set_option maxRecDepth 65536 in
theorem w_runnable : about1.curStatus? = some .runnable := by decide +kernel
set_option maxRecDepth 65536 in
theorem w_alone : about1.alone = true := by decide +kernel
set_option maxRecDepth 65536 in
theorem w_named : about1.methodNamed? x = some theMethod := by decide +kernel
set_option maxRecDepth 65536 in
theorem w_hears : about1.hears theMethod below0 = true := by decide +kernel
set_option maxRecDepth 65536 in
theorem w_ripe : about1.ripe theMethod args0 below0 = true := by decide +kernel
theorem w_running : about1.status = .running := rfl
set_option maxRecDepth 65536 in
theorem w_room : about1.hasRoom e0.platform room_1 = true :=
  launch0.hasRoom_least _ room_1 (by decide +kernel) (by decide +kernel) (by decide +kernel) (by decide +kernel) (by decide +kernel) (by decide +kernel)
theorem allAtoms_all (ts : List Jvm.Cond) (a : Array Jvm.Value) (st : Jvm.State) : (allAtoms ts).before a st = ts.all (fun c => c.before a st) := by
  induction ts with
  | nil => rfl
  | cons c t ih =>
    show (Jvm.Cond.and c (allAtoms t)).before a st = _
    rw [Jvm.Cond.before_and, ih, List.all_cons]
def words1 : List Jvm.Cond := Jvm.Cond.code x code maxLocals ret :: tables_1
/-- a 'code' word, met by the world's own term for the bytes: nothing is compared byte by byte -/
theorem code_word {y : MethodName} {bytes : ByteArray} {mx : Nat} {rt : Option FieldType} {a : Array Value} {s : State} {m : MethodId} {meth : Method} {c : Code} (h1 : s.methodNamed? y = some m) (h2 : s.vm.method? m = some meth) (h3 : meth.code = some c) (h4 : c.code = bytes)
    (h5 : (c.maxLocals == mx && c.exceptionTable.isEmpty && decide (c.maxStack ≤ mostOperands) && decide (meth.sig.returnType = rt) && !meth.locks && decide (parseMethodDescriptor y.desc = some meth.sig)) = true) : (Jvm.Cond.code y bytes mx rt).before a s = true := by
  simp only [Bool.and_eq_true, beq_iff_eq, Bool.not_eq_true', decide_eq_true_eq] at h5
  obtain ⟨⟨⟨⟨⟨g1, g2⟩, g3⟩, g4⟩, g5⟩, g6⟩ := h5
  simp [Cond.before, Cond.holds, Cond.value, h1, h2, h3, h4, g1, g2, g3, g4, g5, g6]
def isCode : Jvm.Cond → Bool
  | .code _ _ _ _ => true
  | _ => false
theorem all_split {L : List Jvm.Cond} {P : Jvm.Cond → Bool} (h1 : L.all (fun c => isCode c || P c) = true) (h2 : ∀ c ∈ L.filter isCode, P c = true) : L.all P = true := by
  refine List.all_eq_true.mpr fun c hc => ?_
  have h := List.all_eq_true.mp h1 c hc
  rcases Bool.eq_false_or_eq_true (isCode c) with hi | hi
  · exact h2 c (List.mem_filter.mpr ⟨hc, hi⟩)
  · simpa [hi] using h
set_option maxRecDepth 65536 in
theorem w_c0 : (Jvm.Cond.code x code maxLocals ret).before args0 about1 = true := code_word (m := ⟨1, 1⟩) (meth := k1m1) (c := k1c1) (by decide +kernel) rfl rfl rfl (by decide +kernel)
set_option maxRecDepth 65536 in
theorem w_c1 : (Jvm.Cond.code ({ cls := "com/example/recital/recital/ClauseLabel$Style", name := "of", desc := "(ZZ)Lcom/example/recital/recital/ClauseLabel$Style;" } : Jvm.MethodName) prog_20_method_4_code (2 : Nat) (Option.some (Jvm.ClassFile.FieldType.object "com/example/recital/recital/ClauseLabel$Style"))).before args0 about1 = true := code_word (m := ⟨6, 0⟩) (meth := k6m0) (c := k6c0) (by decide +kernel) rfl rfl rfl (by decide +kernel)
def codes1 : List Jvm.Cond := [Jvm.Cond.code x code maxLocals ret, Jvm.Cond.code ({ cls := "com/example/recital/recital/ClauseLabel$Style", name := "of", desc := "(ZZ)Lcom/example/recital/recital/ClauseLabel$Style;" } : Jvm.MethodName) prog_20_method_4_code (2 : Nat) (Option.some (Jvm.ClassFile.FieldType.object "com/example/recital/recital/ClauseLabel$Style"))]
set_option maxRecDepth 65536 in
theorem codes_eq : words1.filter isCode = codes1 := rfl
theorem w_codes : ∀ c ∈ words1.filter isCode, c.before args0 about1 = true := by
  rw [codes_eq]
  intro c hc
  simp only [codes1, List.mem_cons, List.not_mem_nil, or_false] at hc
  rcases hc with rfl | rfl
  · exact w_c0
  · exact w_c1
set_option maxRecDepth 65536 in
theorem w_t1 : words1.all (fun c => isCode c || c.before args0 about1) = true := by decide +kernel
theorem w_tables : (allAtoms (Jvm.Cond.code x code maxLocals ret :: tables_1)).before args0 about1 = true := by
  rw [allAtoms_all]
  show words1.all (fun c => c.before args0 about1) = true
  refine all_split ?_ w_codes
  rw [w_t1]
set_option maxRecDepth 65536 in
theorem w_case : (Jvm.Cond.and given_1 narrow_1).before args0 about1 = true := by decide +kernel
theorem w_applies : (headSpec (Jvm.Cond.code x code maxLocals ret :: tables_1) room_1).applies x e0.platform about1 = true :=
  (Spec.applies_iff w_frames).mpr ⟨w_running, w_runnable, w_alone, w_named, w_hears, w_ripe, w_room, w_tables⟩
theorem atStart : AtStart classFile x code maxLocals ret World_1 tables_1 room_1 Calls_1 rest_1 Pre_1 launch0 p0 e0 about1 theMethod args0 below0 :=
  ⟨lists_1, trivial, launch0.admits_env _ _ _, launch0.least_env, fairChoices_fair.cas, fairChoices_fair.clock, w_frames, w_args, w_heap, w_applies, trivial, trivial, w_case⟩
end start1
theorem witness_1 : WitnessClaimed_1 := ⟨start1.p0, start1.e0, start1.about1, start1.theMethod, start1.args0, start1.below0, start1.atStart⟩
end Jvm.Pilot.@@N@@
