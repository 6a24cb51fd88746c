import JvmDerived
import JvmDerived.Pilot.@@N@@Statement
import JvmDerived.Pilot.@@N@@Code
set_option linter.unusedVariables false
set_option linter.unusedSimpArgs false
namespace Jvm.Pilot.@@N@@
open Jvm Jvm.ClassFile Sem Op Lib Jvm.Free Jvm.Stand Jvm.LawKit Jvm.RoadKit Bundle Jvm.Pilot.@@N@@.Jvm.D
theorem wd {d : Jvm.Cond} (i : Nat) (h : tables_1[i]? = some d) : d ∈ tables_1 := List.mem_of_getElem? h
def Go (tb : Tables) (e : Env) (below : List Frame) (S0 S : State) : Prop := ∀ t, Steps tb e below S t → Steps tb e below S0 t
theorem own_old_le {Z : State} {n0 : Nat} {h : Heap} (O : Old Z n0 h) : n0 ≤ h.size := O.1 ▸ O.2.1
theorem own_lcmp_self (x : Int64) : lcmpW x x = 0 := by rw [lcW, lc_eq]
theorem own_ne {Z : State} {h : Heap} {a b : Addr} {C n d : String} {i j : Int32} (F : Fld Z h a C n d (.int i)) (G : Fld Z h b C n d (.int j)) (q : i ≠ j) : a ≠ b := F.ne G fun e => q (Value.int.inj e)
theorem own_narrow_ref {v : Value} {n : String} (h : v.isRef = true) : narrow (.object n) v = v := by rcases ref_cases h with rfl | ⟨_, rfl⟩ <;> rfl
theorem own_fits_ref {v : Value} {n : String} (h : v.isRef = true) : fits (.object n) v = true := by rcases ref_cases h with rfl | ⟨_, rfl⟩ <;> rfl
theorem own_narrow_bool {z : Int32} (h : z = 0 ∨ z = 1) : narrow .boolean (.int z) = .int z := by rcases h with rfl | rfl <;> rfl
theorem own_fits_bool {z : Int32} (h : z = 0 ∨ z = 1) : fits .boolean (.int z) = true := by rcases h with rfl | rfl <;> rfl
def QV (w : Option Value) (h0 : Heap) (n0 : Nat) (v : Option Value) (h : Heap) (L : List Loc) : Prop := v = w ∧ Fr n0 L ∧ h = h0
def Q0 (n0 : Nat) (v : Option Value) (h : Heap) (L : List Loc) : Prop := v = some (.int (1 : Int32)) ∧ Fr n0 L
abbrev y_0 : MethodName := ⟨"com/example/theseus/theseus/engine/Outcome", "needsReason", "()Z"⟩
theorem d1_0 : decode prog_41_method_8_code 0 = .ok (.aload_n 0, 1) := by decide +kernel
theorem d1_1 : decode prog_41_method_8_code 1 = .ok (.getstatic 13, 3) := by decide +kernel
theorem d1_4 : decode prog_41_method_8_code 4 = .ok (.if_acmp .eq 17, 3) := by decide +kernel
theorem d1_7 : decode prog_41_method_8_code 7 = .ok (.aload_n 0, 1) := by decide +kernel
theorem d1_8 : decode prog_41_method_8_code 8 = .ok (.getstatic 10, 3) := by decide +kernel
theorem d1_11 : decode prog_41_method_8_code 11 = .ok (.if_acmp .eq 10, 3) := by decide +kernel
theorem d1_14 : decode prog_41_method_8_code 14 = .ok (.aload_n 0, 1) := by decide +kernel
theorem d1_15 : decode prog_41_method_8_code 15 = .ok (.getstatic 19, 3) := by decide +kernel
theorem d1_18 : decode prog_41_method_8_code 18 = .ok (.if_acmp .ne 7, 3) := by decide +kernel
theorem d1_21 : decode prog_41_method_8_code 21 = .ok (.iconst 1, 1) := by decide +kernel
theorem d1_22 : decode prog_41_method_8_code 22 = .ok (.goto 4, 3) := by decide +kernel
theorem d1_25 : decode prog_41_method_8_code 25 = .ok (.iconst 0, 1) := by decide +kernel
theorem d1_26 : decode prog_41_method_8_code 26 = .ok (.ireturn, 1) := by decide +kernel
theorem pn_0 : plainName "com/example/theseus/theseus/engine/Outcome" = true := by first | (simp [plainName, overriddenIn]; done) | decide +kernel
theorem pn_1 : plainName "com/example/theseus/theseus/engine/OutcomeNeedsReasonPinLaw" = true := by first | (simp [plainName, overriddenIn]; done) | decide +kernel
theorem pd_0 : parseMethodDescriptor "()Z" = some ⟨[], some .boolean⟩ := by decide +kernel
theorem own_cases_6 {y : Int32} (h0 : 0 ≤ y.toInt) (h1 : y.toInt < 6) : y = 0 ∨ y = 1 ∨ y = 2 ∨ y = 3 ∨ y = 4 ∨ y = 5 := by
  have h : y.toInt = 0 ∨ y.toInt = 1 ∨ y.toInt = 2 ∨ y.toInt = 3 ∨ y.toInt = 4 ∨ y.toInt = 5 := by omega
  rcases h with h | h | h | h | h | h
  · exact (Or.inl (Int32.toInt_inj.mp (h.trans (show (0 : Int) = (0 : Int32).toInt from by decide))))
  · exact (Or.inr (Or.inl (Int32.toInt_inj.mp (h.trans (show (1 : Int) = (1 : Int32).toInt from by decide)))))
  · exact (Or.inr (Or.inr (Or.inl (Int32.toInt_inj.mp (h.trans (show (2 : Int) = (2 : Int32).toInt from by decide))))))
  · exact (Or.inr (Or.inr (Or.inr (Or.inl (Int32.toInt_inj.mp (h.trans (show (3 : Int) = (3 : Int32).toInt from by decide)))))))
  · exact (Or.inr (Or.inr (Or.inr (Or.inr (Or.inl (Int32.toInt_inj.mp (h.trans (show (4 : Int) = (4 : Int32).toInt from by decide))))))))
  · exact (Or.inr (Or.inr (Or.inr (Or.inr (Or.inr (Int32.toInt_inj.mp (h.trans (show (5 : Int) = (5 : Int32).toInt from by decide))))))))
theorem own_rem_6 (x : Int32) : (x &&& 2147483647) % 6 = 0 ∨ (x &&& 2147483647) % 6 = 1 ∨ (x &&& 2147483647) % 6 = 2 ∨ (x &&& 2147483647) % 6 = 3 ∨ (x &&& 2147483647) % 6 = 4 ∨ (x &&& 2147483647) % 6 = 5 := by
  have h := c_and x 2147483647 (by decide)
  have e : (6 : Int32).toInt = 6 := by decide
  have q := (c_iremV (x &&& 2147483647) 6).1 h.1 (by omega)
  exact own_cases_6 q.1 (by omega)
def Own (Z : State) (a_SUCCESS a_FAIL a_RETRY a_CANCELLED a_PARTIAL_SUCCESS a_SKIPPED : Addr) : Prop := Sta Z Z.heap "com/example/theseus/theseus/engine/Outcome" "SUCCESS" "Lcom/example/theseus/theseus/engine/Outcome;" (.ref a_SUCCESS) ∧ Exa Z Z.heap a_SUCCESS "com/example/theseus/theseus/engine/Outcome" ∧ Sta Z Z.heap "com/example/theseus/theseus/engine/Outcome" "FAIL" "Lcom/example/theseus/theseus/engine/Outcome;" (.ref a_FAIL) ∧ Exa Z Z.heap a_FAIL "com/example/theseus/theseus/engine/Outcome" ∧ Sta Z Z.heap "com/example/theseus/theseus/engine/Outcome" "RETRY" "Lcom/example/theseus/theseus/engine/Outcome;" (.ref a_RETRY) ∧ Exa Z Z.heap a_RETRY "com/example/theseus/theseus/engine/Outcome" ∧ Sta Z Z.heap "com/example/theseus/theseus/engine/Outcome" "CANCELLED" "Lcom/example/theseus/theseus/engine/Outcome;" (.ref a_CANCELLED) ∧ Exa Z Z.heap a_CANCELLED "com/example/theseus/theseus/engine/Outcome" ∧ Sta Z Z.heap "com/example/theseus/theseus/engine/Outcome" "PARTIAL_SUCCESS" "Lcom/example/theseus/theseus/engine/Outcome;" (.ref a_PARTIAL_SUCCESS) ∧ Exa Z Z.heap a_PARTIAL_SUCCESS "com/example/theseus/theseus/engine/Outcome" ∧ Sta Z Z.heap "com/example/theseus/theseus/engine/Outcome" "SKIPPED" "Lcom/example/theseus/theseus/engine/Outcome;" (.ref a_SKIPPED) ∧ Exa Z Z.heap a_SKIPPED "com/example/theseus/theseus/engine/Outcome" ∧ Fld Z Z.heap a_SUCCESS "java/lang/Enum" "ordinal" "I" (.int 0) ∧ Fld Z Z.heap a_FAIL "java/lang/Enum" "ordinal" "I" (.int 3) ∧ Fld Z Z.heap a_RETRY "java/lang/Enum" "ordinal" "I" (.int 2) ∧ Fld Z Z.heap a_CANCELLED "java/lang/Enum" "ordinal" "I" (.int 5) ∧ Fld Z Z.heap a_PARTIAL_SUCCESS "java/lang/Enum" "ordinal" "I" (.int 1) ∧ Fld Z Z.heap a_SKIPPED "java/lang/Enum" "ordinal" "I" (.int 4)
theorem own_fld {args : Array Value} {s : State} {t : Term} {C n d : String} {a : Addr} {k : Int32} (ev : t.eval args s none [] s = some (.ref a)) (h : (Jvm.Cond.eq (.field t C n d) (.int k)).value args s none s [] = some true) : Fld s s.heap a C n d (.int k) := by
  refine Fld.start ?_
  obtain ⟨u, w, h1, h2, h3, h4⟩ := cmp_v (Or.inl h)
  have e2 : w = .int k := (Option.some.inj h2).symm
  subst e2
  obtain ⟨z, rfl⟩ := h4
  rw [fld_at ev] at h1
  rw [h1]
  have q : (Jvm.Cond.eq (.field t C n d) (.int k)).value args s none s [] = some (decide (z = k)) := by simp [Cond.value, Term.eval, ev, h1]
  have := gotT q h
  rw [this]
set_option maxRecDepth 65536 in
set_option maxHeartbeats 40000000 in
theorem nr_0 (l : Launch) (Z : State) (a0 : Array Value) (hw : ∀ d ∈ tables_1, d.before a0 Z = true) (ws : List Jvm.Cond) (a_SUCCESS a_FAIL a_RETRY a_CANCELLED a_PARTIAL_SUCCESS a_SKIPPED : Addr) (G : Own Z a_SUCCESS a_FAIL a_RETRY a_CANCELLED a_PARTIAL_SUCCESS a_SKIPPED)  (h0 : Heap) (n0 : Nat) (O0 : Old Z n0 h0)  :
    MetFree l y_0 (head1 (Jvm.Cond.code y_0 prog_41_method_8_code 1 (some .boolean) :: ws) ({ frames := 0, cells := 0, slots := 0, locals := 0 } : Room)) (fun a U => a = #[(.ref a_SUCCESS)] ∧ Z.Warmed39 U.vm ∧ U.heap = h0) (fun _ _ _ _ _ => True) (fun _ U o U' => ∃ v L, o = .returned v ∧ QV (some (.int 0)) h0 n0 v U'.heap L ∧ FrameEnd U o U' L ({ frames := 0, cells := 0, slots := 0, locals := 0 } : Room).cells ({ frames := 0, cells := 0, slots := 0, locals := 0 } : Room).slots) := by
  refine MetFree.of_bodySF (plainFor_of_name pn_0) hisR ?_
  intro p e s m args below meth c s₁ Bd hml0 hP hK
  obtain ⟨rfl, hZ, hh⟩ := hP
  have hx := Bd.exec
  have hby := Bd.bytes
  have hml : c.maxLocals = 1 := hml0
  have hown : s.vm.findClass "com/example/theseus/theseus/engine/Outcome" = some m.cls := findClass_of_methodNamed Bd.named
  have hnm := (name_of_methodNamed Bd.named Bd.method).1
  have X0 : Stand p l e ({ frames := 0, cells := 0, slots := 0, locals := 0 } : Room) s m #[(.ref a_SUCCESS)] below meth c s₁ [] 0 0 := Stand.of_body Bd
  have e0 : s₁.heap = h0 := by rw [← hh, Bd.state]; rfl
  have N0 := Fr.nil n0
  have K0 := Keep.refl h0 []
  have k0 : Go p.tables e below (s₁.setTop (entryFrame m #[(.ref a_SUCCESS)] 1)) (s₁.setTop (mkF m 0 #[rv a_SUCCESS] [])) := fun t k => castTop (by first | rfl | (simp [entryFrame, mkF, argsToLocals, Value.category]; done)) k
  have ⟨S_SUCCESS, E_SUCCESS, S_FAIL, E_FAIL, S_RETRY, E_RETRY, S_CANCELLED, E_CANCELLED, S_PARTIAL_SUCCESS, E_PARTIAL_SUCCESS, S_SKIPPED, E_SKIPPED, R_SUCCESS_ordinal, R_FAIL_ordinal, R_RETRY_ordinal, R_CANCELLED_ordinal, R_PARTIAL_SUCCESS_ordinal, R_SKIPPED_ordinal⟩ := G
  have k_1 : Go p.tables e below (s₁.setTop (entryFrame m #[(.ref a_SUCCESS)] 1)) (s₁.setTop (mkF m 1 #[rv a_SUCCESS] [(.ref a_SUCCESS)])) := fun t q => by
    refine k0 t ?_
    refine XS.aloadN X0.here hx rfl (hb hby d1_0) rfl rfl ?_
    show Steps _ _ _ (s₁.setTop (mkF m 1 #[rv a_SUCCESS] [(.ref a_SUCCESS)])) _
    exact q
  obtain ⟨T2, X2, e2, st2⟩ := getS2 X0 hx hZ hown (host := "") (Or.inl (hw _ (wd 9 rfl))) Via.refl e0 (S_FAIL.ext O0.2) (g := (mkF m 1 #[rv a_SUCCESS] [(.ref a_SUCCESS)])) rfl (hb hby d1_1)
  have k_3 : Go p.tables e below (s₁.setTop (entryFrame m #[(.ref a_SUCCESS)] 1)) (T2.setTop (mkF m 8 #[rv a_SUCCESS] [(.ref a_SUCCESS)])) := fun t q => by
    refine k_1 t ?_
    refine st2 _ ?_
    show Steps _ _ _ (T2.setTop (mkF m 4 #[rv a_SUCCESS] [(.ref a_FAIL), (.ref a_SUCCESS)])) _
    refine Jvm.RoadKit.acmp (g := (mkF m 4 #[rv a_SUCCESS] [(.ref a_FAIL), (.ref a_SUCCESS)])) X2 hx rfl rfl rfl (pc0 := 4) (pc' := 7) (same := false) rfl (hb hby d1_4) rfl (decide_eq_false fun q => (own_ne R_SUCCESS_ordinal R_FAIL_ordinal (by decide)) (Value.ref.inj q)) (by decide) (by decide) ?_
    show Steps _ _ _ (T2.setTop (mkF m 7 #[rv a_SUCCESS] [])) _
    refine XS.aloadN X2.here hx rfl (hb hby d1_7) rfl rfl ?_
    show Steps _ _ _ (T2.setTop (mkF m 8 #[rv a_SUCCESS] [(.ref a_SUCCESS)])) _
    exact q
  obtain ⟨T4, X4, e4, st4⟩ := getS2 X2 hx hZ hown (host := "") (Or.inl (hw _ (wd 11 rfl))) Via.refl e2 (S_RETRY.ext O0.2) (g := (mkF m 8 #[rv a_SUCCESS] [(.ref a_SUCCESS)])) rfl (hb hby d1_8)
  have k_5 : Go p.tables e below (s₁.setTop (entryFrame m #[(.ref a_SUCCESS)] 1)) (T4.setTop (mkF m 15 #[rv a_SUCCESS] [(.ref a_SUCCESS)])) := fun t q => by
    refine k_3 t ?_
    refine st4 _ ?_
    show Steps _ _ _ (T4.setTop (mkF m 11 #[rv a_SUCCESS] [(.ref a_RETRY), (.ref a_SUCCESS)])) _
    refine Jvm.RoadKit.acmp (g := (mkF m 11 #[rv a_SUCCESS] [(.ref a_RETRY), (.ref a_SUCCESS)])) X4 hx rfl rfl rfl (pc0 := 11) (pc' := 14) (same := false) rfl (hb hby d1_11) rfl (decide_eq_false fun q => (own_ne R_SUCCESS_ordinal R_RETRY_ordinal (by decide)) (Value.ref.inj q)) (by decide) (by decide) ?_
    show Steps _ _ _ (T4.setTop (mkF m 14 #[rv a_SUCCESS] [])) _
    refine XS.aloadN X4.here hx rfl (hb hby d1_14) rfl rfl ?_
    show Steps _ _ _ (T4.setTop (mkF m 15 #[rv a_SUCCESS] [(.ref a_SUCCESS)])) _
    exact q
  obtain ⟨T6, X6, e6, st6⟩ := getS2 X4 hx hZ hown (host := "") (Or.inl (hw _ (wd 13 rfl))) Via.refl e4 (S_CANCELLED.ext O0.2) (g := (mkF m 15 #[rv a_SUCCESS] [(.ref a_SUCCESS)])) rfl (hb hby d1_15)
  have k_7 : Go p.tables e below (s₁.setTop (entryFrame m #[(.ref a_SUCCESS)] 1)) (T6.setTop (mkF m 26 #[rv a_SUCCESS] [(.int 0)])) := fun t q => by
    refine k_5 t ?_
    refine st6 _ ?_
    show Steps _ _ _ (T6.setTop (mkF m 18 #[rv a_SUCCESS] [(.ref a_CANCELLED), (.ref a_SUCCESS)])) _
    refine Jvm.RoadKit.acmp (g := (mkF m 18 #[rv a_SUCCESS] [(.ref a_CANCELLED), (.ref a_SUCCESS)])) X6 hx rfl rfl rfl (pc0 := 18) (pc' := 25) (same := false) rfl (hb hby d1_18) rfl (decide_eq_false fun q => (own_ne R_SUCCESS_ordinal R_CANCELLED_ordinal (by decide)) (Value.ref.inj q)) (by decide) (by decide) ?_
    show Steps _ _ _ (T6.setTop (mkF m 25 #[rv a_SUCCESS] [])) _
    refine XS.iconst X6.here hx rfl (hb hby d1_25) ?_
    show Steps _ _ _ (T6.setTop (mkF m 26 #[rv a_SUCCESS] [(.int 0)])) _
    exact q
  obtain ⟨fs, hr, hrun, hended, hW, hsame⟩ := X6.leave (v := some (.int 0)) (fun h => by rw [Bd.returns] at h; cases h)
  refine ⟨_, _, k_7 _ ?_, hrun, hended, _, _, rfl, ?_, ⟨_, rfl⟩, hW, hsame.mono (by decide) (by decide)⟩
  · exact retN X6 hx (t := .boolean) Bd.returns (by simp) (hb hby d1_26) hr
  · show QV (some (.int 0)) h0 n0 _ T6.heap _
    rw [e6]
    exact ⟨rfl, N0, rfl⟩
set_option maxRecDepth 65536 in
set_option maxHeartbeats 40000000 in
theorem nr_1 (l : Launch) (Z : State) (a0 : Array Value) (hw : ∀ d ∈ tables_1, d.before a0 Z = true) (ws : List Jvm.Cond) (a_SUCCESS a_FAIL a_RETRY a_CANCELLED a_PARTIAL_SUCCESS a_SKIPPED : Addr) (G : Own Z a_SUCCESS a_FAIL a_RETRY a_CANCELLED a_PARTIAL_SUCCESS a_SKIPPED)  (h0 : Heap) (n0 : Nat) (O0 : Old Z n0 h0)  :
    MetFree l y_0 (head1 (Jvm.Cond.code y_0 prog_41_method_8_code 1 (some .boolean) :: ws) ({ frames := 0, cells := 0, slots := 0, locals := 0 } : Room)) (fun a U => a = #[(.ref a_PARTIAL_SUCCESS)] ∧ Z.Warmed39 U.vm ∧ U.heap = h0) (fun _ _ _ _ _ => True) (fun _ U o U' => ∃ v L, o = .returned v ∧ QV (some (.int 0)) h0 n0 v U'.heap L ∧ FrameEnd U o U' L ({ frames := 0, cells := 0, slots := 0, locals := 0 } : Room).cells ({ frames := 0, cells := 0, slots := 0, locals := 0 } : Room).slots) := by
  refine MetFree.of_bodySF (plainFor_of_name pn_0) hisR ?_
  intro p e s m args below meth c s₁ Bd hml0 hP hK
  obtain ⟨rfl, hZ, hh⟩ := hP
  have hx := Bd.exec
  have hby := Bd.bytes
  have hml : c.maxLocals = 1 := hml0
  have hown : s.vm.findClass "com/example/theseus/theseus/engine/Outcome" = some m.cls := findClass_of_methodNamed Bd.named
  have hnm := (name_of_methodNamed Bd.named Bd.method).1
  have X0 : Stand p l e ({ frames := 0, cells := 0, slots := 0, locals := 0 } : Room) s m #[(.ref a_PARTIAL_SUCCESS)] below meth c s₁ [] 0 0 := Stand.of_body Bd
  have e0 : s₁.heap = h0 := by rw [← hh, Bd.state]; rfl
  have N0 := Fr.nil n0
  have K0 := Keep.refl h0 []
  have k0 : Go p.tables e below (s₁.setTop (entryFrame m #[(.ref a_PARTIAL_SUCCESS)] 1)) (s₁.setTop (mkF m 0 #[rv a_PARTIAL_SUCCESS] [])) := fun t k => castTop (by first | rfl | (simp [entryFrame, mkF, argsToLocals, Value.category]; done)) k
  have ⟨S_SUCCESS, E_SUCCESS, S_FAIL, E_FAIL, S_RETRY, E_RETRY, S_CANCELLED, E_CANCELLED, S_PARTIAL_SUCCESS, E_PARTIAL_SUCCESS, S_SKIPPED, E_SKIPPED, R_SUCCESS_ordinal, R_FAIL_ordinal, R_RETRY_ordinal, R_CANCELLED_ordinal, R_PARTIAL_SUCCESS_ordinal, R_SKIPPED_ordinal⟩ := G
  have k_8 : Go p.tables e below (s₁.setTop (entryFrame m #[(.ref a_PARTIAL_SUCCESS)] 1)) (s₁.setTop (mkF m 1 #[rv a_PARTIAL_SUCCESS] [(.ref a_PARTIAL_SUCCESS)])) := fun t q => by
    refine k0 t ?_
    refine XS.aloadN X0.here hx rfl (hb hby d1_0) rfl rfl ?_
    show Steps _ _ _ (s₁.setTop (mkF m 1 #[rv a_PARTIAL_SUCCESS] [(.ref a_PARTIAL_SUCCESS)])) _
    exact q
  obtain ⟨T9, X9, e9, st9⟩ := getS2 X0 hx hZ hown (host := "") (Or.inl (hw _ (wd 9 rfl))) Via.refl e0 (S_FAIL.ext O0.2) (g := (mkF m 1 #[rv a_PARTIAL_SUCCESS] [(.ref a_PARTIAL_SUCCESS)])) rfl (hb hby d1_1)
  have k_10 : Go p.tables e below (s₁.setTop (entryFrame m #[(.ref a_PARTIAL_SUCCESS)] 1)) (T9.setTop (mkF m 8 #[rv a_PARTIAL_SUCCESS] [(.ref a_PARTIAL_SUCCESS)])) := fun t q => by
    refine k_8 t ?_
    refine st9 _ ?_
    show Steps _ _ _ (T9.setTop (mkF m 4 #[rv a_PARTIAL_SUCCESS] [(.ref a_FAIL), (.ref a_PARTIAL_SUCCESS)])) _
    refine Jvm.RoadKit.acmp (g := (mkF m 4 #[rv a_PARTIAL_SUCCESS] [(.ref a_FAIL), (.ref a_PARTIAL_SUCCESS)])) X9 hx rfl rfl rfl (pc0 := 4) (pc' := 7) (same := false) rfl (hb hby d1_4) rfl (decide_eq_false fun q => (own_ne R_PARTIAL_SUCCESS_ordinal R_FAIL_ordinal (by decide)) (Value.ref.inj q)) (by decide) (by decide) ?_
    show Steps _ _ _ (T9.setTop (mkF m 7 #[rv a_PARTIAL_SUCCESS] [])) _
    refine XS.aloadN X9.here hx rfl (hb hby d1_7) rfl rfl ?_
    show Steps _ _ _ (T9.setTop (mkF m 8 #[rv a_PARTIAL_SUCCESS] [(.ref a_PARTIAL_SUCCESS)])) _
    exact q
  obtain ⟨T11, X11, e11, st11⟩ := getS2 X9 hx hZ hown (host := "") (Or.inl (hw _ (wd 11 rfl))) Via.refl e9 (S_RETRY.ext O0.2) (g := (mkF m 8 #[rv a_PARTIAL_SUCCESS] [(.ref a_PARTIAL_SUCCESS)])) rfl (hb hby d1_8)
  have k_12 : Go p.tables e below (s₁.setTop (entryFrame m #[(.ref a_PARTIAL_SUCCESS)] 1)) (T11.setTop (mkF m 15 #[rv a_PARTIAL_SUCCESS] [(.ref a_PARTIAL_SUCCESS)])) := fun t q => by
    refine k_10 t ?_
    refine st11 _ ?_
    show Steps _ _ _ (T11.setTop (mkF m 11 #[rv a_PARTIAL_SUCCESS] [(.ref a_RETRY), (.ref a_PARTIAL_SUCCESS)])) _
    refine Jvm.RoadKit.acmp (g := (mkF m 11 #[rv a_PARTIAL_SUCCESS] [(.ref a_RETRY), (.ref a_PARTIAL_SUCCESS)])) X11 hx rfl rfl rfl (pc0 := 11) (pc' := 14) (same := false) rfl (hb hby d1_11) rfl (decide_eq_false fun q => (own_ne R_PARTIAL_SUCCESS_ordinal R_RETRY_ordinal (by decide)) (Value.ref.inj q)) (by decide) (by decide) ?_
    show Steps _ _ _ (T11.setTop (mkF m 14 #[rv a_PARTIAL_SUCCESS] [])) _
    refine XS.aloadN X11.here hx rfl (hb hby d1_14) rfl rfl ?_
    show Steps _ _ _ (T11.setTop (mkF m 15 #[rv a_PARTIAL_SUCCESS] [(.ref a_PARTIAL_SUCCESS)])) _
    exact q
  obtain ⟨T13, X13, e13, st13⟩ := getS2 X11 hx hZ hown (host := "") (Or.inl (hw _ (wd 13 rfl))) Via.refl e11 (S_CANCELLED.ext O0.2) (g := (mkF m 15 #[rv a_PARTIAL_SUCCESS] [(.ref a_PARTIAL_SUCCESS)])) rfl (hb hby d1_15)
  have k_14 : Go p.tables e below (s₁.setTop (entryFrame m #[(.ref a_PARTIAL_SUCCESS)] 1)) (T13.setTop (mkF m 26 #[rv a_PARTIAL_SUCCESS] [(.int 0)])) := fun t q => by
    refine k_12 t ?_
    refine st13 _ ?_
    show Steps _ _ _ (T13.setTop (mkF m 18 #[rv a_PARTIAL_SUCCESS] [(.ref a_CANCELLED), (.ref a_PARTIAL_SUCCESS)])) _
    refine Jvm.RoadKit.acmp (g := (mkF m 18 #[rv a_PARTIAL_SUCCESS] [(.ref a_CANCELLED), (.ref a_PARTIAL_SUCCESS)])) X13 hx rfl rfl rfl (pc0 := 18) (pc' := 25) (same := false) rfl (hb hby d1_18) rfl (decide_eq_false fun q => (own_ne R_PARTIAL_SUCCESS_ordinal R_CANCELLED_ordinal (by decide)) (Value.ref.inj q)) (by decide) (by decide) ?_
    show Steps _ _ _ (T13.setTop (mkF m 25 #[rv a_PARTIAL_SUCCESS] [])) _
    refine XS.iconst X13.here hx rfl (hb hby d1_25) ?_
    show Steps _ _ _ (T13.setTop (mkF m 26 #[rv a_PARTIAL_SUCCESS] [(.int 0)])) _
    exact q
  obtain ⟨fs, hr, hrun, hended, hW, hsame⟩ := X13.leave (v := some (.int 0)) (fun h => by rw [Bd.returns] at h; cases h)
  refine ⟨_, _, k_14 _ ?_, hrun, hended, _, _, rfl, ?_, ⟨_, rfl⟩, hW, hsame.mono (by decide) (by decide)⟩
  · exact retN X13 hx (t := .boolean) Bd.returns (by simp) (hb hby d1_26) hr
  · show QV (some (.int 0)) h0 n0 _ T13.heap _
    rw [e13]
    exact ⟨rfl, N0, rfl⟩
set_option maxRecDepth 65536 in
set_option maxHeartbeats 40000000 in
theorem nr_2 (l : Launch) (Z : State) (a0 : Array Value) (hw : ∀ d ∈ tables_1, d.before a0 Z = true) (ws : List Jvm.Cond) (a_SUCCESS a_FAIL a_RETRY a_CANCELLED a_PARTIAL_SUCCESS a_SKIPPED : Addr) (G : Own Z a_SUCCESS a_FAIL a_RETRY a_CANCELLED a_PARTIAL_SUCCESS a_SKIPPED)  (h0 : Heap) (n0 : Nat) (O0 : Old Z n0 h0)  :
    MetFree l y_0 (head1 (Jvm.Cond.code y_0 prog_41_method_8_code 1 (some .boolean) :: ws) ({ frames := 0, cells := 0, slots := 0, locals := 0 } : Room)) (fun a U => a = #[(.ref a_RETRY)] ∧ Z.Warmed39 U.vm ∧ U.heap = h0) (fun _ _ _ _ _ => True) (fun _ U o U' => ∃ v L, o = .returned v ∧ QV (some (.int 1)) h0 n0 v U'.heap L ∧ FrameEnd U o U' L ({ frames := 0, cells := 0, slots := 0, locals := 0 } : Room).cells ({ frames := 0, cells := 0, slots := 0, locals := 0 } : Room).slots) := by
  refine MetFree.of_bodySF (plainFor_of_name pn_0) hisR ?_
  intro p e s m args below meth c s₁ Bd hml0 hP hK
  obtain ⟨rfl, hZ, hh⟩ := hP
  have hx := Bd.exec
  have hby := Bd.bytes
  have hml : c.maxLocals = 1 := hml0
  have hown : s.vm.findClass "com/example/theseus/theseus/engine/Outcome" = some m.cls := findClass_of_methodNamed Bd.named
  have hnm := (name_of_methodNamed Bd.named Bd.method).1
  have X0 : Stand p l e ({ frames := 0, cells := 0, slots := 0, locals := 0 } : Room) s m #[(.ref a_RETRY)] below meth c s₁ [] 0 0 := Stand.of_body Bd
  have e0 : s₁.heap = h0 := by rw [← hh, Bd.state]; rfl
  have N0 := Fr.nil n0
  have K0 := Keep.refl h0 []
  have k0 : Go p.tables e below (s₁.setTop (entryFrame m #[(.ref a_RETRY)] 1)) (s₁.setTop (mkF m 0 #[rv a_RETRY] [])) := fun t k => castTop (by first | rfl | (simp [entryFrame, mkF, argsToLocals, Value.category]; done)) k
  have ⟨S_SUCCESS, E_SUCCESS, S_FAIL, E_FAIL, S_RETRY, E_RETRY, S_CANCELLED, E_CANCELLED, S_PARTIAL_SUCCESS, E_PARTIAL_SUCCESS, S_SKIPPED, E_SKIPPED, R_SUCCESS_ordinal, R_FAIL_ordinal, R_RETRY_ordinal, R_CANCELLED_ordinal, R_PARTIAL_SUCCESS_ordinal, R_SKIPPED_ordinal⟩ := G
  have k_15 : Go p.tables e below (s₁.setTop (entryFrame m #[(.ref a_RETRY)] 1)) (s₁.setTop (mkF m 1 #[rv a_RETRY] [(.ref a_RETRY)])) := fun t q => by
    refine k0 t ?_
    refine XS.aloadN X0.here hx rfl (hb hby d1_0) rfl rfl ?_
    show Steps _ _ _ (s₁.setTop (mkF m 1 #[rv a_RETRY] [(.ref a_RETRY)])) _
    exact q
  obtain ⟨T16, X16, e16, st16⟩ := getS2 X0 hx hZ hown (host := "") (Or.inl (hw _ (wd 9 rfl))) Via.refl e0 (S_FAIL.ext O0.2) (g := (mkF m 1 #[rv a_RETRY] [(.ref a_RETRY)])) rfl (hb hby d1_1)
  have k_17 : Go p.tables e below (s₁.setTop (entryFrame m #[(.ref a_RETRY)] 1)) (T16.setTop (mkF m 8 #[rv a_RETRY] [(.ref a_RETRY)])) := fun t q => by
    refine k_15 t ?_
    refine st16 _ ?_
    show Steps _ _ _ (T16.setTop (mkF m 4 #[rv a_RETRY] [(.ref a_FAIL), (.ref a_RETRY)])) _
    refine Jvm.RoadKit.acmp (g := (mkF m 4 #[rv a_RETRY] [(.ref a_FAIL), (.ref a_RETRY)])) X16 hx rfl rfl rfl (pc0 := 4) (pc' := 7) (same := false) rfl (hb hby d1_4) rfl (decide_eq_false fun q => (own_ne R_RETRY_ordinal R_FAIL_ordinal (by decide)) (Value.ref.inj q)) (by decide) (by decide) ?_
    show Steps _ _ _ (T16.setTop (mkF m 7 #[rv a_RETRY] [])) _
    refine XS.aloadN X16.here hx rfl (hb hby d1_7) rfl rfl ?_
    show Steps _ _ _ (T16.setTop (mkF m 8 #[rv a_RETRY] [(.ref a_RETRY)])) _
    exact q
  obtain ⟨T18, X18, e18, st18⟩ := getS2 X16 hx hZ hown (host := "") (Or.inl (hw _ (wd 11 rfl))) Via.refl e16 (S_RETRY.ext O0.2) (g := (mkF m 8 #[rv a_RETRY] [(.ref a_RETRY)])) rfl (hb hby d1_8)
  have k_19 : Go p.tables e below (s₁.setTop (entryFrame m #[(.ref a_RETRY)] 1)) (T18.setTop (mkF m 26 #[rv a_RETRY] [(.int 1)])) := fun t q => by
    refine k_17 t ?_
    refine st18 _ ?_
    show Steps _ _ _ (T18.setTop (mkF m 11 #[rv a_RETRY] [(.ref a_RETRY), (.ref a_RETRY)])) _
    refine Jvm.RoadKit.acmp (g := (mkF m 11 #[rv a_RETRY] [(.ref a_RETRY), (.ref a_RETRY)])) X18 hx rfl rfl rfl (pc0 := 11) (pc' := 21) (same := true) rfl (hb hby d1_11) rfl (decide_eq_true rfl) (by decide) (by decide) ?_
    show Steps _ _ _ (T18.setTop (mkF m 21 #[rv a_RETRY] [])) _
    refine XS.iconst X18.here hx rfl (hb hby d1_21) ?_
    show Steps _ _ _ (T18.setTop (mkF m 22 #[rv a_RETRY] [(.int 1)])) _
    refine XS.goto X18.here hx rfl (pc0 := 22) (pc' := 26) rfl (hb hby d1_22) (by decide) (by decide) ?_
    show Steps _ _ _ (T18.setTop (mkF m 26 #[rv a_RETRY] [(.int 1)])) _
    exact q
  obtain ⟨fs, hr, hrun, hended, hW, hsame⟩ := X18.leave (v := some (.int 1)) (fun h => by rw [Bd.returns] at h; cases h)
  refine ⟨_, _, k_19 _ ?_, hrun, hended, _, _, rfl, ?_, ⟨_, rfl⟩, hW, hsame.mono (by decide) (by decide)⟩
  · exact retN X18 hx (t := .boolean) Bd.returns (by simp) (hb hby d1_26) hr
  · show QV (some (.int 1)) h0 n0 _ T18.heap _
    rw [e18]
    exact ⟨rfl, N0, rfl⟩
set_option maxRecDepth 65536 in
set_option maxHeartbeats 40000000 in
theorem nr_3 (l : Launch) (Z : State) (a0 : Array Value) (hw : ∀ d ∈ tables_1, d.before a0 Z = true) (ws : List Jvm.Cond) (a_SUCCESS a_FAIL a_RETRY a_CANCELLED a_PARTIAL_SUCCESS a_SKIPPED : Addr) (G : Own Z a_SUCCESS a_FAIL a_RETRY a_CANCELLED a_PARTIAL_SUCCESS a_SKIPPED)  (h0 : Heap) (n0 : Nat) (O0 : Old Z n0 h0)  :
    MetFree l y_0 (head1 (Jvm.Cond.code y_0 prog_41_method_8_code 1 (some .boolean) :: ws) ({ frames := 0, cells := 0, slots := 0, locals := 0 } : Room)) (fun a U => a = #[(.ref a_FAIL)] ∧ Z.Warmed39 U.vm ∧ U.heap = h0) (fun _ _ _ _ _ => True) (fun _ U o U' => ∃ v L, o = .returned v ∧ QV (some (.int 1)) h0 n0 v U'.heap L ∧ FrameEnd U o U' L ({ frames := 0, cells := 0, slots := 0, locals := 0 } : Room).cells ({ frames := 0, cells := 0, slots := 0, locals := 0 } : Room).slots) := by
  refine MetFree.of_bodySF (plainFor_of_name pn_0) hisR ?_
  intro p e s m args below meth c s₁ Bd hml0 hP hK
  obtain ⟨rfl, hZ, hh⟩ := hP
  have hx := Bd.exec
  have hby := Bd.bytes
  have hml : c.maxLocals = 1 := hml0
  have hown : s.vm.findClass "com/example/theseus/theseus/engine/Outcome" = some m.cls := findClass_of_methodNamed Bd.named
  have hnm := (name_of_methodNamed Bd.named Bd.method).1
  have X0 : Stand p l e ({ frames := 0, cells := 0, slots := 0, locals := 0 } : Room) s m #[(.ref a_FAIL)] below meth c s₁ [] 0 0 := Stand.of_body Bd
  have e0 : s₁.heap = h0 := by rw [← hh, Bd.state]; rfl
  have N0 := Fr.nil n0
  have K0 := Keep.refl h0 []
  have k0 : Go p.tables e below (s₁.setTop (entryFrame m #[(.ref a_FAIL)] 1)) (s₁.setTop (mkF m 0 #[rv a_FAIL] [])) := fun t k => castTop (by first | rfl | (simp [entryFrame, mkF, argsToLocals, Value.category]; done)) k
  have ⟨S_SUCCESS, E_SUCCESS, S_FAIL, E_FAIL, S_RETRY, E_RETRY, S_CANCELLED, E_CANCELLED, S_PARTIAL_SUCCESS, E_PARTIAL_SUCCESS, S_SKIPPED, E_SKIPPED, R_SUCCESS_ordinal, R_FAIL_ordinal, R_RETRY_ordinal, R_CANCELLED_ordinal, R_PARTIAL_SUCCESS_ordinal, R_SKIPPED_ordinal⟩ := G
  have k_20 : Go p.tables e below (s₁.setTop (entryFrame m #[(.ref a_FAIL)] 1)) (s₁.setTop (mkF m 1 #[rv a_FAIL] [(.ref a_FAIL)])) := fun t q => by
    refine k0 t ?_
    refine XS.aloadN X0.here hx rfl (hb hby d1_0) rfl rfl ?_
    show Steps _ _ _ (s₁.setTop (mkF m 1 #[rv a_FAIL] [(.ref a_FAIL)])) _
    exact q
  obtain ⟨T21, X21, e21, st21⟩ := getS2 X0 hx hZ hown (host := "") (Or.inl (hw _ (wd 9 rfl))) Via.refl e0 (S_FAIL.ext O0.2) (g := (mkF m 1 #[rv a_FAIL] [(.ref a_FAIL)])) rfl (hb hby d1_1)
  have k_22 : Go p.tables e below (s₁.setTop (entryFrame m #[(.ref a_FAIL)] 1)) (T21.setTop (mkF m 26 #[rv a_FAIL] [(.int 1)])) := fun t q => by
    refine k_20 t ?_
    refine st21 _ ?_
    show Steps _ _ _ (T21.setTop (mkF m 4 #[rv a_FAIL] [(.ref a_FAIL), (.ref a_FAIL)])) _
    refine Jvm.RoadKit.acmp (g := (mkF m 4 #[rv a_FAIL] [(.ref a_FAIL), (.ref a_FAIL)])) X21 hx rfl rfl rfl (pc0 := 4) (pc' := 21) (same := true) rfl (hb hby d1_4) rfl (decide_eq_true rfl) (by decide) (by decide) ?_
    show Steps _ _ _ (T21.setTop (mkF m 21 #[rv a_FAIL] [])) _
    refine XS.iconst X21.here hx rfl (hb hby d1_21) ?_
    show Steps _ _ _ (T21.setTop (mkF m 22 #[rv a_FAIL] [(.int 1)])) _
    refine XS.goto X21.here hx rfl (pc0 := 22) (pc' := 26) rfl (hb hby d1_22) (by decide) (by decide) ?_
    show Steps _ _ _ (T21.setTop (mkF m 26 #[rv a_FAIL] [(.int 1)])) _
    exact q
  obtain ⟨fs, hr, hrun, hended, hW, hsame⟩ := X21.leave (v := some (.int 1)) (fun h => by rw [Bd.returns] at h; cases h)
  refine ⟨_, _, k_22 _ ?_, hrun, hended, _, _, rfl, ?_, ⟨_, rfl⟩, hW, hsame.mono (by decide) (by decide)⟩
  · exact retN X21 hx (t := .boolean) Bd.returns (by simp) (hb hby d1_26) hr
  · show QV (some (.int 1)) h0 n0 _ T21.heap _
    rw [e21]
    exact ⟨rfl, N0, rfl⟩
set_option maxRecDepth 65536 in
set_option maxHeartbeats 40000000 in
theorem nr_4 (l : Launch) (Z : State) (a0 : Array Value) (hw : ∀ d ∈ tables_1, d.before a0 Z = true) (ws : List Jvm.Cond) (a_SUCCESS a_FAIL a_RETRY a_CANCELLED a_PARTIAL_SUCCESS a_SKIPPED : Addr) (G : Own Z a_SUCCESS a_FAIL a_RETRY a_CANCELLED a_PARTIAL_SUCCESS a_SKIPPED)  (h0 : Heap) (n0 : Nat) (O0 : Old Z n0 h0)  :
    MetFree l y_0 (head1 (Jvm.Cond.code y_0 prog_41_method_8_code 1 (some .boolean) :: ws) ({ frames := 0, cells := 0, slots := 0, locals := 0 } : Room)) (fun a U => a = #[(.ref a_SKIPPED)] ∧ Z.Warmed39 U.vm ∧ U.heap = h0) (fun _ _ _ _ _ => True) (fun _ U o U' => ∃ v L, o = .returned v ∧ QV (some (.int 0)) h0 n0 v U'.heap L ∧ FrameEnd U o U' L ({ frames := 0, cells := 0, slots := 0, locals := 0 } : Room).cells ({ frames := 0, cells := 0, slots := 0, locals := 0 } : Room).slots) := by
  refine MetFree.of_bodySF (plainFor_of_name pn_0) hisR ?_
  intro p e s m args below meth c s₁ Bd hml0 hP hK
  obtain ⟨rfl, hZ, hh⟩ := hP
  have hx := Bd.exec
  have hby := Bd.bytes
  have hml : c.maxLocals = 1 := hml0
  have hown : s.vm.findClass "com/example/theseus/theseus/engine/Outcome" = some m.cls := findClass_of_methodNamed Bd.named
  have hnm := (name_of_methodNamed Bd.named Bd.method).1
  have X0 : Stand p l e ({ frames := 0, cells := 0, slots := 0, locals := 0 } : Room) s m #[(.ref a_SKIPPED)] below meth c s₁ [] 0 0 := Stand.of_body Bd
  have e0 : s₁.heap = h0 := by rw [← hh, Bd.state]; rfl
  have N0 := Fr.nil n0
  have K0 := Keep.refl h0 []
  have k0 : Go p.tables e below (s₁.setTop (entryFrame m #[(.ref a_SKIPPED)] 1)) (s₁.setTop (mkF m 0 #[rv a_SKIPPED] [])) := fun t k => castTop (by first | rfl | (simp [entryFrame, mkF, argsToLocals, Value.category]; done)) k
  have ⟨S_SUCCESS, E_SUCCESS, S_FAIL, E_FAIL, S_RETRY, E_RETRY, S_CANCELLED, E_CANCELLED, S_PARTIAL_SUCCESS, E_PARTIAL_SUCCESS, S_SKIPPED, E_SKIPPED, R_SUCCESS_ordinal, R_FAIL_ordinal, R_RETRY_ordinal, R_CANCELLED_ordinal, R_PARTIAL_SUCCESS_ordinal, R_SKIPPED_ordinal⟩ := G
  have k_23 : Go p.tables e below (s₁.setTop (entryFrame m #[(.ref a_SKIPPED)] 1)) (s₁.setTop (mkF m 1 #[rv a_SKIPPED] [(.ref a_SKIPPED)])) := fun t q => by
    refine k0 t ?_
    refine XS.aloadN X0.here hx rfl (hb hby d1_0) rfl rfl ?_
    show Steps _ _ _ (s₁.setTop (mkF m 1 #[rv a_SKIPPED] [(.ref a_SKIPPED)])) _
    exact q
  obtain ⟨T24, X24, e24, st24⟩ := getS2 X0 hx hZ hown (host := "") (Or.inl (hw _ (wd 9 rfl))) Via.refl e0 (S_FAIL.ext O0.2) (g := (mkF m 1 #[rv a_SKIPPED] [(.ref a_SKIPPED)])) rfl (hb hby d1_1)
  have k_25 : Go p.tables e below (s₁.setTop (entryFrame m #[(.ref a_SKIPPED)] 1)) (T24.setTop (mkF m 8 #[rv a_SKIPPED] [(.ref a_SKIPPED)])) := fun t q => by
    refine k_23 t ?_
    refine st24 _ ?_
    show Steps _ _ _ (T24.setTop (mkF m 4 #[rv a_SKIPPED] [(.ref a_FAIL), (.ref a_SKIPPED)])) _
    refine Jvm.RoadKit.acmp (g := (mkF m 4 #[rv a_SKIPPED] [(.ref a_FAIL), (.ref a_SKIPPED)])) X24 hx rfl rfl rfl (pc0 := 4) (pc' := 7) (same := false) rfl (hb hby d1_4) rfl (decide_eq_false fun q => (own_ne R_SKIPPED_ordinal R_FAIL_ordinal (by decide)) (Value.ref.inj q)) (by decide) (by decide) ?_
    show Steps _ _ _ (T24.setTop (mkF m 7 #[rv a_SKIPPED] [])) _
    refine XS.aloadN X24.here hx rfl (hb hby d1_7) rfl rfl ?_
    show Steps _ _ _ (T24.setTop (mkF m 8 #[rv a_SKIPPED] [(.ref a_SKIPPED)])) _
    exact q
  obtain ⟨T26, X26, e26, st26⟩ := getS2 X24 hx hZ hown (host := "") (Or.inl (hw _ (wd 11 rfl))) Via.refl e24 (S_RETRY.ext O0.2) (g := (mkF m 8 #[rv a_SKIPPED] [(.ref a_SKIPPED)])) rfl (hb hby d1_8)
  have k_27 : Go p.tables e below (s₁.setTop (entryFrame m #[(.ref a_SKIPPED)] 1)) (T26.setTop (mkF m 15 #[rv a_SKIPPED] [(.ref a_SKIPPED)])) := fun t q => by
    refine k_25 t ?_
    refine st26 _ ?_
    show Steps _ _ _ (T26.setTop (mkF m 11 #[rv a_SKIPPED] [(.ref a_RETRY), (.ref a_SKIPPED)])) _
    refine Jvm.RoadKit.acmp (g := (mkF m 11 #[rv a_SKIPPED] [(.ref a_RETRY), (.ref a_SKIPPED)])) X26 hx rfl rfl rfl (pc0 := 11) (pc' := 14) (same := false) rfl (hb hby d1_11) rfl (decide_eq_false fun q => (own_ne R_SKIPPED_ordinal R_RETRY_ordinal (by decide)) (Value.ref.inj q)) (by decide) (by decide) ?_
    show Steps _ _ _ (T26.setTop (mkF m 14 #[rv a_SKIPPED] [])) _
    refine XS.aloadN X26.here hx rfl (hb hby d1_14) rfl rfl ?_
    show Steps _ _ _ (T26.setTop (mkF m 15 #[rv a_SKIPPED] [(.ref a_SKIPPED)])) _
    exact q
  obtain ⟨T28, X28, e28, st28⟩ := getS2 X26 hx hZ hown (host := "") (Or.inl (hw _ (wd 13 rfl))) Via.refl e26 (S_CANCELLED.ext O0.2) (g := (mkF m 15 #[rv a_SKIPPED] [(.ref a_SKIPPED)])) rfl (hb hby d1_15)
  have k_29 : Go p.tables e below (s₁.setTop (entryFrame m #[(.ref a_SKIPPED)] 1)) (T28.setTop (mkF m 26 #[rv a_SKIPPED] [(.int 0)])) := fun t q => by
    refine k_27 t ?_
    refine st28 _ ?_
    show Steps _ _ _ (T28.setTop (mkF m 18 #[rv a_SKIPPED] [(.ref a_CANCELLED), (.ref a_SKIPPED)])) _
    refine Jvm.RoadKit.acmp (g := (mkF m 18 #[rv a_SKIPPED] [(.ref a_CANCELLED), (.ref a_SKIPPED)])) X28 hx rfl rfl rfl (pc0 := 18) (pc' := 25) (same := false) rfl (hb hby d1_18) rfl (decide_eq_false fun q => (own_ne R_SKIPPED_ordinal R_CANCELLED_ordinal (by decide)) (Value.ref.inj q)) (by decide) (by decide) ?_
    show Steps _ _ _ (T28.setTop (mkF m 25 #[rv a_SKIPPED] [])) _
    refine XS.iconst X28.here hx rfl (hb hby d1_25) ?_
    show Steps _ _ _ (T28.setTop (mkF m 26 #[rv a_SKIPPED] [(.int 0)])) _
    exact q
  obtain ⟨fs, hr, hrun, hended, hW, hsame⟩ := X28.leave (v := some (.int 0)) (fun h => by rw [Bd.returns] at h; cases h)
  refine ⟨_, _, k_29 _ ?_, hrun, hended, _, _, rfl, ?_, ⟨_, rfl⟩, hW, hsame.mono (by decide) (by decide)⟩
  · exact retN X28 hx (t := .boolean) Bd.returns (by simp) (hb hby d1_26) hr
  · show QV (some (.int 0)) h0 n0 _ T28.heap _
    rw [e28]
    exact ⟨rfl, N0, rfl⟩
set_option maxRecDepth 65536 in
set_option maxHeartbeats 40000000 in
theorem nr_5 (l : Launch) (Z : State) (a0 : Array Value) (hw : ∀ d ∈ tables_1, d.before a0 Z = true) (ws : List Jvm.Cond) (a_SUCCESS a_FAIL a_RETRY a_CANCELLED a_PARTIAL_SUCCESS a_SKIPPED : Addr) (G : Own Z a_SUCCESS a_FAIL a_RETRY a_CANCELLED a_PARTIAL_SUCCESS a_SKIPPED)  (h0 : Heap) (n0 : Nat) (O0 : Old Z n0 h0)  :
    MetFree l y_0 (head1 (Jvm.Cond.code y_0 prog_41_method_8_code 1 (some .boolean) :: ws) ({ frames := 0, cells := 0, slots := 0, locals := 0 } : Room)) (fun a U => a = #[(.ref a_CANCELLED)] ∧ Z.Warmed39 U.vm ∧ U.heap = h0) (fun _ _ _ _ _ => True) (fun _ U o U' => ∃ v L, o = .returned v ∧ QV (some (.int 1)) h0 n0 v U'.heap L ∧ FrameEnd U o U' L ({ frames := 0, cells := 0, slots := 0, locals := 0 } : Room).cells ({ frames := 0, cells := 0, slots := 0, locals := 0 } : Room).slots) := by
  refine MetFree.of_bodySF (plainFor_of_name pn_0) hisR ?_
  intro p e s m args below meth c s₁ Bd hml0 hP hK
  obtain ⟨rfl, hZ, hh⟩ := hP
  have hx := Bd.exec
  have hby := Bd.bytes
  have hml : c.maxLocals = 1 := hml0
  have hown : s.vm.findClass "com/example/theseus/theseus/engine/Outcome" = some m.cls := findClass_of_methodNamed Bd.named
  have hnm := (name_of_methodNamed Bd.named Bd.method).1
  have X0 : Stand p l e ({ frames := 0, cells := 0, slots := 0, locals := 0 } : Room) s m #[(.ref a_CANCELLED)] below meth c s₁ [] 0 0 := Stand.of_body Bd
  have e0 : s₁.heap = h0 := by rw [← hh, Bd.state]; rfl
  have N0 := Fr.nil n0
  have K0 := Keep.refl h0 []
  have k0 : Go p.tables e below (s₁.setTop (entryFrame m #[(.ref a_CANCELLED)] 1)) (s₁.setTop (mkF m 0 #[rv a_CANCELLED] [])) := fun t k => castTop (by first | rfl | (simp [entryFrame, mkF, argsToLocals, Value.category]; done)) k
  have ⟨S_SUCCESS, E_SUCCESS, S_FAIL, E_FAIL, S_RETRY, E_RETRY, S_CANCELLED, E_CANCELLED, S_PARTIAL_SUCCESS, E_PARTIAL_SUCCESS, S_SKIPPED, E_SKIPPED, R_SUCCESS_ordinal, R_FAIL_ordinal, R_RETRY_ordinal, R_CANCELLED_ordinal, R_PARTIAL_SUCCESS_ordinal, R_SKIPPED_ordinal⟩ := G
  have k_30 : Go p.tables e below (s₁.setTop (entryFrame m #[(.ref a_CANCELLED)] 1)) (s₁.setTop (mkF m 1 #[rv a_CANCELLED] [(.ref a_CANCELLED)])) := fun t q => by
    refine k0 t ?_
    refine XS.aloadN X0.here hx rfl (hb hby d1_0) rfl rfl ?_
    show Steps _ _ _ (s₁.setTop (mkF m 1 #[rv a_CANCELLED] [(.ref a_CANCELLED)])) _
    exact q
  obtain ⟨T31, X31, e31, st31⟩ := getS2 X0 hx hZ hown (host := "") (Or.inl (hw _ (wd 9 rfl))) Via.refl e0 (S_FAIL.ext O0.2) (g := (mkF m 1 #[rv a_CANCELLED] [(.ref a_CANCELLED)])) rfl (hb hby d1_1)
  have k_32 : Go p.tables e below (s₁.setTop (entryFrame m #[(.ref a_CANCELLED)] 1)) (T31.setTop (mkF m 8 #[rv a_CANCELLED] [(.ref a_CANCELLED)])) := fun t q => by
    refine k_30 t ?_
    refine st31 _ ?_
    show Steps _ _ _ (T31.setTop (mkF m 4 #[rv a_CANCELLED] [(.ref a_FAIL), (.ref a_CANCELLED)])) _
    refine Jvm.RoadKit.acmp (g := (mkF m 4 #[rv a_CANCELLED] [(.ref a_FAIL), (.ref a_CANCELLED)])) X31 hx rfl rfl rfl (pc0 := 4) (pc' := 7) (same := false) rfl (hb hby d1_4) rfl (decide_eq_false fun q => (own_ne R_CANCELLED_ordinal R_FAIL_ordinal (by decide)) (Value.ref.inj q)) (by decide) (by decide) ?_
    show Steps _ _ _ (T31.setTop (mkF m 7 #[rv a_CANCELLED] [])) _
    refine XS.aloadN X31.here hx rfl (hb hby d1_7) rfl rfl ?_
    show Steps _ _ _ (T31.setTop (mkF m 8 #[rv a_CANCELLED] [(.ref a_CANCELLED)])) _
    exact q
  obtain ⟨T33, X33, e33, st33⟩ := getS2 X31 hx hZ hown (host := "") (Or.inl (hw _ (wd 11 rfl))) Via.refl e31 (S_RETRY.ext O0.2) (g := (mkF m 8 #[rv a_CANCELLED] [(.ref a_CANCELLED)])) rfl (hb hby d1_8)
  have k_34 : Go p.tables e below (s₁.setTop (entryFrame m #[(.ref a_CANCELLED)] 1)) (T33.setTop (mkF m 15 #[rv a_CANCELLED] [(.ref a_CANCELLED)])) := fun t q => by
    refine k_32 t ?_
    refine st33 _ ?_
    show Steps _ _ _ (T33.setTop (mkF m 11 #[rv a_CANCELLED] [(.ref a_RETRY), (.ref a_CANCELLED)])) _
    refine Jvm.RoadKit.acmp (g := (mkF m 11 #[rv a_CANCELLED] [(.ref a_RETRY), (.ref a_CANCELLED)])) X33 hx rfl rfl rfl (pc0 := 11) (pc' := 14) (same := false) rfl (hb hby d1_11) rfl (decide_eq_false fun q => (own_ne R_CANCELLED_ordinal R_RETRY_ordinal (by decide)) (Value.ref.inj q)) (by decide) (by decide) ?_
    show Steps _ _ _ (T33.setTop (mkF m 14 #[rv a_CANCELLED] [])) _
    refine XS.aloadN X33.here hx rfl (hb hby d1_14) rfl rfl ?_
    show Steps _ _ _ (T33.setTop (mkF m 15 #[rv a_CANCELLED] [(.ref a_CANCELLED)])) _
    exact q
  obtain ⟨T35, X35, e35, st35⟩ := getS2 X33 hx hZ hown (host := "") (Or.inl (hw _ (wd 13 rfl))) Via.refl e33 (S_CANCELLED.ext O0.2) (g := (mkF m 15 #[rv a_CANCELLED] [(.ref a_CANCELLED)])) rfl (hb hby d1_15)
  have k_36 : Go p.tables e below (s₁.setTop (entryFrame m #[(.ref a_CANCELLED)] 1)) (T35.setTop (mkF m 26 #[rv a_CANCELLED] [(.int 1)])) := fun t q => by
    refine k_34 t ?_
    refine st35 _ ?_
    show Steps _ _ _ (T35.setTop (mkF m 18 #[rv a_CANCELLED] [(.ref a_CANCELLED), (.ref a_CANCELLED)])) _
    refine Jvm.RoadKit.acmp (g := (mkF m 18 #[rv a_CANCELLED] [(.ref a_CANCELLED), (.ref a_CANCELLED)])) X35 hx rfl rfl rfl (pc0 := 18) (pc' := 21) (same := true) rfl (hb hby d1_18) rfl (decide_eq_true rfl) (by decide) (by decide) ?_
    show Steps _ _ _ (T35.setTop (mkF m 21 #[rv a_CANCELLED] [])) _
    refine XS.iconst X35.here hx rfl (hb hby d1_21) ?_
    show Steps _ _ _ (T35.setTop (mkF m 22 #[rv a_CANCELLED] [(.int 1)])) _
    refine XS.goto X35.here hx rfl (pc0 := 22) (pc' := 26) rfl (hb hby d1_22) (by decide) (by decide) ?_
    show Steps _ _ _ (T35.setTop (mkF m 26 #[rv a_CANCELLED] [(.int 1)])) _
    exact q
  obtain ⟨fs, hr, hrun, hended, hW, hsame⟩ := X35.leave (v := some (.int 1)) (fun h => by rw [Bd.returns] at h; cases h)
  refine ⟨_, _, k_36 _ ?_, hrun, hended, _, _, rfl, ?_, ⟨_, rfl⟩, hW, hsame.mono (by decide) (by decide)⟩
  · exact retN X35 hx (t := .boolean) Bd.returns (by simp) (hb hby d1_26) hr
  · show QV (some (.int 1)) h0 n0 _ T35.heap _
    rw [e35]
    exact ⟨rfl, N0, rfl⟩
set_option maxRecDepth 65536 in
set_option maxHeartbeats 40000000 in
theorem rm0 (l : Launch) (Z : State) (a0 : Array Value) (hw : ∀ d ∈ tables_1, d.before a0 Z = true) (ws : List Jvm.Cond) (a_SUCCESS a_FAIL a_RETRY a_CANCELLED a_PARTIAL_SUCCESS a_SKIPPED : Addr) (G : Own Z a_SUCCESS a_FAIL a_RETRY a_CANCELLED a_PARTIAL_SUCCESS a_SKIPPED) (q1 : Int32) (h0 : Heap) (n0 : Nat) (O0 : Old Z n0 h0)  :
    MetFree l x (head1 (Jvm.Cond.code x code maxLocals ret :: ws) room_1) (fun a U => a = #[(.int q1)] ∧ Z.Warmed39 U.vm ∧ U.heap = h0) (fun _ _ _ _ _ => True) (fun _ U o U' => ∃ v L, o = .returned v ∧ Q0 n0 v U'.heap L ∧ FrameEnd U o U' L room_1.cells room_1.slots) := by
  refine MetFree.of_bodySF (plainFor_of_name pn_1) hisR ?_
  intro p e s m args below meth c s₁ Bd hml0 hP hK
  obtain ⟨rfl, hZ, hh⟩ := hP
  have hx := Bd.exec
  have hby := Bd.bytes
  have hml : c.maxLocals = 4 := hml0
  have hown : s.vm.findClass "com/example/theseus/theseus/engine/OutcomeNeedsReasonPinLaw" = some m.cls := findClass_of_methodNamed Bd.named
  have hnm := (name_of_methodNamed Bd.named Bd.method).1
  have X0 : Stand p l e room_1 s m #[(.int q1)] below meth c s₁ [] 0 0 := Stand.of_body Bd
  have e0 : s₁.heap = h0 := by rw [← hh, Bd.state]; rfl
  have N0 := Fr.nil n0
  have K0 := Keep.refl h0 []
  have k0 : Go p.tables e below (s₁.setTop (entryFrame m #[(.int q1)] maxLocals)) (s₁.setTop (mkF m 0 #[iv q1, .unset, .unset, .unset] [])) := fun t k => castTop (by first | rfl | (simp [entryFrame, mkF, argsToLocals, Value.category, maxLocals]; done)) k
  have ⟨S_SUCCESS, E_SUCCESS, S_FAIL, E_FAIL, S_RETRY, E_RETRY, S_CANCELLED, E_CANCELLED, S_PARTIAL_SUCCESS, E_PARTIAL_SUCCESS, S_SKIPPED, E_SKIPPED, R_SUCCESS_ordinal, R_FAIL_ordinal, R_RETRY_ordinal, R_CANCELLED_ordinal, R_PARTIAL_SUCCESS_ordinal, R_SKIPPED_ordinal⟩ := G
  rcases own_rem_6 q1 with hi | hi | hi | hi | hi | hi
  · skip
    have k_37 : Go p.tables e below (s₁.setTop (entryFrame m #[(.int q1)] maxLocals)) (s₁.setTop (mkF m 12 #[iv q1, iv 0, .unset, .unset] [])) := fun t q => by
      refine k0 t ?_
      refine XS.iloadN X0.here hx rfl (hb hby at_0) rfl ?_
      show Steps _ _ _ (s₁.setTop (mkF m 1 #[iv q1, .unset, .unset, .unset] [(.int q1)])) _
      refine X0.ldcInt hx hown (mvT hZ (hw _ (wd 0 rfl))) (g := (mkF m 1 #[iv q1, .unset, .unset, .unset] [(.int q1)])) rfl (hb hby at_1) _ ?_
      show Steps _ _ _ (s₁.setTop (mkF m 3 #[iv q1, .unset, .unset, .unset] [(.int 2147483647), (.int q1)])) _
      refine XS.iand X0.here hx rfl (hb hby at_3) rfl ?_
      show Steps _ _ _ (s₁.setTop (mkF m 4 #[iv q1, .unset, .unset, .unset] [(.int (q1 &&& (2147483647 : Int32)))])) _
      refine XS.bipush X0.here hx rfl (hb hby at_4) ?_
      show Steps _ _ _ (s₁.setTop (mkF m 6 #[iv q1, .unset, .unset, .unset] [(.int 6), (.int (q1 &&& (2147483647 : Int32)))])) _
      refine iremM (g := (mkF m 6 #[iv q1, .unset, .unset, .unset] [(.int 6), (.int (q1 &&& (2147483647 : Int32)))])) X0 hx rfl (hb hby at_6) rfl (by decide) ?_
      show Steps _ _ _ (s₁.setTop (mkF m 7 #[iv q1, .unset, .unset, .unset] [(.int ((q1 &&& (2147483647 : Int32)) % (6 : Int32)))])) _
      rw [hi]
      show Steps _ _ _ (s₁.setTop (mkF m 7 #[iv q1, .unset, .unset, .unset] [(.int 0)])) _
      refine XS.istoreN X0.here hx rfl (hb hby at_7) rfl (l' := #[iv q1, iv 0, .unset, .unset]) rfl ?_
      show Steps _ _ _ (s₁.setTop (mkF m 8 #[iv q1, iv 0, .unset, .unset] [])) _
      refine XS.iloadN X0.here hx rfl (hb hby at_8) rfl ?_
      show Steps _ _ _ (s₁.setTop (mkF m 9 #[iv q1, iv 0, .unset, .unset] [(.int 0)])) _
      refine XS.ifNo X0.here hx rfl (hb hby at_9) rfl (by decide) ?_
      show Steps _ _ _ (s₁.setTop (mkF m 12 #[iv q1, iv 0, .unset, .unset] [])) _
      exact q
    obtain ⟨T38, X38, e38, st38⟩ := getS2 X0 hx hZ hown (host := "") (Or.inl (hw _ (wd 1 rfl))) Via.refl e0 (S_SUCCESS.ext O0.2) (g := (mkF m 12 #[iv q1, iv 0, .unset, .unset] [])) rfl (hb hby at_12)
    have k_39 : Go p.tables e below (s₁.setTop (entryFrame m #[(.int q1)] maxLocals)) (T38.setTop (mkF m 84 #[iv q1, iv 0, rv a_SUCCESS, iv 0] [(.ref a_SUCCESS)])) := fun t q => by
      refine k_37 t ?_
      refine st38 _ ?_
      show Steps _ _ _ (T38.setTop (mkF m 15 #[iv q1, iv 0, .unset, .unset] [(.ref a_SUCCESS)])) _
      refine XS.astoreN X38.here hx rfl (hb hby at_15) rfl rfl (l' := #[iv q1, iv 0, rv a_SUCCESS, .unset]) rfl ?_
      show Steps _ _ _ (T38.setTop (mkF m 16 #[iv q1, iv 0, rv a_SUCCESS, .unset] [])) _
      refine XS.iconst X38.here hx rfl (hb hby at_16) ?_
      show Steps _ _ _ (T38.setTop (mkF m 17 #[iv q1, iv 0, rv a_SUCCESS, .unset] [(.int 0)])) _
      refine XS.istoreN X38.here hx rfl (hb hby at_17) rfl (l' := #[iv q1, iv 0, rv a_SUCCESS, iv 0]) rfl ?_
      show Steps _ _ _ (T38.setTop (mkF m 18 #[iv q1, iv 0, rv a_SUCCESS, iv 0] [])) _
      refine XS.goto X38.here hx rfl (pc0 := 18) (pc' := 83) rfl (hb hby at_18) (by decide) (by decide) ?_
      show Steps _ _ _ (T38.setTop (mkF m 83 #[iv q1, iv 0, rv a_SUCCESS, iv 0] [])) _
      refine XS.aloadN X38.here hx rfl (hb hby at_83) rfl rfl ?_
      show Steps _ _ _ (T38.setTop (mkF m 84 #[iv q1, iv 0, rv a_SUCCESS, iv 0] [(.ref a_SUCCESS)])) _
      exact q
    obtain ⟨cq40, kq40, q40a, q40b, q40c⟩ := isOf hZ e38 (Exa.ext O0.2 E_SUCCESS)
    obtain ⟨_, _, ⟨T40, L40, k40, n40⟩, -, X40, ⟨Lc40, hQ40, l40, y40, z40⟩, st40⟩ := X38.virtualBack hx (y := y_0) (z := y_0) hown (mvT hZ (hw _ (wd 4 rfl))) (mvT hZ (hw _ (wd 5 rfl))) (notFace_of_selects (args := #[]) (mvT hZ (hw _ (wd 7 rfl)))) (mvT hZ (hw _ (wd 7 rfl))) (mvT hZ (hw _ (wd 6 rfl))) (by decide) (backOf (W := 0) (nr_0 l Z a0 hw [] a_SUCCESS a_FAIL a_RETRY a_CANCELLED a_PARTIAL_SUCCESS a_SKIPPED G  h0 n0 O0 ) hZ (hw _ (wd 8 rfl)) (hw _ (wd 2 rfl)) (by decide) (by decide)) q40a q40c (g := (mkF m 84 #[iv q1, iv 0, rv a_SUCCESS, iv 0] [(.ref a_SUCCESS)])) rfl (by rw [hml]; rfl) (Steps.refl _) (argsL := []) (rest := []) (lenOf pd_0 rfl) rfl (by show 2 * 0 + _ ≤ _; exact Nat.le_of_eq rfl) (hb hby at_84) (fun _ _ => ⟨rfl, e38, (by decide : 0 + 0 ≤ _), (by decide : 0 + 0 ≤ _)⟩)
    dsimp only [Pt.U, Pt.locs, Pt.cells, Pt.slots] at X40 l40 y40 z40 st40 hQ40
    subst l40 y40 z40
    obtain ⟨rfl, N40q, e40⟩ := hQ40
    have N40 := Fr.app N0 N40q
    have k_41 : Go p.tables e below (s₁.setTop (entryFrame m #[(.int q1)] maxLocals)) (T40.setTop (mkF m 96 #[iv q1, iv 0, rv a_SUCCESS, iv 0] [(.int 1)])) := fun t q => by
      refine k_39 t ?_
      refine st40.trans ?_
      show Steps _ _ _ (T40.setTop (mkF m 87 #[iv q1, iv 0, rv a_SUCCESS, iv 0] [(.int 0)])) _
      refine XS.iloadN X40.here hx rfl (hb hby at_87) rfl ?_
      show Steps _ _ _ (T40.setTop (mkF m 88 #[iv q1, iv 0, rv a_SUCCESS, iv 0] [(.int 0), (.int 0)])) _
      refine XS.icmpNo X40.here hx rfl (hb hby at_88) rfl (by decide) ?_
      show Steps _ _ _ (T40.setTop (mkF m 91 #[iv q1, iv 0, rv a_SUCCESS, iv 0] [])) _
      refine XS.iconst X40.here hx rfl (hb hby at_91) ?_
      show Steps _ _ _ (T40.setTop (mkF m 92 #[iv q1, iv 0, rv a_SUCCESS, iv 0] [(.int 1)])) _
      refine XS.goto X40.here hx rfl (pc0 := 92) (pc' := 96) rfl (hb hby at_92) (by decide) (by decide) ?_
      show Steps _ _ _ (T40.setTop (mkF m 96 #[iv q1, iv 0, rv a_SUCCESS, iv 0] [(.int 1)])) _
      exact q
    obtain ⟨fs, hr, hrun, hended, hW, hsame⟩ := X40.leave (v := some (.int 1)) (fun h => by rw [Bd.returns] at h; cases h)
    refine ⟨_, _, k_41 _ ?_, hrun, hended, _, _, rfl, ?_, ⟨_, rfl⟩, hW, hsame.mono (by decide) (by decide)⟩
    · exact retN X40 hx (t := .boolean) Bd.returns (by simp) (hb hby at_96) hr
    · show Q0 n0 _ T40.heap _
      rw [e40]
      exact ⟨rfl, N40⟩
  · skip
    have k_42 : Go p.tables e below (s₁.setTop (entryFrame m #[(.int q1)] maxLocals)) (s₁.setTop (mkF m 26 #[iv q1, iv 1, .unset, .unset] [])) := fun t q => by
      refine k0 t ?_
      refine XS.iloadN X0.here hx rfl (hb hby at_0) rfl ?_
      show Steps _ _ _ (s₁.setTop (mkF m 1 #[iv q1, .unset, .unset, .unset] [(.int q1)])) _
      refine X0.ldcInt hx hown (mvT hZ (hw _ (wd 0 rfl))) (g := (mkF m 1 #[iv q1, .unset, .unset, .unset] [(.int q1)])) rfl (hb hby at_1) _ ?_
      show Steps _ _ _ (s₁.setTop (mkF m 3 #[iv q1, .unset, .unset, .unset] [(.int 2147483647), (.int q1)])) _
      refine XS.iand X0.here hx rfl (hb hby at_3) rfl ?_
      show Steps _ _ _ (s₁.setTop (mkF m 4 #[iv q1, .unset, .unset, .unset] [(.int (q1 &&& (2147483647 : Int32)))])) _
      refine XS.bipush X0.here hx rfl (hb hby at_4) ?_
      show Steps _ _ _ (s₁.setTop (mkF m 6 #[iv q1, .unset, .unset, .unset] [(.int 6), (.int (q1 &&& (2147483647 : Int32)))])) _
      refine iremM (g := (mkF m 6 #[iv q1, .unset, .unset, .unset] [(.int 6), (.int (q1 &&& (2147483647 : Int32)))])) X0 hx rfl (hb hby at_6) rfl (by decide) ?_
      show Steps _ _ _ (s₁.setTop (mkF m 7 #[iv q1, .unset, .unset, .unset] [(.int ((q1 &&& (2147483647 : Int32)) % (6 : Int32)))])) _
      rw [hi]
      show Steps _ _ _ (s₁.setTop (mkF m 7 #[iv q1, .unset, .unset, .unset] [(.int 1)])) _
      refine XS.istoreN X0.here hx rfl (hb hby at_7) rfl (l' := #[iv q1, iv 1, .unset, .unset]) rfl ?_
      show Steps _ _ _ (s₁.setTop (mkF m 8 #[iv q1, iv 1, .unset, .unset] [])) _
      refine XS.iloadN X0.here hx rfl (hb hby at_8) rfl ?_
      show Steps _ _ _ (s₁.setTop (mkF m 9 #[iv q1, iv 1, .unset, .unset] [(.int 1)])) _
      refine XS.ifYes X0.here hx rfl (pc0 := 9) (pc' := 21) rfl (hb hby at_9) rfl (by decide) (by decide) (by decide) ?_
      show Steps _ _ _ (s₁.setTop (mkF m 21 #[iv q1, iv 1, .unset, .unset] [])) _
      refine XS.iloadN X0.here hx rfl (hb hby at_21) rfl ?_
      show Steps _ _ _ (s₁.setTop (mkF m 22 #[iv q1, iv 1, .unset, .unset] [(.int 1)])) _
      refine XS.iconst X0.here hx rfl (hb hby at_22) ?_
      show Steps _ _ _ (s₁.setTop (mkF m 23 #[iv q1, iv 1, .unset, .unset] [(.int 1), (.int 1)])) _
      refine XS.icmpNo X0.here hx rfl (hb hby at_23) rfl (by decide) ?_
      show Steps _ _ _ (s₁.setTop (mkF m 26 #[iv q1, iv 1, .unset, .unset] [])) _
      exact q
    obtain ⟨T43, X43, e43, st43⟩ := getS2 X0 hx hZ hown (host := "") (Or.inl (hw _ (wd 17 rfl))) Via.refl e0 (S_PARTIAL_SUCCESS.ext O0.2) (g := (mkF m 26 #[iv q1, iv 1, .unset, .unset] [])) rfl (hb hby at_26)
    have k_44 : Go p.tables e below (s₁.setTop (entryFrame m #[(.int q1)] maxLocals)) (T43.setTop (mkF m 84 #[iv q1, iv 1, rv a_PARTIAL_SUCCESS, iv 0] [(.ref a_PARTIAL_SUCCESS)])) := fun t q => by
      refine k_42 t ?_
      refine st43 _ ?_
      show Steps _ _ _ (T43.setTop (mkF m 29 #[iv q1, iv 1, .unset, .unset] [(.ref a_PARTIAL_SUCCESS)])) _
      refine XS.astoreN X43.here hx rfl (hb hby at_29) rfl rfl (l' := #[iv q1, iv 1, rv a_PARTIAL_SUCCESS, .unset]) rfl ?_
      show Steps _ _ _ (T43.setTop (mkF m 30 #[iv q1, iv 1, rv a_PARTIAL_SUCCESS, .unset] [])) _
      refine XS.iconst X43.here hx rfl (hb hby at_30) ?_
      show Steps _ _ _ (T43.setTop (mkF m 31 #[iv q1, iv 1, rv a_PARTIAL_SUCCESS, .unset] [(.int 0)])) _
      refine XS.istoreN X43.here hx rfl (hb hby at_31) rfl (l' := #[iv q1, iv 1, rv a_PARTIAL_SUCCESS, iv 0]) rfl ?_
      show Steps _ _ _ (T43.setTop (mkF m 32 #[iv q1, iv 1, rv a_PARTIAL_SUCCESS, iv 0] [])) _
      refine XS.goto X43.here hx rfl (pc0 := 32) (pc' := 83) rfl (hb hby at_32) (by decide) (by decide) ?_
      show Steps _ _ _ (T43.setTop (mkF m 83 #[iv q1, iv 1, rv a_PARTIAL_SUCCESS, iv 0] [])) _
      refine XS.aloadN X43.here hx rfl (hb hby at_83) rfl rfl ?_
      show Steps _ _ _ (T43.setTop (mkF m 84 #[iv q1, iv 1, rv a_PARTIAL_SUCCESS, iv 0] [(.ref a_PARTIAL_SUCCESS)])) _
      exact q
    obtain ⟨cq45, kq45, q45a, q45b, q45c⟩ := isOf hZ e43 (Exa.ext O0.2 E_PARTIAL_SUCCESS)
    obtain ⟨_, _, ⟨T45, L45, k45, n45⟩, -, X45, ⟨Lc45, hQ45, l45, y45, z45⟩, st45⟩ := X43.virtualBack hx (y := y_0) (z := y_0) hown (mvT hZ (hw _ (wd 4 rfl))) (mvT hZ (hw _ (wd 5 rfl))) (notFace_of_selects (args := #[]) (mvT hZ (hw _ (wd 7 rfl)))) (mvT hZ (hw _ (wd 7 rfl))) (mvT hZ (hw _ (wd 6 rfl))) (by decide) (backOf (W := 0) (nr_1 l Z a0 hw [] a_SUCCESS a_FAIL a_RETRY a_CANCELLED a_PARTIAL_SUCCESS a_SKIPPED G  h0 n0 O0 ) hZ (hw _ (wd 8 rfl)) (hw _ (wd 2 rfl)) (by decide) (by decide)) q45a q45c (g := (mkF m 84 #[iv q1, iv 1, rv a_PARTIAL_SUCCESS, iv 0] [(.ref a_PARTIAL_SUCCESS)])) rfl (by rw [hml]; rfl) (Steps.refl _) (argsL := []) (rest := []) (lenOf pd_0 rfl) rfl (by show 2 * 0 + _ ≤ _; exact Nat.le_of_eq rfl) (hb hby at_84) (fun _ _ => ⟨rfl, e43, (by decide : 0 + 0 ≤ _), (by decide : 0 + 0 ≤ _)⟩)
    dsimp only [Pt.U, Pt.locs, Pt.cells, Pt.slots] at X45 l45 y45 z45 st45 hQ45
    subst l45 y45 z45
    obtain ⟨rfl, N45q, e45⟩ := hQ45
    have N45 := Fr.app N0 N45q
    have k_46 : Go p.tables e below (s₁.setTop (entryFrame m #[(.int q1)] maxLocals)) (T45.setTop (mkF m 96 #[iv q1, iv 1, rv a_PARTIAL_SUCCESS, iv 0] [(.int 1)])) := fun t q => by
      refine k_44 t ?_
      refine st45.trans ?_
      show Steps _ _ _ (T45.setTop (mkF m 87 #[iv q1, iv 1, rv a_PARTIAL_SUCCESS, iv 0] [(.int 0)])) _
      refine XS.iloadN X45.here hx rfl (hb hby at_87) rfl ?_
      show Steps _ _ _ (T45.setTop (mkF m 88 #[iv q1, iv 1, rv a_PARTIAL_SUCCESS, iv 0] [(.int 0), (.int 0)])) _
      refine XS.icmpNo X45.here hx rfl (hb hby at_88) rfl (by decide) ?_
      show Steps _ _ _ (T45.setTop (mkF m 91 #[iv q1, iv 1, rv a_PARTIAL_SUCCESS, iv 0] [])) _
      refine XS.iconst X45.here hx rfl (hb hby at_91) ?_
      show Steps _ _ _ (T45.setTop (mkF m 92 #[iv q1, iv 1, rv a_PARTIAL_SUCCESS, iv 0] [(.int 1)])) _
      refine XS.goto X45.here hx rfl (pc0 := 92) (pc' := 96) rfl (hb hby at_92) (by decide) (by decide) ?_
      show Steps _ _ _ (T45.setTop (mkF m 96 #[iv q1, iv 1, rv a_PARTIAL_SUCCESS, iv 0] [(.int 1)])) _
      exact q
    obtain ⟨fs, hr, hrun, hended, hW, hsame⟩ := X45.leave (v := some (.int 1)) (fun h => by rw [Bd.returns] at h; cases h)
    refine ⟨_, _, k_46 _ ?_, hrun, hended, _, _, rfl, ?_, ⟨_, rfl⟩, hW, hsame.mono (by decide) (by decide)⟩
    · exact retN X45 hx (t := .boolean) Bd.returns (by simp) (hb hby at_96) hr
    · show Q0 n0 _ T45.heap _
      rw [e45]
      exact ⟨rfl, N45⟩
  · skip
    have k_47 : Go p.tables e below (s₁.setTop (entryFrame m #[(.int q1)] maxLocals)) (s₁.setTop (mkF m 40 #[iv q1, iv 2, .unset, .unset] [])) := fun t q => by
      refine k0 t ?_
      refine XS.iloadN X0.here hx rfl (hb hby at_0) rfl ?_
      show Steps _ _ _ (s₁.setTop (mkF m 1 #[iv q1, .unset, .unset, .unset] [(.int q1)])) _
      refine X0.ldcInt hx hown (mvT hZ (hw _ (wd 0 rfl))) (g := (mkF m 1 #[iv q1, .unset, .unset, .unset] [(.int q1)])) rfl (hb hby at_1) _ ?_
      show Steps _ _ _ (s₁.setTop (mkF m 3 #[iv q1, .unset, .unset, .unset] [(.int 2147483647), (.int q1)])) _
      refine XS.iand X0.here hx rfl (hb hby at_3) rfl ?_
      show Steps _ _ _ (s₁.setTop (mkF m 4 #[iv q1, .unset, .unset, .unset] [(.int (q1 &&& (2147483647 : Int32)))])) _
      refine XS.bipush X0.here hx rfl (hb hby at_4) ?_
      show Steps _ _ _ (s₁.setTop (mkF m 6 #[iv q1, .unset, .unset, .unset] [(.int 6), (.int (q1 &&& (2147483647 : Int32)))])) _
      refine iremM (g := (mkF m 6 #[iv q1, .unset, .unset, .unset] [(.int 6), (.int (q1 &&& (2147483647 : Int32)))])) X0 hx rfl (hb hby at_6) rfl (by decide) ?_
      show Steps _ _ _ (s₁.setTop (mkF m 7 #[iv q1, .unset, .unset, .unset] [(.int ((q1 &&& (2147483647 : Int32)) % (6 : Int32)))])) _
      rw [hi]
      show Steps _ _ _ (s₁.setTop (mkF m 7 #[iv q1, .unset, .unset, .unset] [(.int 2)])) _
      refine XS.istoreN X0.here hx rfl (hb hby at_7) rfl (l' := #[iv q1, iv 2, .unset, .unset]) rfl ?_
      show Steps _ _ _ (s₁.setTop (mkF m 8 #[iv q1, iv 2, .unset, .unset] [])) _
      refine XS.iloadN X0.here hx rfl (hb hby at_8) rfl ?_
      show Steps _ _ _ (s₁.setTop (mkF m 9 #[iv q1, iv 2, .unset, .unset] [(.int 2)])) _
      refine XS.ifYes X0.here hx rfl (pc0 := 9) (pc' := 21) rfl (hb hby at_9) rfl (by decide) (by decide) (by decide) ?_
      show Steps _ _ _ (s₁.setTop (mkF m 21 #[iv q1, iv 2, .unset, .unset] [])) _
      refine XS.iloadN X0.here hx rfl (hb hby at_21) rfl ?_
      show Steps _ _ _ (s₁.setTop (mkF m 22 #[iv q1, iv 2, .unset, .unset] [(.int 2)])) _
      refine XS.iconst X0.here hx rfl (hb hby at_22) ?_
      show Steps _ _ _ (s₁.setTop (mkF m 23 #[iv q1, iv 2, .unset, .unset] [(.int 1), (.int 2)])) _
      refine XS.icmpYes X0.here hx rfl (pc0 := 23) (pc' := 35) rfl (hb hby at_23) rfl (by decide) (by decide) (by decide) ?_
      show Steps _ _ _ (s₁.setTop (mkF m 35 #[iv q1, iv 2, .unset, .unset] [])) _
      refine XS.iloadN X0.here hx rfl (hb hby at_35) rfl ?_
      show Steps _ _ _ (s₁.setTop (mkF m 36 #[iv q1, iv 2, .unset, .unset] [(.int 2)])) _
      refine XS.iconst X0.here hx rfl (hb hby at_36) ?_
      show Steps _ _ _ (s₁.setTop (mkF m 37 #[iv q1, iv 2, .unset, .unset] [(.int 2), (.int 2)])) _
      refine XS.icmpNo X0.here hx rfl (hb hby at_37) rfl (by decide) ?_
      show Steps _ _ _ (s₁.setTop (mkF m 40 #[iv q1, iv 2, .unset, .unset] [])) _
      exact q
    obtain ⟨T48, X48, e48, st48⟩ := getS2 X0 hx hZ hown (host := "") (Or.inl (hw _ (wd 16 rfl))) Via.refl e0 (S_RETRY.ext O0.2) (g := (mkF m 40 #[iv q1, iv 2, .unset, .unset] [])) rfl (hb hby at_40)
    have k_49 : Go p.tables e below (s₁.setTop (entryFrame m #[(.int q1)] maxLocals)) (T48.setTop (mkF m 84 #[iv q1, iv 2, rv a_RETRY, iv 1] [(.ref a_RETRY)])) := fun t q => by
      refine k_47 t ?_
      refine st48 _ ?_
      show Steps _ _ _ (T48.setTop (mkF m 43 #[iv q1, iv 2, .unset, .unset] [(.ref a_RETRY)])) _
      refine XS.astoreN X48.here hx rfl (hb hby at_43) rfl rfl (l' := #[iv q1, iv 2, rv a_RETRY, .unset]) rfl ?_
      show Steps _ _ _ (T48.setTop (mkF m 44 #[iv q1, iv 2, rv a_RETRY, .unset] [])) _
      refine XS.iconst X48.here hx rfl (hb hby at_44) ?_
      show Steps _ _ _ (T48.setTop (mkF m 45 #[iv q1, iv 2, rv a_RETRY, .unset] [(.int 1)])) _
      refine XS.istoreN X48.here hx rfl (hb hby at_45) rfl (l' := #[iv q1, iv 2, rv a_RETRY, iv 1]) rfl ?_
      show Steps _ _ _ (T48.setTop (mkF m 46 #[iv q1, iv 2, rv a_RETRY, iv 1] [])) _
      refine XS.goto X48.here hx rfl (pc0 := 46) (pc' := 83) rfl (hb hby at_46) (by decide) (by decide) ?_
      show Steps _ _ _ (T48.setTop (mkF m 83 #[iv q1, iv 2, rv a_RETRY, iv 1] [])) _
      refine XS.aloadN X48.here hx rfl (hb hby at_83) rfl rfl ?_
      show Steps _ _ _ (T48.setTop (mkF m 84 #[iv q1, iv 2, rv a_RETRY, iv 1] [(.ref a_RETRY)])) _
      exact q
    obtain ⟨cq50, kq50, q50a, q50b, q50c⟩ := isOf hZ e48 (Exa.ext O0.2 E_RETRY)
    obtain ⟨_, _, ⟨T50, L50, k50, n50⟩, -, X50, ⟨Lc50, hQ50, l50, y50, z50⟩, st50⟩ := X48.virtualBack hx (y := y_0) (z := y_0) hown (mvT hZ (hw _ (wd 4 rfl))) (mvT hZ (hw _ (wd 5 rfl))) (notFace_of_selects (args := #[]) (mvT hZ (hw _ (wd 7 rfl)))) (mvT hZ (hw _ (wd 7 rfl))) (mvT hZ (hw _ (wd 6 rfl))) (by decide) (backOf (W := 0) (nr_2 l Z a0 hw [] a_SUCCESS a_FAIL a_RETRY a_CANCELLED a_PARTIAL_SUCCESS a_SKIPPED G  h0 n0 O0 ) hZ (hw _ (wd 8 rfl)) (hw _ (wd 2 rfl)) (by decide) (by decide)) q50a q50c (g := (mkF m 84 #[iv q1, iv 2, rv a_RETRY, iv 1] [(.ref a_RETRY)])) rfl (by rw [hml]; rfl) (Steps.refl _) (argsL := []) (rest := []) (lenOf pd_0 rfl) rfl (by show 2 * 0 + _ ≤ _; exact Nat.le_of_eq rfl) (hb hby at_84) (fun _ _ => ⟨rfl, e48, (by decide : 0 + 0 ≤ _), (by decide : 0 + 0 ≤ _)⟩)
    dsimp only [Pt.U, Pt.locs, Pt.cells, Pt.slots] at X50 l50 y50 z50 st50 hQ50
    subst l50 y50 z50
    obtain ⟨rfl, N50q, e50⟩ := hQ50
    have N50 := Fr.app N0 N50q
    have k_51 : Go p.tables e below (s₁.setTop (entryFrame m #[(.int q1)] maxLocals)) (T50.setTop (mkF m 96 #[iv q1, iv 2, rv a_RETRY, iv 1] [(.int 1)])) := fun t q => by
      refine k_49 t ?_
      refine st50.trans ?_
      show Steps _ _ _ (T50.setTop (mkF m 87 #[iv q1, iv 2, rv a_RETRY, iv 1] [(.int 1)])) _
      refine XS.iloadN X50.here hx rfl (hb hby at_87) rfl ?_
      show Steps _ _ _ (T50.setTop (mkF m 88 #[iv q1, iv 2, rv a_RETRY, iv 1] [(.int 1), (.int 1)])) _
      refine XS.icmpNo X50.here hx rfl (hb hby at_88) rfl (by decide) ?_
      show Steps _ _ _ (T50.setTop (mkF m 91 #[iv q1, iv 2, rv a_RETRY, iv 1] [])) _
      refine XS.iconst X50.here hx rfl (hb hby at_91) ?_
      show Steps _ _ _ (T50.setTop (mkF m 92 #[iv q1, iv 2, rv a_RETRY, iv 1] [(.int 1)])) _
      refine XS.goto X50.here hx rfl (pc0 := 92) (pc' := 96) rfl (hb hby at_92) (by decide) (by decide) ?_
      show Steps _ _ _ (T50.setTop (mkF m 96 #[iv q1, iv 2, rv a_RETRY, iv 1] [(.int 1)])) _
      exact q
    obtain ⟨fs, hr, hrun, hended, hW, hsame⟩ := X50.leave (v := some (.int 1)) (fun h => by rw [Bd.returns] at h; cases h)
    refine ⟨_, _, k_51 _ ?_, hrun, hended, _, _, rfl, ?_, ⟨_, rfl⟩, hW, hsame.mono (by decide) (by decide)⟩
    · exact retN X50 hx (t := .boolean) Bd.returns (by simp) (hb hby at_96) hr
    · show Q0 n0 _ T50.heap _
      rw [e50]
      exact ⟨rfl, N50⟩
  · skip
    have k_52 : Go p.tables e below (s₁.setTop (entryFrame m #[(.int q1)] maxLocals)) (s₁.setTop (mkF m 54 #[iv q1, iv 3, .unset, .unset] [])) := fun t q => by
      refine k0 t ?_
      refine XS.iloadN X0.here hx rfl (hb hby at_0) rfl ?_
      show Steps _ _ _ (s₁.setTop (mkF m 1 #[iv q1, .unset, .unset, .unset] [(.int q1)])) _
      refine X0.ldcInt hx hown (mvT hZ (hw _ (wd 0 rfl))) (g := (mkF m 1 #[iv q1, .unset, .unset, .unset] [(.int q1)])) rfl (hb hby at_1) _ ?_
      show Steps _ _ _ (s₁.setTop (mkF m 3 #[iv q1, .unset, .unset, .unset] [(.int 2147483647), (.int q1)])) _
      refine XS.iand X0.here hx rfl (hb hby at_3) rfl ?_
      show Steps _ _ _ (s₁.setTop (mkF m 4 #[iv q1, .unset, .unset, .unset] [(.int (q1 &&& (2147483647 : Int32)))])) _
      refine XS.bipush X0.here hx rfl (hb hby at_4) ?_
      show Steps _ _ _ (s₁.setTop (mkF m 6 #[iv q1, .unset, .unset, .unset] [(.int 6), (.int (q1 &&& (2147483647 : Int32)))])) _
      refine iremM (g := (mkF m 6 #[iv q1, .unset, .unset, .unset] [(.int 6), (.int (q1 &&& (2147483647 : Int32)))])) X0 hx rfl (hb hby at_6) rfl (by decide) ?_
      show Steps _ _ _ (s₁.setTop (mkF m 7 #[iv q1, .unset, .unset, .unset] [(.int ((q1 &&& (2147483647 : Int32)) % (6 : Int32)))])) _
      rw [hi]
      show Steps _ _ _ (s₁.setTop (mkF m 7 #[iv q1, .unset, .unset, .unset] [(.int 3)])) _
      refine XS.istoreN X0.here hx rfl (hb hby at_7) rfl (l' := #[iv q1, iv 3, .unset, .unset]) rfl ?_
      show Steps _ _ _ (s₁.setTop (mkF m 8 #[iv q1, iv 3, .unset, .unset] [])) _
      refine XS.iloadN X0.here hx rfl (hb hby at_8) rfl ?_
      show Steps _ _ _ (s₁.setTop (mkF m 9 #[iv q1, iv 3, .unset, .unset] [(.int 3)])) _
      refine XS.ifYes X0.here hx rfl (pc0 := 9) (pc' := 21) rfl (hb hby at_9) rfl (by decide) (by decide) (by decide) ?_
      show Steps _ _ _ (s₁.setTop (mkF m 21 #[iv q1, iv 3, .unset, .unset] [])) _
      refine XS.iloadN X0.here hx rfl (hb hby at_21) rfl ?_
      show Steps _ _ _ (s₁.setTop (mkF m 22 #[iv q1, iv 3, .unset, .unset] [(.int 3)])) _
      refine XS.iconst X0.here hx rfl (hb hby at_22) ?_
      show Steps _ _ _ (s₁.setTop (mkF m 23 #[iv q1, iv 3, .unset, .unset] [(.int 1), (.int 3)])) _
      refine XS.icmpYes X0.here hx rfl (pc0 := 23) (pc' := 35) rfl (hb hby at_23) rfl (by decide) (by decide) (by decide) ?_
      show Steps _ _ _ (s₁.setTop (mkF m 35 #[iv q1, iv 3, .unset, .unset] [])) _
      refine XS.iloadN X0.here hx rfl (hb hby at_35) rfl ?_
      show Steps _ _ _ (s₁.setTop (mkF m 36 #[iv q1, iv 3, .unset, .unset] [(.int 3)])) _
      refine XS.iconst X0.here hx rfl (hb hby at_36) ?_
      show Steps _ _ _ (s₁.setTop (mkF m 37 #[iv q1, iv 3, .unset, .unset] [(.int 2), (.int 3)])) _
      refine XS.icmpYes X0.here hx rfl (pc0 := 37) (pc' := 49) rfl (hb hby at_37) rfl (by decide) (by decide) (by decide) ?_
      show Steps _ _ _ (s₁.setTop (mkF m 49 #[iv q1, iv 3, .unset, .unset] [])) _
      refine XS.iloadN X0.here hx rfl (hb hby at_49) rfl ?_
      show Steps _ _ _ (s₁.setTop (mkF m 50 #[iv q1, iv 3, .unset, .unset] [(.int 3)])) _
      refine XS.iconst X0.here hx rfl (hb hby at_50) ?_
      show Steps _ _ _ (s₁.setTop (mkF m 51 #[iv q1, iv 3, .unset, .unset] [(.int 3), (.int 3)])) _
      refine XS.icmpNo X0.here hx rfl (hb hby at_51) rfl (by decide) ?_
      show Steps _ _ _ (s₁.setTop (mkF m 54 #[iv q1, iv 3, .unset, .unset] [])) _
      exact q
    obtain ⟨T53, X53, e53, st53⟩ := getS2 X0 hx hZ hown (host := "") (Or.inl (hw _ (wd 15 rfl))) Via.refl e0 (S_FAIL.ext O0.2) (g := (mkF m 54 #[iv q1, iv 3, .unset, .unset] [])) rfl (hb hby at_54)
    have k_54 : Go p.tables e below (s₁.setTop (entryFrame m #[(.int q1)] maxLocals)) (T53.setTop (mkF m 84 #[iv q1, iv 3, rv a_FAIL, iv 1] [(.ref a_FAIL)])) := fun t q => by
      refine k_52 t ?_
      refine st53 _ ?_
      show Steps _ _ _ (T53.setTop (mkF m 57 #[iv q1, iv 3, .unset, .unset] [(.ref a_FAIL)])) _
      refine XS.astoreN X53.here hx rfl (hb hby at_57) rfl rfl (l' := #[iv q1, iv 3, rv a_FAIL, .unset]) rfl ?_
      show Steps _ _ _ (T53.setTop (mkF m 58 #[iv q1, iv 3, rv a_FAIL, .unset] [])) _
      refine XS.iconst X53.here hx rfl (hb hby at_58) ?_
      show Steps _ _ _ (T53.setTop (mkF m 59 #[iv q1, iv 3, rv a_FAIL, .unset] [(.int 1)])) _
      refine XS.istoreN X53.here hx rfl (hb hby at_59) rfl (l' := #[iv q1, iv 3, rv a_FAIL, iv 1]) rfl ?_
      show Steps _ _ _ (T53.setTop (mkF m 60 #[iv q1, iv 3, rv a_FAIL, iv 1] [])) _
      refine XS.goto X53.here hx rfl (pc0 := 60) (pc' := 83) rfl (hb hby at_60) (by decide) (by decide) ?_
      show Steps _ _ _ (T53.setTop (mkF m 83 #[iv q1, iv 3, rv a_FAIL, iv 1] [])) _
      refine XS.aloadN X53.here hx rfl (hb hby at_83) rfl rfl ?_
      show Steps _ _ _ (T53.setTop (mkF m 84 #[iv q1, iv 3, rv a_FAIL, iv 1] [(.ref a_FAIL)])) _
      exact q
    obtain ⟨cq55, kq55, q55a, q55b, q55c⟩ := isOf hZ e53 (Exa.ext O0.2 E_FAIL)
    obtain ⟨_, _, ⟨T55, L55, k55, n55⟩, -, X55, ⟨Lc55, hQ55, l55, y55, z55⟩, st55⟩ := X53.virtualBack hx (y := y_0) (z := y_0) hown (mvT hZ (hw _ (wd 4 rfl))) (mvT hZ (hw _ (wd 5 rfl))) (notFace_of_selects (args := #[]) (mvT hZ (hw _ (wd 7 rfl)))) (mvT hZ (hw _ (wd 7 rfl))) (mvT hZ (hw _ (wd 6 rfl))) (by decide) (backOf (W := 0) (nr_3 l Z a0 hw [] a_SUCCESS a_FAIL a_RETRY a_CANCELLED a_PARTIAL_SUCCESS a_SKIPPED G  h0 n0 O0 ) hZ (hw _ (wd 8 rfl)) (hw _ (wd 2 rfl)) (by decide) (by decide)) q55a q55c (g := (mkF m 84 #[iv q1, iv 3, rv a_FAIL, iv 1] [(.ref a_FAIL)])) rfl (by rw [hml]; rfl) (Steps.refl _) (argsL := []) (rest := []) (lenOf pd_0 rfl) rfl (by show 2 * 0 + _ ≤ _; exact Nat.le_of_eq rfl) (hb hby at_84) (fun _ _ => ⟨rfl, e53, (by decide : 0 + 0 ≤ _), (by decide : 0 + 0 ≤ _)⟩)
    dsimp only [Pt.U, Pt.locs, Pt.cells, Pt.slots] at X55 l55 y55 z55 st55 hQ55
    subst l55 y55 z55
    obtain ⟨rfl, N55q, e55⟩ := hQ55
    have N55 := Fr.app N0 N55q
    have k_56 : Go p.tables e below (s₁.setTop (entryFrame m #[(.int q1)] maxLocals)) (T55.setTop (mkF m 96 #[iv q1, iv 3, rv a_FAIL, iv 1] [(.int 1)])) := fun t q => by
      refine k_54 t ?_
      refine st55.trans ?_
      show Steps _ _ _ (T55.setTop (mkF m 87 #[iv q1, iv 3, rv a_FAIL, iv 1] [(.int 1)])) _
      refine XS.iloadN X55.here hx rfl (hb hby at_87) rfl ?_
      show Steps _ _ _ (T55.setTop (mkF m 88 #[iv q1, iv 3, rv a_FAIL, iv 1] [(.int 1), (.int 1)])) _
      refine XS.icmpNo X55.here hx rfl (hb hby at_88) rfl (by decide) ?_
      show Steps _ _ _ (T55.setTop (mkF m 91 #[iv q1, iv 3, rv a_FAIL, iv 1] [])) _
      refine XS.iconst X55.here hx rfl (hb hby at_91) ?_
      show Steps _ _ _ (T55.setTop (mkF m 92 #[iv q1, iv 3, rv a_FAIL, iv 1] [(.int 1)])) _
      refine XS.goto X55.here hx rfl (pc0 := 92) (pc' := 96) rfl (hb hby at_92) (by decide) (by decide) ?_
      show Steps _ _ _ (T55.setTop (mkF m 96 #[iv q1, iv 3, rv a_FAIL, iv 1] [(.int 1)])) _
      exact q
    obtain ⟨fs, hr, hrun, hended, hW, hsame⟩ := X55.leave (v := some (.int 1)) (fun h => by rw [Bd.returns] at h; cases h)
    refine ⟨_, _, k_56 _ ?_, hrun, hended, _, _, rfl, ?_, ⟨_, rfl⟩, hW, hsame.mono (by decide) (by decide)⟩
    · exact retN X55 hx (t := .boolean) Bd.returns (by simp) (hb hby at_96) hr
    · show Q0 n0 _ T55.heap _
      rw [e55]
      exact ⟨rfl, N55⟩
  · skip
    have k_57 : Go p.tables e below (s₁.setTop (entryFrame m #[(.int q1)] maxLocals)) (s₁.setTop (mkF m 68 #[iv q1, iv 4, .unset, .unset] [])) := fun t q => by
      refine k0 t ?_
      refine XS.iloadN X0.here hx rfl (hb hby at_0) rfl ?_
      show Steps _ _ _ (s₁.setTop (mkF m 1 #[iv q1, .unset, .unset, .unset] [(.int q1)])) _
      refine X0.ldcInt hx hown (mvT hZ (hw _ (wd 0 rfl))) (g := (mkF m 1 #[iv q1, .unset, .unset, .unset] [(.int q1)])) rfl (hb hby at_1) _ ?_
      show Steps _ _ _ (s₁.setTop (mkF m 3 #[iv q1, .unset, .unset, .unset] [(.int 2147483647), (.int q1)])) _
      refine XS.iand X0.here hx rfl (hb hby at_3) rfl ?_
      show Steps _ _ _ (s₁.setTop (mkF m 4 #[iv q1, .unset, .unset, .unset] [(.int (q1 &&& (2147483647 : Int32)))])) _
      refine XS.bipush X0.here hx rfl (hb hby at_4) ?_
      show Steps _ _ _ (s₁.setTop (mkF m 6 #[iv q1, .unset, .unset, .unset] [(.int 6), (.int (q1 &&& (2147483647 : Int32)))])) _
      refine iremM (g := (mkF m 6 #[iv q1, .unset, .unset, .unset] [(.int 6), (.int (q1 &&& (2147483647 : Int32)))])) X0 hx rfl (hb hby at_6) rfl (by decide) ?_
      show Steps _ _ _ (s₁.setTop (mkF m 7 #[iv q1, .unset, .unset, .unset] [(.int ((q1 &&& (2147483647 : Int32)) % (6 : Int32)))])) _
      rw [hi]
      show Steps _ _ _ (s₁.setTop (mkF m 7 #[iv q1, .unset, .unset, .unset] [(.int 4)])) _
      refine XS.istoreN X0.here hx rfl (hb hby at_7) rfl (l' := #[iv q1, iv 4, .unset, .unset]) rfl ?_
      show Steps _ _ _ (s₁.setTop (mkF m 8 #[iv q1, iv 4, .unset, .unset] [])) _
      refine XS.iloadN X0.here hx rfl (hb hby at_8) rfl ?_
      show Steps _ _ _ (s₁.setTop (mkF m 9 #[iv q1, iv 4, .unset, .unset] [(.int 4)])) _
      refine XS.ifYes X0.here hx rfl (pc0 := 9) (pc' := 21) rfl (hb hby at_9) rfl (by decide) (by decide) (by decide) ?_
      show Steps _ _ _ (s₁.setTop (mkF m 21 #[iv q1, iv 4, .unset, .unset] [])) _
      refine XS.iloadN X0.here hx rfl (hb hby at_21) rfl ?_
      show Steps _ _ _ (s₁.setTop (mkF m 22 #[iv q1, iv 4, .unset, .unset] [(.int 4)])) _
      refine XS.iconst X0.here hx rfl (hb hby at_22) ?_
      show Steps _ _ _ (s₁.setTop (mkF m 23 #[iv q1, iv 4, .unset, .unset] [(.int 1), (.int 4)])) _
      refine XS.icmpYes X0.here hx rfl (pc0 := 23) (pc' := 35) rfl (hb hby at_23) rfl (by decide) (by decide) (by decide) ?_
      show Steps _ _ _ (s₁.setTop (mkF m 35 #[iv q1, iv 4, .unset, .unset] [])) _
      refine XS.iloadN X0.here hx rfl (hb hby at_35) rfl ?_
      show Steps _ _ _ (s₁.setTop (mkF m 36 #[iv q1, iv 4, .unset, .unset] [(.int 4)])) _
      refine XS.iconst X0.here hx rfl (hb hby at_36) ?_
      show Steps _ _ _ (s₁.setTop (mkF m 37 #[iv q1, iv 4, .unset, .unset] [(.int 2), (.int 4)])) _
      refine XS.icmpYes X0.here hx rfl (pc0 := 37) (pc' := 49) rfl (hb hby at_37) rfl (by decide) (by decide) (by decide) ?_
      show Steps _ _ _ (s₁.setTop (mkF m 49 #[iv q1, iv 4, .unset, .unset] [])) _
      refine XS.iloadN X0.here hx rfl (hb hby at_49) rfl ?_
      show Steps _ _ _ (s₁.setTop (mkF m 50 #[iv q1, iv 4, .unset, .unset] [(.int 4)])) _
      refine XS.iconst X0.here hx rfl (hb hby at_50) ?_
      show Steps _ _ _ (s₁.setTop (mkF m 51 #[iv q1, iv 4, .unset, .unset] [(.int 3), (.int 4)])) _
      refine XS.icmpYes X0.here hx rfl (pc0 := 51) (pc' := 63) rfl (hb hby at_51) rfl (by decide) (by decide) (by decide) ?_
      show Steps _ _ _ (s₁.setTop (mkF m 63 #[iv q1, iv 4, .unset, .unset] [])) _
      refine XS.iloadN X0.here hx rfl (hb hby at_63) rfl ?_
      show Steps _ _ _ (s₁.setTop (mkF m 64 #[iv q1, iv 4, .unset, .unset] [(.int 4)])) _
      refine XS.iconst X0.here hx rfl (hb hby at_64) ?_
      show Steps _ _ _ (s₁.setTop (mkF m 65 #[iv q1, iv 4, .unset, .unset] [(.int 4), (.int 4)])) _
      refine XS.icmpNo X0.here hx rfl (hb hby at_65) rfl (by decide) ?_
      show Steps _ _ _ (s₁.setTop (mkF m 68 #[iv q1, iv 4, .unset, .unset] [])) _
      exact q
    obtain ⟨T58, X58, e58, st58⟩ := getS2 X0 hx hZ hown (host := "") (Or.inl (hw _ (wd 20 rfl))) Via.refl e0 (S_SKIPPED.ext O0.2) (g := (mkF m 68 #[iv q1, iv 4, .unset, .unset] [])) rfl (hb hby at_68)
    have k_59 : Go p.tables e below (s₁.setTop (entryFrame m #[(.int q1)] maxLocals)) (T58.setTop (mkF m 84 #[iv q1, iv 4, rv a_SKIPPED, iv 0] [(.ref a_SKIPPED)])) := fun t q => by
      refine k_57 t ?_
      refine st58 _ ?_
      show Steps _ _ _ (T58.setTop (mkF m 71 #[iv q1, iv 4, .unset, .unset] [(.ref a_SKIPPED)])) _
      refine XS.astoreN X58.here hx rfl (hb hby at_71) rfl rfl (l' := #[iv q1, iv 4, rv a_SKIPPED, .unset]) rfl ?_
      show Steps _ _ _ (T58.setTop (mkF m 72 #[iv q1, iv 4, rv a_SKIPPED, .unset] [])) _
      refine XS.iconst X58.here hx rfl (hb hby at_72) ?_
      show Steps _ _ _ (T58.setTop (mkF m 73 #[iv q1, iv 4, rv a_SKIPPED, .unset] [(.int 0)])) _
      refine XS.istoreN X58.here hx rfl (hb hby at_73) rfl (l' := #[iv q1, iv 4, rv a_SKIPPED, iv 0]) rfl ?_
      show Steps _ _ _ (T58.setTop (mkF m 74 #[iv q1, iv 4, rv a_SKIPPED, iv 0] [])) _
      refine XS.goto X58.here hx rfl (pc0 := 74) (pc' := 83) rfl (hb hby at_74) (by decide) (by decide) ?_
      show Steps _ _ _ (T58.setTop (mkF m 83 #[iv q1, iv 4, rv a_SKIPPED, iv 0] [])) _
      refine XS.aloadN X58.here hx rfl (hb hby at_83) rfl rfl ?_
      show Steps _ _ _ (T58.setTop (mkF m 84 #[iv q1, iv 4, rv a_SKIPPED, iv 0] [(.ref a_SKIPPED)])) _
      exact q
    obtain ⟨cq60, kq60, q60a, q60b, q60c⟩ := isOf hZ e58 (Exa.ext O0.2 E_SKIPPED)
    obtain ⟨_, _, ⟨T60, L60, k60, n60⟩, -, X60, ⟨Lc60, hQ60, l60, y60, z60⟩, st60⟩ := X58.virtualBack hx (y := y_0) (z := y_0) hown (mvT hZ (hw _ (wd 4 rfl))) (mvT hZ (hw _ (wd 5 rfl))) (notFace_of_selects (args := #[]) (mvT hZ (hw _ (wd 7 rfl)))) (mvT hZ (hw _ (wd 7 rfl))) (mvT hZ (hw _ (wd 6 rfl))) (by decide) (backOf (W := 0) (nr_4 l Z a0 hw [] a_SUCCESS a_FAIL a_RETRY a_CANCELLED a_PARTIAL_SUCCESS a_SKIPPED G  h0 n0 O0 ) hZ (hw _ (wd 8 rfl)) (hw _ (wd 2 rfl)) (by decide) (by decide)) q60a q60c (g := (mkF m 84 #[iv q1, iv 4, rv a_SKIPPED, iv 0] [(.ref a_SKIPPED)])) rfl (by rw [hml]; rfl) (Steps.refl _) (argsL := []) (rest := []) (lenOf pd_0 rfl) rfl (by show 2 * 0 + _ ≤ _; exact Nat.le_of_eq rfl) (hb hby at_84) (fun _ _ => ⟨rfl, e58, (by decide : 0 + 0 ≤ _), (by decide : 0 + 0 ≤ _)⟩)
    dsimp only [Pt.U, Pt.locs, Pt.cells, Pt.slots] at X60 l60 y60 z60 st60 hQ60
    subst l60 y60 z60
    obtain ⟨rfl, N60q, e60⟩ := hQ60
    have N60 := Fr.app N0 N60q
    have k_61 : Go p.tables e below (s₁.setTop (entryFrame m #[(.int q1)] maxLocals)) (T60.setTop (mkF m 96 #[iv q1, iv 4, rv a_SKIPPED, iv 0] [(.int 1)])) := fun t q => by
      refine k_59 t ?_
      refine st60.trans ?_
      show Steps _ _ _ (T60.setTop (mkF m 87 #[iv q1, iv 4, rv a_SKIPPED, iv 0] [(.int 0)])) _
      refine XS.iloadN X60.here hx rfl (hb hby at_87) rfl ?_
      show Steps _ _ _ (T60.setTop (mkF m 88 #[iv q1, iv 4, rv a_SKIPPED, iv 0] [(.int 0), (.int 0)])) _
      refine XS.icmpNo X60.here hx rfl (hb hby at_88) rfl (by decide) ?_
      show Steps _ _ _ (T60.setTop (mkF m 91 #[iv q1, iv 4, rv a_SKIPPED, iv 0] [])) _
      refine XS.iconst X60.here hx rfl (hb hby at_91) ?_
      show Steps _ _ _ (T60.setTop (mkF m 92 #[iv q1, iv 4, rv a_SKIPPED, iv 0] [(.int 1)])) _
      refine XS.goto X60.here hx rfl (pc0 := 92) (pc' := 96) rfl (hb hby at_92) (by decide) (by decide) ?_
      show Steps _ _ _ (T60.setTop (mkF m 96 #[iv q1, iv 4, rv a_SKIPPED, iv 0] [(.int 1)])) _
      exact q
    obtain ⟨fs, hr, hrun, hended, hW, hsame⟩ := X60.leave (v := some (.int 1)) (fun h => by rw [Bd.returns] at h; cases h)
    refine ⟨_, _, k_61 _ ?_, hrun, hended, _, _, rfl, ?_, ⟨_, rfl⟩, hW, hsame.mono (by decide) (by decide)⟩
    · exact retN X60 hx (t := .boolean) Bd.returns (by simp) (hb hby at_96) hr
    · show Q0 n0 _ T60.heap _
      rw [e60]
      exact ⟨rfl, N60⟩
  · skip
    have k_62 : Go p.tables e below (s₁.setTop (entryFrame m #[(.int q1)] maxLocals)) (s₁.setTop (mkF m 77 #[iv q1, iv 5, .unset, .unset] [])) := fun t q => by
      refine k0 t ?_
      refine XS.iloadN X0.here hx rfl (hb hby at_0) rfl ?_
      show Steps _ _ _ (s₁.setTop (mkF m 1 #[iv q1, .unset, .unset, .unset] [(.int q1)])) _
      refine X0.ldcInt hx hown (mvT hZ (hw _ (wd 0 rfl))) (g := (mkF m 1 #[iv q1, .unset, .unset, .unset] [(.int q1)])) rfl (hb hby at_1) _ ?_
      show Steps _ _ _ (s₁.setTop (mkF m 3 #[iv q1, .unset, .unset, .unset] [(.int 2147483647), (.int q1)])) _
      refine XS.iand X0.here hx rfl (hb hby at_3) rfl ?_
      show Steps _ _ _ (s₁.setTop (mkF m 4 #[iv q1, .unset, .unset, .unset] [(.int (q1 &&& (2147483647 : Int32)))])) _
      refine XS.bipush X0.here hx rfl (hb hby at_4) ?_
      show Steps _ _ _ (s₁.setTop (mkF m 6 #[iv q1, .unset, .unset, .unset] [(.int 6), (.int (q1 &&& (2147483647 : Int32)))])) _
      refine iremM (g := (mkF m 6 #[iv q1, .unset, .unset, .unset] [(.int 6), (.int (q1 &&& (2147483647 : Int32)))])) X0 hx rfl (hb hby at_6) rfl (by decide) ?_
      show Steps _ _ _ (s₁.setTop (mkF m 7 #[iv q1, .unset, .unset, .unset] [(.int ((q1 &&& (2147483647 : Int32)) % (6 : Int32)))])) _
      rw [hi]
      show Steps _ _ _ (s₁.setTop (mkF m 7 #[iv q1, .unset, .unset, .unset] [(.int 5)])) _
      refine XS.istoreN X0.here hx rfl (hb hby at_7) rfl (l' := #[iv q1, iv 5, .unset, .unset]) rfl ?_
      show Steps _ _ _ (s₁.setTop (mkF m 8 #[iv q1, iv 5, .unset, .unset] [])) _
      refine XS.iloadN X0.here hx rfl (hb hby at_8) rfl ?_
      show Steps _ _ _ (s₁.setTop (mkF m 9 #[iv q1, iv 5, .unset, .unset] [(.int 5)])) _
      refine XS.ifYes X0.here hx rfl (pc0 := 9) (pc' := 21) rfl (hb hby at_9) rfl (by decide) (by decide) (by decide) ?_
      show Steps _ _ _ (s₁.setTop (mkF m 21 #[iv q1, iv 5, .unset, .unset] [])) _
      refine XS.iloadN X0.here hx rfl (hb hby at_21) rfl ?_
      show Steps _ _ _ (s₁.setTop (mkF m 22 #[iv q1, iv 5, .unset, .unset] [(.int 5)])) _
      refine XS.iconst X0.here hx rfl (hb hby at_22) ?_
      show Steps _ _ _ (s₁.setTop (mkF m 23 #[iv q1, iv 5, .unset, .unset] [(.int 1), (.int 5)])) _
      refine XS.icmpYes X0.here hx rfl (pc0 := 23) (pc' := 35) rfl (hb hby at_23) rfl (by decide) (by decide) (by decide) ?_
      show Steps _ _ _ (s₁.setTop (mkF m 35 #[iv q1, iv 5, .unset, .unset] [])) _
      refine XS.iloadN X0.here hx rfl (hb hby at_35) rfl ?_
      show Steps _ _ _ (s₁.setTop (mkF m 36 #[iv q1, iv 5, .unset, .unset] [(.int 5)])) _
      refine XS.iconst X0.here hx rfl (hb hby at_36) ?_
      show Steps _ _ _ (s₁.setTop (mkF m 37 #[iv q1, iv 5, .unset, .unset] [(.int 2), (.int 5)])) _
      refine XS.icmpYes X0.here hx rfl (pc0 := 37) (pc' := 49) rfl (hb hby at_37) rfl (by decide) (by decide) (by decide) ?_
      show Steps _ _ _ (s₁.setTop (mkF m 49 #[iv q1, iv 5, .unset, .unset] [])) _
      refine XS.iloadN X0.here hx rfl (hb hby at_49) rfl ?_
      show Steps _ _ _ (s₁.setTop (mkF m 50 #[iv q1, iv 5, .unset, .unset] [(.int 5)])) _
      refine XS.iconst X0.here hx rfl (hb hby at_50) ?_
      show Steps _ _ _ (s₁.setTop (mkF m 51 #[iv q1, iv 5, .unset, .unset] [(.int 3), (.int 5)])) _
      refine XS.icmpYes X0.here hx rfl (pc0 := 51) (pc' := 63) rfl (hb hby at_51) rfl (by decide) (by decide) (by decide) ?_
      show Steps _ _ _ (s₁.setTop (mkF m 63 #[iv q1, iv 5, .unset, .unset] [])) _
      refine XS.iloadN X0.here hx rfl (hb hby at_63) rfl ?_
      show Steps _ _ _ (s₁.setTop (mkF m 64 #[iv q1, iv 5, .unset, .unset] [(.int 5)])) _
      refine XS.iconst X0.here hx rfl (hb hby at_64) ?_
      show Steps _ _ _ (s₁.setTop (mkF m 65 #[iv q1, iv 5, .unset, .unset] [(.int 4), (.int 5)])) _
      refine XS.icmpYes X0.here hx rfl (pc0 := 65) (pc' := 77) rfl (hb hby at_65) rfl (by decide) (by decide) (by decide) ?_
      show Steps _ _ _ (s₁.setTop (mkF m 77 #[iv q1, iv 5, .unset, .unset] [])) _
      exact q
    obtain ⟨T63, X63, e63, st63⟩ := getS2 X0 hx hZ hown (host := "") (Or.inl (hw _ (wd 19 rfl))) Via.refl e0 (S_CANCELLED.ext O0.2) (g := (mkF m 77 #[iv q1, iv 5, .unset, .unset] [])) rfl (hb hby at_77)
    have k_64 : Go p.tables e below (s₁.setTop (entryFrame m #[(.int q1)] maxLocals)) (T63.setTop (mkF m 84 #[iv q1, iv 5, rv a_CANCELLED, iv 1] [(.ref a_CANCELLED)])) := fun t q => by
      refine k_62 t ?_
      refine st63 _ ?_
      show Steps _ _ _ (T63.setTop (mkF m 80 #[iv q1, iv 5, .unset, .unset] [(.ref a_CANCELLED)])) _
      refine XS.astoreN X63.here hx rfl (hb hby at_80) rfl rfl (l' := #[iv q1, iv 5, rv a_CANCELLED, .unset]) rfl ?_
      show Steps _ _ _ (T63.setTop (mkF m 81 #[iv q1, iv 5, rv a_CANCELLED, .unset] [])) _
      refine XS.iconst X63.here hx rfl (hb hby at_81) ?_
      show Steps _ _ _ (T63.setTop (mkF m 82 #[iv q1, iv 5, rv a_CANCELLED, .unset] [(.int 1)])) _
      refine XS.istoreN X63.here hx rfl (hb hby at_82) rfl (l' := #[iv q1, iv 5, rv a_CANCELLED, iv 1]) rfl ?_
      show Steps _ _ _ (T63.setTop (mkF m 83 #[iv q1, iv 5, rv a_CANCELLED, iv 1] [])) _
      refine XS.aloadN X63.here hx rfl (hb hby at_83) rfl rfl ?_
      show Steps _ _ _ (T63.setTop (mkF m 84 #[iv q1, iv 5, rv a_CANCELLED, iv 1] [(.ref a_CANCELLED)])) _
      exact q
    obtain ⟨cq65, kq65, q65a, q65b, q65c⟩ := isOf hZ e63 (Exa.ext O0.2 E_CANCELLED)
    obtain ⟨_, _, ⟨T65, L65, k65, n65⟩, -, X65, ⟨Lc65, hQ65, l65, y65, z65⟩, st65⟩ := X63.virtualBack hx (y := y_0) (z := y_0) hown (mvT hZ (hw _ (wd 4 rfl))) (mvT hZ (hw _ (wd 5 rfl))) (notFace_of_selects (args := #[]) (mvT hZ (hw _ (wd 7 rfl)))) (mvT hZ (hw _ (wd 7 rfl))) (mvT hZ (hw _ (wd 6 rfl))) (by decide) (backOf (W := 0) (nr_5 l Z a0 hw [] a_SUCCESS a_FAIL a_RETRY a_CANCELLED a_PARTIAL_SUCCESS a_SKIPPED G  h0 n0 O0 ) hZ (hw _ (wd 8 rfl)) (hw _ (wd 2 rfl)) (by decide) (by decide)) q65a q65c (g := (mkF m 84 #[iv q1, iv 5, rv a_CANCELLED, iv 1] [(.ref a_CANCELLED)])) rfl (by rw [hml]; rfl) (Steps.refl _) (argsL := []) (rest := []) (lenOf pd_0 rfl) rfl (by show 2 * 0 + _ ≤ _; exact Nat.le_of_eq rfl) (hb hby at_84) (fun _ _ => ⟨rfl, e63, (by decide : 0 + 0 ≤ _), (by decide : 0 + 0 ≤ _)⟩)
    dsimp only [Pt.U, Pt.locs, Pt.cells, Pt.slots] at X65 l65 y65 z65 st65 hQ65
    subst l65 y65 z65
    obtain ⟨rfl, N65q, e65⟩ := hQ65
    have N65 := Fr.app N0 N65q
    have k_66 : Go p.tables e below (s₁.setTop (entryFrame m #[(.int q1)] maxLocals)) (T65.setTop (mkF m 96 #[iv q1, iv 5, rv a_CANCELLED, iv 1] [(.int 1)])) := fun t q => by
      refine k_64 t ?_
      refine st65.trans ?_
      show Steps _ _ _ (T65.setTop (mkF m 87 #[iv q1, iv 5, rv a_CANCELLED, iv 1] [(.int 1)])) _
      refine XS.iloadN X65.here hx rfl (hb hby at_87) rfl ?_
      show Steps _ _ _ (T65.setTop (mkF m 88 #[iv q1, iv 5, rv a_CANCELLED, iv 1] [(.int 1), (.int 1)])) _
      refine XS.icmpNo X65.here hx rfl (hb hby at_88) rfl (by decide) ?_
      show Steps _ _ _ (T65.setTop (mkF m 91 #[iv q1, iv 5, rv a_CANCELLED, iv 1] [])) _
      refine XS.iconst X65.here hx rfl (hb hby at_91) ?_
      show Steps _ _ _ (T65.setTop (mkF m 92 #[iv q1, iv 5, rv a_CANCELLED, iv 1] [(.int 1)])) _
      refine XS.goto X65.here hx rfl (pc0 := 92) (pc' := 96) rfl (hb hby at_92) (by decide) (by decide) ?_
      show Steps _ _ _ (T65.setTop (mkF m 96 #[iv q1, iv 5, rv a_CANCELLED, iv 1] [(.int 1)])) _
      exact q
    obtain ⟨fs, hr, hrun, hended, hW, hsame⟩ := X65.leave (v := some (.int 1)) (fun h => by rw [Bd.returns] at h; cases h)
    refine ⟨_, _, k_66 _ ?_, hrun, hended, _, _, rfl, ?_, ⟨_, rfl⟩, hW, hsame.mono (by decide) (by decide)⟩
    · exact retN X65 hx (t := .boolean) Bd.returns (by simp) (hb hby at_96) hr
    · show Q0 n0 _ T65.heap _
      rw [e65]
      exact ⟨rfl, N65⟩
set_option maxRecDepth 65536 in
set_option maxHeartbeats 40000000 in
theorem comes_1 {Post : Tables → Env → Array Value → State → Outcome → State → Prop} (hpost : ∀ tb e args s v u, (limb_1_1.after args s (.returned v) u = true ∧ limb_1_2.after args s (.returned v) u = true ∧ True) → FrameEnd s (.returned v) u (Jvm.fieldLocs frame_1_writes args s ++ Jvm.arrayLocs frame_1_arrays args s ++ Jvm.staticLocs frame_1_statics s) 0 0 → Post tb e args s (.returned v) u) :
    ArmFor flags0 classFile x code maxLocals ret World_1 tables_1 room_1 Calls_1 rest_1 Pre_1 Post := by
  intro l hfl _ _ p e ha hc hk s m args below hf hA hF happ hP
  obtain ⟨hcalls, hrest, hpre⟩ := hP
  obtain ⟨-, -, -, hnamed, -, -, -, hat⟩ := (Spec.applies_iff hf).mp happ
  obtain ⟨hg, hn⟩ := and_e (Cond.before_iff.mp (show (Jvm.Cond.and given_1 narrow_1).before args s = true from hpre))
  obtain ⟨g0, c0⟩ := and_e hg
  obtain ⟨w0, rfl⟩ : ∃ w0 : Value, args = #[w0] := by
    have hs : args.size = 1 := by simpa [Cond.value, given_1] using g0
    obtain ⟨L⟩ := args
    match L, hs with
    | [w0], _ => exact ⟨w0, rfl⟩
  have hw := fun d (hd : d ∈ tables_1) => atoms_spec (ws := Jvm.Cond.code x code maxLocals ret :: tables_1) hat d (List.mem_cons_of_mem _ hd)
  obtain ⟨i0, ei0⟩ := is_v c0
  obtain rfl : w0 = (.int i0) := Option.some.inj ei0
  obtain ⟨n0, r0⟩ := and_e hn
  obtain ⟨n1, r1⟩ := and_e r0
  obtain ⟨n2, r2⟩ := and_e r1
  obtain ⟨n3, r3⟩ := and_e r2
  obtain ⟨n4, r4⟩ := and_e r3
  obtain ⟨n5, r5⟩ := and_e r4
  obtain ⟨n6, r6⟩ := and_e r5
  obtain ⟨n7, r7⟩ := and_e r6
  obtain ⟨n8, r8⟩ := and_e r7
  obtain ⟨n9, r9⟩ := and_e r8
  obtain ⟨n10, r10⟩ := and_e r9
  obtain ⟨a_SUCCESS, v_SUCCESS⟩ := exa_v n0
  have E_SUCCESS := Exa.start v_SUCCESS n0
  have S_SUCCESS := Sta.start v_SUCCESS (Or.inr ⟨(hw _ (wd 2 rfl)), (hw _ (wd 3 rfl))⟩)
  obtain ⟨a_FAIL, v_FAIL⟩ := exa_v n1
  have E_FAIL := Exa.start v_FAIL n1
  have S_FAIL := Sta.start v_FAIL (Or.inr ⟨(hw _ (wd 2 rfl)), (hw _ (wd 10 rfl))⟩)
  obtain ⟨a_RETRY, v_RETRY⟩ := exa_v n4
  have E_RETRY := Exa.start v_RETRY n4
  have S_RETRY := Sta.start v_RETRY (Or.inr ⟨(hw _ (wd 2 rfl)), (hw _ (wd 12 rfl))⟩)
  obtain ⟨a_CANCELLED, v_CANCELLED⟩ := exa_v n6
  have E_CANCELLED := Exa.start v_CANCELLED n6
  have S_CANCELLED := Sta.start v_CANCELLED (Or.inr ⟨(hw _ (wd 2 rfl)), (hw _ (wd 14 rfl))⟩)
  obtain ⟨a_PARTIAL_SUCCESS, v_PARTIAL_SUCCESS⟩ := exa_v n8
  have E_PARTIAL_SUCCESS := Exa.start v_PARTIAL_SUCCESS n8
  have S_PARTIAL_SUCCESS := Sta.start v_PARTIAL_SUCCESS (Or.inr ⟨(hw _ (wd 2 rfl)), (hw _ (wd 18 rfl))⟩)
  obtain ⟨a_SKIPPED, v_SKIPPED⟩ := exa_v n10
  have E_SKIPPED := Exa.start v_SKIPPED n10
  have S_SKIPPED := Sta.start v_SKIPPED (Or.inr ⟨(hw _ (wd 2 rfl)), (hw _ (wd 21 rfl))⟩)
  have R_SUCCESS_ordinal := own_fld v_SUCCESS n2
  have R_FAIL_ordinal := own_fld v_FAIL n3
  have R_RETRY_ordinal := own_fld v_RETRY n5
  have R_CANCELLED_ordinal := own_fld v_CANCELLED n7
  have R_PARTIAL_SUCCESS_ordinal := own_fld v_PARTIAL_SUCCESS n9
  have R_SKIPPED_ordinal := own_fld v_SKIPPED r10
  have G : Own s a_SUCCESS a_FAIL a_RETRY a_CANCELLED a_PARTIAL_SUCCESS a_SKIPPED := ⟨S_SUCCESS, E_SUCCESS, S_FAIL, E_FAIL, S_RETRY, E_RETRY, S_CANCELLED, E_CANCELLED, S_PARTIAL_SUCCESS, E_PARTIAL_SUCCESS, S_SKIPPED, E_SKIPPED, R_SUCCESS_ordinal, R_FAIL_ordinal, R_RETRY_ordinal, R_CANCELLED_ordinal, R_PARTIAL_SUCCESS_ordinal, R_SKIPPED_ordinal⟩
  obtain ⟨n, o, h1, h2, h3, _, L, rfl, ⟨rfl, N⟩, hq⟩ := rm0 l s _ hw tables_1 a_SUCCESS a_FAIL a_RETRY a_CANCELLED a_PARTIAL_SUCCESS a_SKIPPED G i0 s.heap s.heap.size (Old.start s) p e ha hc hk s m _ below hf ((Spec.applies_iff_loose hf).mp happ).1 ⟨rfl, State.Warmed39.refl s, rfl⟩ trivial
  refine ⟨n, _, h1, h2, h3, hpost _ _ _ _ _ _ ⟨Cond.after_iff.mpr rfl, Cond.after_iff.mpr (eq_i res_at (Term.int_eval (1)) rfl), trivial⟩ ⟨hq.1, hq.2.1, (hq.2.2.sift fun y hy => Or.inr (N y hy)).mono (by decide) (by decide)⟩⟩
theorem main_1_1 : Claimed_1_1 := comes_1 fun _ _ _ _ _ _ h hF => ⟨h.1, hF⟩
theorem main_1_2 : Claimed_1_2 := comes_1 fun _ _ _ _ _ _ h hF => ⟨h.2.1, hF⟩
end Jvm.Pilot.@@N@@
namespace Jvm.Pilot.@@N@@
open Jvm Jvm.ClassFile Sem Op Lib Jvm.Free Jvm.Stand Jvm.Pilot.@@N@@.Jvm.D
/-! MADE BY PROGRAM (witnessworld.py) out of the Statement's table words and the real class files: 12 classes; the members and pool entries that the words name. The judged class is class 1, her method 1. -/
namespace start1
open Jvm.ClassFile
def u (s : String) : CpInfo := .utf8 (stringToUtf16 s)
/-- a pool by its gaps: so many unusable entries, then the entry; so many at the end -/
def gap : Nat → List CpInfo → List CpInfo
  | 0, r => r
  | n + 1, r => .unusable :: gap n r
def poolList (es : List (Nat × CpInfo)) (last : Nat) : List CpInfo := es.foldr (fun e r => gap e.1 (e.2 :: r)) (gap last [])
def pool (es : List (Nat × CpInfo)) (last : Nat) : Array CpInfo := ⟨poolList es last⟩
def fileOf (pool : Array CpInfo) (this : Nat) (attrs : Array Attribute := #[]) (ms : Array MethodInfo := #[]) (fl : Nat := 33) (sup : Nat := 0) (ifs : Array Nat := #[]) (fds : Array FieldInfo := #[]) : ClassFile where
  minorVersion := 0
  majorVersion := 65
  constantPool := pool
  accessFlags := fl
  thisClass := this
  superClass := sup
  interfaces := ifs
  fields := fds
  methods := ms
  attributes := attrs
def plain (name : String) (sup : Option ClassId) : Class where
  name := name
  kind := .ordinary
  loader := none
  accessFlags := 33
  super := sup
  interfaces := #[]
  cf := none
  fields := #[]
  methods := #[]
  instanceTypes := #[]
  staticTypes := #[]
  resolved := #[]
  callSites := []
  init := .initialized
  statics := none
  mirror := none

def pool0 : Array CpInfo := pool [(5, u "<init>"), (0, u "()V"), (1, .class_ 10), (1, u "java/lang/Object")] 113

def k0m0 : Method := { name := "<init>", desc := "()V", sig := { parameters := [], returnType := none }, accessFlags := 1, code := none }
/-- java/lang/Object -/
def k0 : Class := { plain "java/lang/Object" none with
  accessFlags := 33
  interfaces := #[]
  cf := some (fileOf pool0 8 #[] #[{ accessFlags := 1, nameIndex := 5, descriptorIndex := 6, attributes := #[] }] 33 0 #[] #[])
  fields := #[]
  methods := #[k0m0]
  instanceTypes := #[]
  staticTypes := #[]
  resolved := Array.replicate 124 none
  statics := none }

def pool1 : Array CpInfo := pool [(2, .class_ 4), (1, u "java/lang/Object"), (0, u "<init>"), (0, u "()V"), (0, .integer 2147483647), (0, .fieldref 9 10), (0, .class_ 11), (0, .nameAndType 12 13), (0, u "com/example/theseus/theseus/engine/Outcome"), (0, u "SUCCESS"), (0, u "Lcom/example/theseus/theseus/engine/Outcome;"), (0, .fieldref 9 15), (0, .nameAndType 16 13), (0, u "PARTIAL_SUCCESS"), (0, .fieldref 9 18), (0, .nameAndType 19 13), (0, u "RETRY"), (0, .fieldref 9 21), (0, .nameAndType 22 13), (0, u "FAIL"), (0, .fieldref 9 24), (0, .nameAndType 25 13), (0, u "SKIPPED"), (0, .fieldref 9 27), (0, .nameAndType 28 13), (0, u "CANCELLED"), (0, .methodref 9 30), (0, .nameAndType 31 32), (0, u "needsReason"), (0, u "()Z"), (0, .class_ 34), (0, u "com/example/theseus/theseus/engine/OutcomeNeedsReasonPinLaw"), (2, u "law"), (0, u "(I)Z")] 3

def k1m0 : Method := { name := "<init>", desc := "()V", sig := { parameters := [], returnType := none }, accessFlags := 2, code := none }
def k1c1 : Code := { maxStack := 2, maxLocals := 4, code := code, exceptionTable := #[], attributes := #[] }
def k1m1 : Method := { name := "law", desc := "(I)Z", sig := { parameters := [.int], returnType := some .boolean }, accessFlags := 9, code := some k1c1 }
/-- com/example/theseus/theseus/engine/OutcomeNeedsReasonPinLaw -/
def k1 : Class := { plain "com/example/theseus/theseus/engine/OutcomeNeedsReasonPinLaw" (some 0) with
  accessFlags := 49
  interfaces := #[]
  cf := some (fileOf pool1 33 #[] #[{ accessFlags := 2, nameIndex := 5, descriptorIndex := 6, attributes := #[] }, { accessFlags := 9, nameIndex := 37, descriptorIndex := 38, attributes := #[] }] 49 2 #[] #[])
  fields := #[]
  methods := #[k1m0, k1m1]
  instanceTypes := #[]
  staticTypes := #[]
  resolved := Array.replicate 42 none
  statics := none }

def pool2 : Array CpInfo := pool [(1, .class_ 2), (0, u "java/lang/constant/Constable"), (0, .class_ 4), (0, u "java/lang/Object")] 6

/-- java/lang/constant/Constable -/
def k2 : Class := { plain "java/lang/constant/Constable" (some 0) with
  accessFlags := 1537
  interfaces := #[]
  cf := some (fileOf pool2 1 #[] #[] 1537 3 #[] #[])
  fields := #[]
  methods := #[]
  instanceTypes := #[]
  staticTypes := #[]
  resolved := Array.replicate 11 none
  statics := none }

def pool3 : Array CpInfo := pool [(1, .class_ 2), (0, u "java/lang/Comparable"), (0, .class_ 4), (0, u "java/lang/Object")] 7

/-- java/lang/Comparable -/
def k3 : Class := { plain "java/lang/Comparable" (some 0) with
  accessFlags := 1537
  interfaces := #[]
  cf := some (fileOf pool3 1 #[] #[] 1537 3 #[] #[])
  fields := #[]
  methods := #[]
  instanceTypes := #[]
  staticTypes := #[]
  resolved := Array.replicate 12 none
  statics := none }

def pool4 : Array CpInfo := pool [(1, .class_ 2), (0, u "java/io/Serializable"), (0, .class_ 4), (0, u "java/lang/Object")] 2

/-- java/io/Serializable -/
def k4 : Class := { plain "java/io/Serializable" (some 0) with
  accessFlags := 1537
  interfaces := #[]
  cf := some (fileOf pool4 1 #[] #[] 1537 3 #[] #[])
  fields := #[]
  methods := #[]
  instanceTypes := #[]
  staticTypes := #[]
  resolved := Array.replicate 7 none
  statics := none }

def pool5 : Array CpInfo := pool [(2, .class_ 4), (1, u "java/lang/Enum"), (0, u "name"), (0, u "Ljava/lang/String;"), (2, u "ordinal"), (0, u "I"), (1, .class_ 14), (1, u "java/lang/Object"), (4, u "hash"), (86, .class_ 108), (1, u "java/lang/Enum$EnumDesc"), (2, .class_ 112), (0, u "java/lang/constant/Constable"), (0, .class_ 114), (0, u "java/lang/Comparable"), (0, .class_ 116), (0, u "java/io/Serializable")] 87

/-- java/lang/Enum -/
def k5 : Class := { plain "java/lang/Enum" (some 0) with
  accessFlags := 1057
  interfaces := #[2, 3, 4]
  cf := some (fileOf pool5 2 #[.nestMembers #[106]] #[] 1057 12 #[111, 113, 115] #[{ accessFlags := 18, nameIndex := 5, descriptorIndex := 6, attributes := #[] }, { accessFlags := 18, nameIndex := 9, descriptorIndex := 10, attributes := #[] }, { accessFlags := 2, nameIndex := 19, descriptorIndex := 10, attributes := #[] }])
  fields := #[{ name := "name", type := (.object "java/lang/String"), accessFlags := 18, slot := 0, constantValue := 0 }, { name := "ordinal", type := .int, accessFlags := 18, slot := 1, constantValue := 0 }, { name := "hash", type := .int, accessFlags := 2, slot := 2, constantValue := 0 }]
  methods := #[]
  instanceTypes := #[(.object "java/lang/String"), .int, .int]
  staticTypes := #[]
  resolved := Array.replicate 204 none
  statics := none }

def pool6 : Array CpInfo := pool [(1, .class_ 2), (0, u "com/example/theseus/theseus/engine/Outcome"), (2, u "SUCCESS"), (0, u "Lcom/example/theseus/theseus/engine/Outcome;"), (2, u "PARTIAL_SUCCESS"), (0, .fieldref 1 11), (0, .nameAndType 12 6), (0, u "RETRY"), (0, .fieldref 1 14), (0, .nameAndType 15 6), (0, u "FAIL"), (2, u "SKIPPED"), (0, .fieldref 1 20), (0, .nameAndType 21 6), (0, u "CANCELLED"), (2, u "$VALUES"), (0, u "[Lcom/example/theseus/theseus/engine/Outcome;"), (6, .class_ 34), (1, u "java/lang/Enum"), (24, u "label"), (0, u "Ljava/lang/String;"), (23, u "()Z"), (11, u "needsReason")] 54

def k6c0 : Code := { maxStack := 2, maxLocals := 1, code := prog_41_method_8_code, exceptionTable := #[], attributes := #[] }
def k6m0 : Method := { name := "needsReason", desc := "()Z", sig := { parameters := [], returnType := some .boolean }, accessFlags := 1, code := some k6c0 }
/-- com/example/theseus/theseus/engine/Outcome -/
def k6 : Class := { plain "com/example/theseus/theseus/engine/Outcome" (some 5) with
  accessFlags := 16433
  interfaces := #[]
  cf := some (fileOf pool6 1 #[] #[{ accessFlags := 1, nameIndex := 96, descriptorIndex := 84, attributes := #[] }] 16433 32 #[] #[{ accessFlags := 16409, nameIndex := 5, descriptorIndex := 6, attributes := #[] }, { accessFlags := 16409, nameIndex := 9, descriptorIndex := 6, attributes := #[] }, { accessFlags := 16409, nameIndex := 12, descriptorIndex := 6, attributes := #[] }, { accessFlags := 16409, nameIndex := 15, descriptorIndex := 6, attributes := #[] }, { accessFlags := 16409, nameIndex := 18, descriptorIndex := 6, attributes := #[] }, { accessFlags := 16409, nameIndex := 21, descriptorIndex := 6, attributes := #[] }, { accessFlags := 18, nameIndex := 59, descriptorIndex := 60, attributes := #[] }, { accessFlags := 4122, nameIndex := 24, descriptorIndex := 25, attributes := #[] }])
  fields := #[{ name := "SUCCESS", type := (.object "com/example/theseus/theseus/engine/Outcome"), accessFlags := 16409, slot := 0, constantValue := 0 }, { name := "PARTIAL_SUCCESS", type := (.object "com/example/theseus/theseus/engine/Outcome"), accessFlags := 16409, slot := 1, constantValue := 0 }, { name := "RETRY", type := (.object "com/example/theseus/theseus/engine/Outcome"), accessFlags := 16409, slot := 2, constantValue := 0 }, { name := "FAIL", type := (.object "com/example/theseus/theseus/engine/Outcome"), accessFlags := 16409, slot := 3, constantValue := 0 }, { name := "SKIPPED", type := (.object "com/example/theseus/theseus/engine/Outcome"), accessFlags := 16409, slot := 4, constantValue := 0 }, { name := "CANCELLED", type := (.object "com/example/theseus/theseus/engine/Outcome"), accessFlags := 16409, slot := 5, constantValue := 0 }, { name := "label", type := (.object "java/lang/String"), accessFlags := 18, slot := 3, constantValue := 0 }, { name := "$VALUES", type := (.array (.object "com/example/theseus/theseus/engine/Outcome")), accessFlags := 4122, slot := 6, constantValue := 0 }]
  methods := #[k6m0]
  instanceTypes := #[(.object "java/lang/String"), .int, .int, (.object "java/lang/String")]
  staticTypes := #[(.object "com/example/theseus/theseus/engine/Outcome"), (.object "com/example/theseus/theseus/engine/Outcome"), (.object "com/example/theseus/theseus/engine/Outcome"), (.object "com/example/theseus/theseus/engine/Outcome"), (.object "com/example/theseus/theseus/engine/Outcome"), (.object "com/example/theseus/theseus/engine/Outcome"), (.array (.object "com/example/theseus/theseus/engine/Outcome"))]
  resolved := Array.replicate 151 none
  statics := some 0 }

def pool7 : Array CpInfo := pool [(1, u "java/lang/Cloneable"), (0, .class_ 1), (0, u "java/lang/Object"), (0, .class_ 3)] 3

/-- java/lang/Cloneable -/
def k7 : Class := { plain "java/lang/Cloneable" (some 0) with
  accessFlags := 1537
  interfaces := #[]
  cf := some (fileOf pool7 2 #[] #[] 1537 4 #[] #[])
  fields := #[]
  methods := #[]
  instanceTypes := #[]
  staticTypes := #[]
  resolved := Array.replicate 8 none
  statics := none }

/-- the primitive byte -/
def k8 : Class := { plain "byte" none with kind := .primitive 'B', accessFlags := 0x411 }
/-- [B -/
def k9 : Class := { plain "[B" (some 0) with kind := .array 8 .byte, interfaces := #[7, 4], accessFlags := 1041 }

/-- the primitive int -/
def k10 : Class := { plain "int" none with kind := .primitive 'I', accessFlags := 0x411 }
/-- [I -/
def k11 : Class := { plain "[I" (some 0) with kind := .array 10 .int, interfaces := #[7, 4], accessFlags := 1041 }

def heap : Heap := #[{ cls := 6, slots := #[.ref 1, .ref 5, .ref 3, .ref 2, .ref 6, .ref 4, .null], vm := .statics 6 },
  { cls := 6, slots := #[.null, .int 0, .int 0, .null], vm := .none },
  { cls := 6, slots := #[.null, .int 3, .int 0, .null], vm := .none },
  { cls := 6, slots := #[.null, .int 2, .int 0, .null], vm := .none },
  { cls := 6, slots := #[.null, .int 5, .int 0, .null], vm := .none },
  { cls := 6, slots := #[.null, .int 1, .int 0, .null], vm := .none },
  { cls := 6, slots := #[.null, .int 4, .int 0, .null], vm := .none }]
def classes : Array Class := #[k0, k1, k2, k3, k4, k5, k6, k7, k8, k9, k10, k11]
def interned : List (Array UInt16 × Addr) := []
def slotsUsed : Nat := 31
def theMethod : MethodId := ⟨1, 1⟩
def args0 : Array Value := #[.int 5]
def aboutOver (below : List Frame) : State where
  vm := { classes := classes, interned := interned.toArray }
  heap := heap
  slotsUsed := slotsUsed
  threads := #[{ frames := .invoking theMethod args0 :: below }]
def below0 : List Frame := [.native { method := ⟨0, 0⟩, args := #[] }]
def about1 : State := aboutOver below0
def p0 : Program := .bare "" "" ""
def e0 : Env := launch0.env 0 0 0
theorem w_frames : about1.frames = Frame.invoking theMethod args0 :: below0 := rfl
set_option maxRecDepth 65536 in
theorem w_args : argsFit about1.vm theMethod args0 = true := by decide +kernel
set_option maxRecDepth 65536 in
theorem w_heap : heapFits about1 = true := by decide +kernel
set_option maxRecDepth 65536 in
theorem w_runnable : about1.curStatus? = some .runnable := by decide +kernel
set_option maxRecDepth 65536 in
theorem w_alone : about1.alone = true := by decide +kernel
set_option maxRecDepth 65536 in
theorem w_named : about1.methodNamed? x = some theMethod := by decide +kernel
set_option maxRecDepth 65536 in
theorem w_hears : about1.hears theMethod below0 = true := by decide +kernel
set_option maxRecDepth 65536 in
theorem w_ripe : about1.ripe theMethod args0 below0 = true := by decide +kernel
theorem w_running : about1.status = .running := rfl
set_option maxRecDepth 65536 in
theorem w_room : about1.hasRoom e0.platform room_1 = true :=
  launch0.hasRoom_least _ room_1 (by decide +kernel) (by decide +kernel) (by decide +kernel) (by decide +kernel) (by decide +kernel) (by decide +kernel)
theorem allAtoms_all (ts : List Jvm.Cond) (a : Array Jvm.Value) (st : Jvm.State) : (allAtoms ts).before a st = ts.all (fun c => c.before a st) := by
  induction ts with
  | nil => rfl
  | cons c t ih =>
    show (Jvm.Cond.and c (allAtoms t)).before a st = _
    rw [Jvm.Cond.before_and, ih, List.all_cons]
def words1 : List Jvm.Cond := Jvm.Cond.code x code maxLocals ret :: tables_1
/-- a 'code' word, met by the world's own term for the bytes: nothing is compared byte by byte -/
theorem code_word {y : MethodName} {bytes : ByteArray} {mx : Nat} {rt : Option FieldType} {a : Array Value} {s : State} {m : MethodId} {meth : Method} {c : Code} (h1 : s.methodNamed? y = some m) (h2 : s.vm.method? m = some meth) (h3 : meth.code = some c) (h4 : c.code = bytes)
    (h5 : (c.maxLocals == mx && c.exceptionTable.isEmpty && decide (c.maxStack ≤ mostOperands) && decide (meth.sig.returnType = rt) && !meth.locks && decide (parseMethodDescriptor y.desc = some meth.sig)) = true) : (Jvm.Cond.code y bytes mx rt).before a s = true := by
  simp only [Bool.and_eq_true, beq_iff_eq, Bool.not_eq_true', decide_eq_true_eq] at h5
  obtain ⟨⟨⟨⟨⟨g1, g2⟩, g3⟩, g4⟩, g5⟩, g6⟩ := h5
  simp [Cond.before, Cond.holds, Cond.value, h1, h2, h3, h4, g1, g2, g3, g4, g5, g6]
def isCode : Jvm.Cond → Bool
  | .code _ _ _ _ => true
  | _ => false
theorem all_split {L : List Jvm.Cond} {P : Jvm.Cond → Bool} (h1 : L.all (fun c => isCode c || P c) = true) (h2 : ∀ c ∈ L.filter isCode, P c = true) : L.all P = true := by
  refine List.all_eq_true.mpr fun c hc => ?_
  have h := List.all_eq_true.mp h1 c hc
  rcases Bool.eq_false_or_eq_true (isCode c) with hi | hi
  · exact h2 c (List.mem_filter.mpr ⟨hc, hi⟩)
  · simpa [hi] using h
set_option maxRecDepth 65536 in
theorem w_c0 : (Jvm.Cond.code x code maxLocals ret).before args0 about1 = true := code_word (m := ⟨1, 1⟩) (meth := k1m1) (c := k1c1) (by decide +kernel) rfl rfl rfl (by decide +kernel)
set_option maxRecDepth 65536 in
theorem w_c1 : (Jvm.Cond.code ({ cls := "com/example/theseus/theseus/engine/Outcome", name := "needsReason", desc := "()Z" } : Jvm.MethodName) prog_41_method_8_code (1 : Nat) (Option.some Jvm.ClassFile.FieldType.boolean)).before args0 about1 = true := code_word (m := ⟨6, 0⟩) (meth := k6m0) (c := k6c0) (by decide +kernel) rfl rfl rfl (by decide +kernel)
def codes1 : List Jvm.Cond := [Jvm.Cond.code x code maxLocals ret, Jvm.Cond.code ({ cls := "com/example/theseus/theseus/engine/Outcome", name := "needsReason", desc := "()Z" } : Jvm.MethodName) prog_41_method_8_code (1 : Nat) (Option.some Jvm.ClassFile.FieldType.boolean)]
set_option maxRecDepth 65536 in
theorem codes_eq : words1.filter isCode = codes1 := rfl
theorem w_codes : ∀ c ∈ words1.filter isCode, c.before args0 about1 = true := by
  rw [codes_eq]
  intro c hc
  simp only [codes1, List.mem_cons, List.not_mem_nil, or_false] at hc
  rcases hc with rfl | rfl
  · exact w_c0
  · exact w_c1
set_option maxRecDepth 65536 in
theorem w_t1 : words1.all (fun c => isCode c || c.before args0 about1) = true := by decide +kernel
theorem w_tables : (allAtoms (Jvm.Cond.code x code maxLocals ret :: tables_1)).before args0 about1 = true := by
  rw [allAtoms_all]
  show words1.all (fun c => c.before args0 about1) = true
  refine all_split ?_ w_codes
  rw [w_t1]
set_option maxRecDepth 65536 in
theorem w_case : (Jvm.Cond.and given_1 narrow_1).before args0 about1 = true := by decide +kernel
theorem w_applies : (headSpec (Jvm.Cond.code x code maxLocals ret :: tables_1) room_1).applies x e0.platform about1 = true :=
  (Spec.applies_iff w_frames).mpr ⟨w_running, w_runnable, w_alone, w_named, w_hears, w_ripe, w_room, w_tables⟩
theorem atStart : AtStart classFile x code maxLocals ret World_1 tables_1 room_1 Calls_1 rest_1 Pre_1 launch0 p0 e0 about1 theMethod args0 below0 :=
  ⟨lists_1, trivial, launch0.admits_env _ _ _, launch0.least_env, fairChoices_fair.cas, fairChoices_fair.clock, w_frames, w_args, w_heap, w_applies, trivial, trivial, w_case⟩
end start1
theorem witness_1 : WitnessClaimed_1 := ⟨start1.p0, start1.e0, start1.about1, start1.theMethod, start1.args0, start1.below0, start1.atStart⟩
end Jvm.Pilot.@@N@@
