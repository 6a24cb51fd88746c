import JvmDerived
import JvmDerived.Pilot.@@N@@Statement
import JvmDerived.Pilot.@@N@@Code
set_option linter.unusedVariables false
set_option linter.unusedSimpArgs false
namespace Jvm.Pilot.@@N@@
open Jvm Jvm.ClassFile Sem Op Lib Jvm.Free Jvm.Stand Jvm.LawKit Jvm.RoadKit Bundle Jvm.Pilot.@@N@@.Jvm.D
theorem wd {d : Jvm.Cond} (i : Nat) (h : tables_1[i]? = some d) : d ∈ tables_1 := List.mem_of_getElem? h
def Go (tb : Tables) (e : Env) (below : List Frame) (S0 S : State) : Prop := ∀ t, Steps tb e below S t → Steps tb e below S0 t
theorem own_old_le {Z : State} {n0 : Nat} {h : Heap} (O : Old Z n0 h) : n0 ≤ h.size := O.1 ▸ O.2.1
theorem own_lcmp_self (x : Int64) : lcmpW x x = 0 := by rw [lcW, lc_eq]
theorem own_ne {Z : State} {h : Heap} {a b : Addr} {C n d : String} {i j : Int32} (F : Fld Z h a C n d (.int i)) (G : Fld Z h b C n d (.int j)) (q : i ≠ j) : a ≠ b := F.ne G fun e => q (Value.int.inj e)
theorem own_narrow_ref {v : Value} {n : String} (h : v.isRef = true) : narrow (.object n) v = v := by rcases ref_cases h with rfl | ⟨_, rfl⟩ <;> rfl
theorem own_fits_ref {v : Value} {n : String} (h : v.isRef = true) : fits (.object n) v = true := by rcases ref_cases h with rfl | ⟨_, rfl⟩ <;> rfl
theorem own_narrow_bool {z : Int32} (h : z = 0 ∨ z = 1) : narrow .boolean (.int z) = .int z := by rcases h with rfl | rfl <;> rfl
theorem own_fits_bool {z : Int32} (h : z = 0 ∨ z = 1) : fits .boolean (.int z) = true := by rcases h with rfl | rfl <;> rfl
def QV (w : Option Value) (h0 : Heap) (n0 : Nat) (v : Option Value) (h : Heap) (L : List Loc) : Prop := v = w ∧ Fr n0 L ∧ h = h0
def Q0 (n0 : Nat) (v : Option Value) (h : Heap) (L : List Loc) : Prop := v = some (.int (1 : Int32)) ∧ Fr n0 L
abbrev y_0 : MethodName := ⟨"com/example/theseus/theseus/engine/OutcomeEndsARunPinLaw", "pick", "(I)Lcom/example/theseus/theseus/engine/Outcome;"⟩
abbrev y_1 : MethodName := ⟨"com/example/theseus/theseus/engine/Outcome", "endsARun", "()Z"⟩
theorem d1_0 : decode method_2_code 0 = .ok (.iload_n 0, 1) := by decide +kernel
theorem d1_1 : decode method_2_code 1 = .ok (.ifCond .ne 7, 3) := by decide +kernel
theorem d1_4 : decode method_2_code 4 = .ok (.getstatic 7, 3) := by decide +kernel
theorem d1_7 : decode method_2_code 7 = .ok (.areturn, 1) := by decide +kernel
theorem d1_8 : decode method_2_code 8 = .ok (.iload_n 0, 1) := by decide +kernel
theorem d1_9 : decode method_2_code 9 = .ok (.iconst 1, 1) := by decide +kernel
theorem d1_10 : decode method_2_code 10 = .ok (.if_icmp .ne 7, 3) := by decide +kernel
theorem d1_13 : decode method_2_code 13 = .ok (.getstatic 13, 3) := by decide +kernel
theorem d1_16 : decode method_2_code 16 = .ok (.areturn, 1) := by decide +kernel
theorem d1_17 : decode method_2_code 17 = .ok (.iload_n 0, 1) := by decide +kernel
theorem d1_18 : decode method_2_code 18 = .ok (.iconst 2, 1) := by decide +kernel
theorem d1_19 : decode method_2_code 19 = .ok (.if_icmp .ne 7, 3) := by decide +kernel
theorem d1_22 : decode method_2_code 22 = .ok (.getstatic 16, 3) := by decide +kernel
theorem d1_25 : decode method_2_code 25 = .ok (.areturn, 1) := by decide +kernel
theorem d1_26 : decode method_2_code 26 = .ok (.iload_n 0, 1) := by decide +kernel
theorem d1_27 : decode method_2_code 27 = .ok (.iconst 3, 1) := by decide +kernel
theorem d1_28 : decode method_2_code 28 = .ok (.if_icmp .ne 7, 3) := by decide +kernel
theorem d1_31 : decode method_2_code 31 = .ok (.getstatic 19, 3) := by decide +kernel
theorem d1_34 : decode method_2_code 34 = .ok (.areturn, 1) := by decide +kernel
theorem d1_35 : decode method_2_code 35 = .ok (.iload_n 0, 1) := by decide +kernel
theorem d1_36 : decode method_2_code 36 = .ok (.iconst 4, 1) := by decide +kernel
theorem d1_37 : decode method_2_code 37 = .ok (.if_icmp .ne 7, 3) := by decide +kernel
theorem d1_40 : decode method_2_code 40 = .ok (.getstatic 22, 3) := by decide +kernel
theorem d1_43 : decode method_2_code 43 = .ok (.areturn, 1) := by decide +kernel
theorem d1_44 : decode method_2_code 44 = .ok (.getstatic 25, 3) := by decide +kernel
theorem d1_47 : decode method_2_code 47 = .ok (.areturn, 1) := by decide +kernel
theorem d2_0 : decode prog_41_method_6_code 0 = .ok (.aload_n 0, 1) := by decide +kernel
theorem d2_1 : decode prog_41_method_6_code 1 = .ok (.getstatic 3, 3) := by decide +kernel
theorem d2_4 : decode prog_41_method_6_code 4 = .ok (.if_acmp .eq 17, 3) := by decide +kernel
theorem d2_7 : decode prog_41_method_6_code 7 = .ok (.aload_n 0, 1) := by decide +kernel
theorem d2_8 : decode prog_41_method_6_code 8 = .ok (.getstatic 13, 3) := by decide +kernel
theorem d2_11 : decode prog_41_method_6_code 11 = .ok (.if_acmp .eq 10, 3) := by decide +kernel
theorem d2_14 : decode prog_41_method_6_code 14 = .ok (.aload_n 0, 1) := by decide +kernel
theorem d2_15 : decode prog_41_method_6_code 15 = .ok (.getstatic 19, 3) := by decide +kernel
theorem d2_18 : decode prog_41_method_6_code 18 = .ok (.if_acmp .ne 7, 3) := by decide +kernel
theorem d2_21 : decode prog_41_method_6_code 21 = .ok (.iconst 1, 1) := by decide +kernel
theorem d2_22 : decode prog_41_method_6_code 22 = .ok (.goto 4, 3) := by decide +kernel
theorem d2_25 : decode prog_41_method_6_code 25 = .ok (.iconst 0, 1) := by decide +kernel
theorem d2_26 : decode prog_41_method_6_code 26 = .ok (.ireturn, 1) := by decide +kernel
theorem pn_0 : plainName "com/example/theseus/theseus/engine/OutcomeEndsARunPinLaw" = true := by first | (simp [plainName, overriddenIn]; done) | decide +kernel
theorem pn_1 : plainName "com/example/theseus/theseus/engine/Outcome" = true := by first | (simp [plainName, overriddenIn]; done) | decide +kernel
theorem pd_0 : parseMethodDescriptor "(I)Lcom/example/theseus/theseus/engine/Outcome;" = some ⟨[.int], some (.object "com/example/theseus/theseus/engine/Outcome")⟩ := by decide +kernel
theorem pd_1 : parseMethodDescriptor "()Z" = some ⟨[], some .boolean⟩ := by decide +kernel
theorem own_cases_6 {y : Int32} (h0 : 0 ≤ y.toInt) (h1 : y.toInt < 6) : y = 0 ∨ y = 1 ∨ y = 2 ∨ y = 3 ∨ y = 4 ∨ y = 5 := by
  have h : y.toInt = 0 ∨ y.toInt = 1 ∨ y.toInt = 2 ∨ y.toInt = 3 ∨ y.toInt = 4 ∨ y.toInt = 5 := by omega
  rcases h with h | h | h | h | h | h
  · exact (Or.inl (Int32.toInt_inj.mp (h.trans (show (0 : Int) = (0 : Int32).toInt from by decide))))
  · exact (Or.inr (Or.inl (Int32.toInt_inj.mp (h.trans (show (1 : Int) = (1 : Int32).toInt from by decide)))))
  · exact (Or.inr (Or.inr (Or.inl (Int32.toInt_inj.mp (h.trans (show (2 : Int) = (2 : Int32).toInt from by decide))))))
  · exact (Or.inr (Or.inr (Or.inr (Or.inl (Int32.toInt_inj.mp (h.trans (show (3 : Int) = (3 : Int32).toInt from by decide)))))))
  · exact (Or.inr (Or.inr (Or.inr (Or.inr (Or.inl (Int32.toInt_inj.mp (h.trans (show (4 : Int) = (4 : Int32).toInt from by decide))))))))
  · exact (Or.inr (Or.inr (Or.inr (Or.inr (Or.inr (Int32.toInt_inj.mp (h.trans (show (5 : Int) = (5 : Int32).toInt from by decide))))))))
theorem own_rem_6 (x : Int32) : (x &&& 2147483647) % 6 = 0 ∨ (x &&& 2147483647) % 6 = 1 ∨ (x &&& 2147483647) % 6 = 2 ∨ (x &&& 2147483647) % 6 = 3 ∨ (x &&& 2147483647) % 6 = 4 ∨ (x &&& 2147483647) % 6 = 5 := by
  have h := c_and x 2147483647 (by decide)
  have e : (6 : Int32).toInt = 6 := by decide
  have q := (c_iremV (x &&& 2147483647) 6).1 h.1 (by omega)
  exact own_cases_6 q.1 (by omega)
def Own (Z : State) (a_SUCCESS a_FAIL a_RETRY a_CANCELLED a_PARTIAL_SUCCESS a_SKIPPED : Addr) : Prop := Sta Z Z.heap "com/example/theseus/theseus/engine/Outcome" "SUCCESS" "Lcom/example/theseus/theseus/engine/Outcome;" (.ref a_SUCCESS) ∧ Exa Z Z.heap a_SUCCESS "com/example/theseus/theseus/engine/Outcome" ∧ Sta Z Z.heap "com/example/theseus/theseus/engine/Outcome" "FAIL" "Lcom/example/theseus/theseus/engine/Outcome;" (.ref a_FAIL) ∧ Exa Z Z.heap a_FAIL "com/example/theseus/theseus/engine/Outcome" ∧ Sta Z Z.heap "com/example/theseus/theseus/engine/Outcome" "RETRY" "Lcom/example/theseus/theseus/engine/Outcome;" (.ref a_RETRY) ∧ Exa Z Z.heap a_RETRY "com/example/theseus/theseus/engine/Outcome" ∧ Sta Z Z.heap "com/example/theseus/theseus/engine/Outcome" "CANCELLED" "Lcom/example/theseus/theseus/engine/Outcome;" (.ref a_CANCELLED) ∧ Exa Z Z.heap a_CANCELLED "com/example/theseus/theseus/engine/Outcome" ∧ Sta Z Z.heap "com/example/theseus/theseus/engine/Outcome" "PARTIAL_SUCCESS" "Lcom/example/theseus/theseus/engine/Outcome;" (.ref a_PARTIAL_SUCCESS) ∧ Exa Z Z.heap a_PARTIAL_SUCCESS "com/example/theseus/theseus/engine/Outcome" ∧ Sta Z Z.heap "com/example/theseus/theseus/engine/Outcome" "SKIPPED" "Lcom/example/theseus/theseus/engine/Outcome;" (.ref a_SKIPPED) ∧ Exa Z Z.heap a_SKIPPED "com/example/theseus/theseus/engine/Outcome" ∧ Fld Z Z.heap a_FAIL "java/lang/Enum" "ordinal" "I" (.int 3) ∧ Fld Z Z.heap a_SUCCESS "java/lang/Enum" "ordinal" "I" (.int 0) ∧ Fld Z Z.heap a_RETRY "java/lang/Enum" "ordinal" "I" (.int 2) ∧ Fld Z Z.heap a_CANCELLED "java/lang/Enum" "ordinal" "I" (.int 5) ∧ Fld Z Z.heap a_PARTIAL_SUCCESS "java/lang/Enum" "ordinal" "I" (.int 1) ∧ Fld Z Z.heap a_SKIPPED "java/lang/Enum" "ordinal" "I" (.int 4)
theorem own_fld {args : Array Value} {s : State} {t : Term} {C n d : String} {a : Addr} {k : Int32} (ev : t.eval args s none [] s = some (.ref a)) (h : (Jvm.Cond.eq (.field t C n d) (.int k)).value args s none s [] = some true) : Fld s s.heap a C n d (.int k) := by
  refine Fld.start ?_
  obtain ⟨u, w, h1, h2, h3, h4⟩ := cmp_v (Or.inl h)
  have e2 : w = .int k := (Option.some.inj h2).symm
  subst e2
  obtain ⟨z, rfl⟩ := h4
  rw [fld_at ev] at h1
  rw [h1]
  have q : (Jvm.Cond.eq (.field t C n d) (.int k)).value args s none s [] = some (decide (z = k)) := by simp [Cond.value, Term.eval, ev, h1]
  have := gotT q h
  rw [this]
set_option maxRecDepth 65536 in
set_option maxHeartbeats 40000000 in
theorem pk_0 (l : Launch) (Z : State) (a0 : Array Value) (hw : ∀ d ∈ tables_1, d.before a0 Z = true) (ws : List Jvm.Cond) (a_SUCCESS a_FAIL a_RETRY a_CANCELLED a_PARTIAL_SUCCESS a_SKIPPED : Addr) (G : Own Z a_SUCCESS a_FAIL a_RETRY a_CANCELLED a_PARTIAL_SUCCESS a_SKIPPED)  (h0 : Heap) (n0 : Nat) (O0 : Old Z n0 h0)  :
    MetFree l y_0 (head1 (Jvm.Cond.code y_0 method_2_code 1 (some (.object "com/example/theseus/theseus/engine/Outcome")) :: ws) ({ frames := 0, cells := 0, slots := 0, locals := 0 } : Room)) (fun a U => a = #[(.int 0)] ∧ Z.Warmed39 U.vm ∧ U.heap = h0) (fun _ _ _ _ _ => True) (fun _ U o U' => ∃ v L, o = .returned v ∧ QV (some (.ref a_SUCCESS)) h0 n0 v U'.heap L ∧ FrameEnd U o U' L ({ frames := 0, cells := 0, slots := 0, locals := 0 } : Room).cells ({ frames := 0, cells := 0, slots := 0, locals := 0 } : Room).slots) := by
  refine MetFree.of_bodySF (plainFor_of_name pn_0) hisR ?_
  intro p e s m args below meth c s₁ Bd hml0 hP hK
  obtain ⟨rfl, hZ, hh⟩ := hP
  have hx := Bd.exec
  have hby := Bd.bytes
  have hml : c.maxLocals = 1 := hml0
  have hown : s.vm.findClass "com/example/theseus/theseus/engine/OutcomeEndsARunPinLaw" = some m.cls := findClass_of_methodNamed Bd.named
  have hnm := (name_of_methodNamed Bd.named Bd.method).1
  have X0 : Stand p l e ({ frames := 0, cells := 0, slots := 0, locals := 0 } : Room) s m #[(.int 0)] below meth c s₁ [] 0 0 := Stand.of_body Bd
  have e0 : s₁.heap = h0 := by rw [← hh, Bd.state]; rfl
  have N0 := Fr.nil n0
  have K0 := Keep.refl h0 []
  have k0 : Go p.tables e below (s₁.setTop (entryFrame m #[(.int 0)] 1)) (s₁.setTop (mkF m 0 #[iv 0] [])) := fun t k => castTop (by first | rfl | (simp [entryFrame, mkF, argsToLocals, Value.category]; done)) k
  have ⟨S_SUCCESS, E_SUCCESS, S_FAIL, E_FAIL, S_RETRY, E_RETRY, S_CANCELLED, E_CANCELLED, S_PARTIAL_SUCCESS, E_PARTIAL_SUCCESS, S_SKIPPED, E_SKIPPED, R_FAIL_ordinal, R_SUCCESS_ordinal, R_RETRY_ordinal, R_CANCELLED_ordinal, R_PARTIAL_SUCCESS_ordinal, R_SKIPPED_ordinal⟩ := G
  have k_1 : Go p.tables e below (s₁.setTop (entryFrame m #[(.int 0)] 1)) (s₁.setTop (mkF m 4 #[iv 0] [])) := fun t q => by
    refine k0 t ?_
    refine XS.iloadN X0.here hx rfl (hb hby d1_0) rfl ?_
    show Steps _ _ _ (s₁.setTop (mkF m 1 #[iv 0] [(.int 0)])) _
    refine XS.ifNo X0.here hx rfl (hb hby d1_1) rfl (by decide) ?_
    show Steps _ _ _ (s₁.setTop (mkF m 4 #[iv 0] [])) _
    exact q
  obtain ⟨T2, X2, e2, st2⟩ := getS2 X0 hx hZ hown (host := "") (Or.inl (hw _ (wd 5 rfl))) Via.refl e0 (S_SUCCESS.ext O0.2) (g := (mkF m 4 #[iv 0] [])) rfl (hb hby d1_4)
  have k_3 : Go p.tables e below (s₁.setTop (entryFrame m #[(.int 0)] 1)) (T2.setTop (mkF m 7 #[iv 0] [(.ref a_SUCCESS)])) := fun t q => by
    refine k_1 t ?_
    refine st2 _ ?_
    show Steps _ _ _ (T2.setTop (mkF m 7 #[iv 0] [(.ref a_SUCCESS)])) _
    exact q
  obtain ⟨fs, hr, hrun, hended, hW, hsame⟩ := X2.leave (v := some (.ref a_SUCCESS)) (fun h => by rw [Bd.returns] at h; cases h)
  refine ⟨_, _, k_3 _ ?_, hrun, hended, _, _, rfl, ?_, ⟨_, rfl⟩, hW, hsame.mono (by decide) (by decide)⟩
  · exact retOut X2 hx Bd.returns rfl (Or.inr (Or.inr (Or.inr (Or.inr ⟨rfl, rfl, rfl⟩)))) (hb hby d1_7) hr
  · show QV (some (.ref a_SUCCESS)) h0 n0 _ T2.heap _
    rw [e2]
    exact ⟨rfl, N0, rfl⟩
set_option maxRecDepth 65536 in
set_option maxHeartbeats 40000000 in
theorem er_0 (l : Launch) (Z : State) (a0 : Array Value) (hw : ∀ d ∈ tables_1, d.before a0 Z = true) (ws : List Jvm.Cond) (a_SUCCESS a_FAIL a_RETRY a_CANCELLED a_PARTIAL_SUCCESS a_SKIPPED : Addr) (G : Own Z a_SUCCESS a_FAIL a_RETRY a_CANCELLED a_PARTIAL_SUCCESS a_SKIPPED)  (h0 : Heap) (n0 : Nat) (O0 : Old Z n0 h0)  :
    MetFree l y_1 (head1 (Jvm.Cond.code y_1 prog_41_method_6_code 1 (some .boolean) :: ws) ({ frames := 0, cells := 0, slots := 0, locals := 0 } : Room)) (fun a U => a = #[(.ref a_SUCCESS)] ∧ Z.Warmed39 U.vm ∧ U.heap = h0) (fun _ _ _ _ _ => True) (fun _ U o U' => ∃ v L, o = .returned v ∧ QV (some (.int 1)) h0 n0 v U'.heap L ∧ FrameEnd U o U' L ({ frames := 0, cells := 0, slots := 0, locals := 0 } : Room).cells ({ frames := 0, cells := 0, slots := 0, locals := 0 } : Room).slots) := by
  refine MetFree.of_bodySF (plainFor_of_name pn_1) hisR ?_
  intro p e s m args below meth c s₁ Bd hml0 hP hK
  obtain ⟨rfl, hZ, hh⟩ := hP
  have hx := Bd.exec
  have hby := Bd.bytes
  have hml : c.maxLocals = 1 := hml0
  have hown : s.vm.findClass "com/example/theseus/theseus/engine/Outcome" = some m.cls := findClass_of_methodNamed Bd.named
  have hnm := (name_of_methodNamed Bd.named Bd.method).1
  have X0 : Stand p l e ({ frames := 0, cells := 0, slots := 0, locals := 0 } : Room) s m #[(.ref a_SUCCESS)] below meth c s₁ [] 0 0 := Stand.of_body Bd
  have e0 : s₁.heap = h0 := by rw [← hh, Bd.state]; rfl
  have N0 := Fr.nil n0
  have K0 := Keep.refl h0 []
  have k0 : Go p.tables e below (s₁.setTop (entryFrame m #[(.ref a_SUCCESS)] 1)) (s₁.setTop (mkF m 0 #[rv a_SUCCESS] [])) := fun t k => castTop (by first | rfl | (simp [entryFrame, mkF, argsToLocals, Value.category]; done)) k
  have ⟨S_SUCCESS, E_SUCCESS, S_FAIL, E_FAIL, S_RETRY, E_RETRY, S_CANCELLED, E_CANCELLED, S_PARTIAL_SUCCESS, E_PARTIAL_SUCCESS, S_SKIPPED, E_SKIPPED, R_FAIL_ordinal, R_SUCCESS_ordinal, R_RETRY_ordinal, R_CANCELLED_ordinal, R_PARTIAL_SUCCESS_ordinal, R_SKIPPED_ordinal⟩ := G
  have k_4 : Go p.tables e below (s₁.setTop (entryFrame m #[(.ref a_SUCCESS)] 1)) (s₁.setTop (mkF m 1 #[rv a_SUCCESS] [(.ref a_SUCCESS)])) := fun t q => by
    refine k0 t ?_
    refine XS.aloadN X0.here hx rfl (hb hby d2_0) rfl rfl ?_
    show Steps _ _ _ (s₁.setTop (mkF m 1 #[rv a_SUCCESS] [(.ref a_SUCCESS)])) _
    exact q
  obtain ⟨T5, X5, e5, st5⟩ := getS2 X0 hx hZ hown (host := "") (Or.inl (hw _ (wd 14 rfl))) Via.refl e0 (S_SUCCESS.ext O0.2) (g := (mkF m 1 #[rv a_SUCCESS] [(.ref a_SUCCESS)])) rfl (hb hby d2_1)
  have k_6 : Go p.tables e below (s₁.setTop (entryFrame m #[(.ref a_SUCCESS)] 1)) (T5.setTop (mkF m 26 #[rv a_SUCCESS] [(.int 1)])) := fun t q => by
    refine k_4 t ?_
    refine st5 _ ?_
    show Steps _ _ _ (T5.setTop (mkF m 4 #[rv a_SUCCESS] [(.ref a_SUCCESS), (.ref a_SUCCESS)])) _
    refine Jvm.RoadKit.acmp (g := (mkF m 4 #[rv a_SUCCESS] [(.ref a_SUCCESS), (.ref a_SUCCESS)])) X5 hx rfl rfl rfl (pc0 := 4) (pc' := 21) (same := true) rfl (hb hby d2_4) rfl (decide_eq_true rfl) (by decide) (by decide) ?_
    show Steps _ _ _ (T5.setTop (mkF m 21 #[rv a_SUCCESS] [])) _
    refine XS.iconst X5.here hx rfl (hb hby d2_21) ?_
    show Steps _ _ _ (T5.setTop (mkF m 22 #[rv a_SUCCESS] [(.int 1)])) _
    refine XS.goto X5.here hx rfl (pc0 := 22) (pc' := 26) rfl (hb hby d2_22) (by decide) (by decide) ?_
    show Steps _ _ _ (T5.setTop (mkF m 26 #[rv a_SUCCESS] [(.int 1)])) _
    exact q
  obtain ⟨fs, hr, hrun, hended, hW, hsame⟩ := X5.leave (v := some (.int 1)) (fun h => by rw [Bd.returns] at h; cases h)
  refine ⟨_, _, k_6 _ ?_, hrun, hended, _, _, rfl, ?_, ⟨_, rfl⟩, hW, hsame.mono (by decide) (by decide)⟩
  · exact retN X5 hx (t := .boolean) Bd.returns (by simp) (hb hby d2_26) hr
  · show QV (some (.int 1)) h0 n0 _ T5.heap _
    rw [e5]
    exact ⟨rfl, N0, rfl⟩
set_option maxRecDepth 65536 in
set_option maxHeartbeats 40000000 in
theorem pk_1 (l : Launch) (Z : State) (a0 : Array Value) (hw : ∀ d ∈ tables_1, d.before a0 Z = true) (ws : List Jvm.Cond) (a_SUCCESS a_FAIL a_RETRY a_CANCELLED a_PARTIAL_SUCCESS a_SKIPPED : Addr) (G : Own Z a_SUCCESS a_FAIL a_RETRY a_CANCELLED a_PARTIAL_SUCCESS a_SKIPPED)  (h0 : Heap) (n0 : Nat) (O0 : Old Z n0 h0)  :
    MetFree l y_0 (head1 (Jvm.Cond.code y_0 method_2_code 1 (some (.object "com/example/theseus/theseus/engine/Outcome")) :: ws) ({ frames := 0, cells := 0, slots := 0, locals := 0 } : Room)) (fun a U => a = #[(.int 1)] ∧ Z.Warmed39 U.vm ∧ U.heap = h0) (fun _ _ _ _ _ => True) (fun _ U o U' => ∃ v L, o = .returned v ∧ QV (some (.ref a_PARTIAL_SUCCESS)) h0 n0 v U'.heap L ∧ FrameEnd U o U' L ({ frames := 0, cells := 0, slots := 0, locals := 0 } : Room).cells ({ frames := 0, cells := 0, slots := 0, locals := 0 } : Room).slots) := by
  refine MetFree.of_bodySF (plainFor_of_name pn_0) hisR ?_
  intro p e s m args below meth c s₁ Bd hml0 hP hK
  obtain ⟨rfl, hZ, hh⟩ := hP
  have hx := Bd.exec
  have hby := Bd.bytes
  have hml : c.maxLocals = 1 := hml0
  have hown : s.vm.findClass "com/example/theseus/theseus/engine/OutcomeEndsARunPinLaw" = some m.cls := findClass_of_methodNamed Bd.named
  have hnm := (name_of_methodNamed Bd.named Bd.method).1
  have X0 : Stand p l e ({ frames := 0, cells := 0, slots := 0, locals := 0 } : Room) s m #[(.int 1)] below meth c s₁ [] 0 0 := Stand.of_body Bd
  have e0 : s₁.heap = h0 := by rw [← hh, Bd.state]; rfl
  have N0 := Fr.nil n0
  have K0 := Keep.refl h0 []
  have k0 : Go p.tables e below (s₁.setTop (entryFrame m #[(.int 1)] 1)) (s₁.setTop (mkF m 0 #[iv 1] [])) := fun t k => castTop (by first | rfl | (simp [entryFrame, mkF, argsToLocals, Value.category]; done)) k
  have ⟨S_SUCCESS, E_SUCCESS, S_FAIL, E_FAIL, S_RETRY, E_RETRY, S_CANCELLED, E_CANCELLED, S_PARTIAL_SUCCESS, E_PARTIAL_SUCCESS, S_SKIPPED, E_SKIPPED, R_FAIL_ordinal, R_SUCCESS_ordinal, R_RETRY_ordinal, R_CANCELLED_ordinal, R_PARTIAL_SUCCESS_ordinal, R_SKIPPED_ordinal⟩ := G
  have k_7 : Go p.tables e below (s₁.setTop (entryFrame m #[(.int 1)] 1)) (s₁.setTop (mkF m 13 #[iv 1] [])) := fun t q => by
    refine k0 t ?_
    refine XS.iloadN X0.here hx rfl (hb hby d1_0) rfl ?_
    show Steps _ _ _ (s₁.setTop (mkF m 1 #[iv 1] [(.int 1)])) _
    refine XS.ifYes X0.here hx rfl (pc0 := 1) (pc' := 8) rfl (hb hby d1_1) rfl (by decide) (by decide) (by decide) ?_
    show Steps _ _ _ (s₁.setTop (mkF m 8 #[iv 1] [])) _
    refine XS.iloadN X0.here hx rfl (hb hby d1_8) rfl ?_
    show Steps _ _ _ (s₁.setTop (mkF m 9 #[iv 1] [(.int 1)])) _
    refine XS.iconst X0.here hx rfl (hb hby d1_9) ?_
    show Steps _ _ _ (s₁.setTop (mkF m 10 #[iv 1] [(.int 1), (.int 1)])) _
    refine XS.icmpNo X0.here hx rfl (hb hby d1_10) rfl (by decide) ?_
    show Steps _ _ _ (s₁.setTop (mkF m 13 #[iv 1] [])) _
    exact q
  obtain ⟨T8, X8, e8, st8⟩ := getS2 X0 hx hZ hown (host := "") (Or.inl (hw _ (wd 22 rfl))) Via.refl e0 (S_PARTIAL_SUCCESS.ext O0.2) (g := (mkF m 13 #[iv 1] [])) rfl (hb hby d1_13)
  have k_9 : Go p.tables e below (s₁.setTop (entryFrame m #[(.int 1)] 1)) (T8.setTop (mkF m 16 #[iv 1] [(.ref a_PARTIAL_SUCCESS)])) := fun t q => by
    refine k_7 t ?_
    refine st8 _ ?_
    show Steps _ _ _ (T8.setTop (mkF m 16 #[iv 1] [(.ref a_PARTIAL_SUCCESS)])) _
    exact q
  obtain ⟨fs, hr, hrun, hended, hW, hsame⟩ := X8.leave (v := some (.ref a_PARTIAL_SUCCESS)) (fun h => by rw [Bd.returns] at h; cases h)
  refine ⟨_, _, k_9 _ ?_, hrun, hended, _, _, rfl, ?_, ⟨_, rfl⟩, hW, hsame.mono (by decide) (by decide)⟩
  · exact retOut X8 hx Bd.returns rfl (Or.inr (Or.inr (Or.inr (Or.inr ⟨rfl, rfl, rfl⟩)))) (hb hby d1_16) hr
  · show QV (some (.ref a_PARTIAL_SUCCESS)) h0 n0 _ T8.heap _
    rw [e8]
    exact ⟨rfl, N0, rfl⟩
set_option maxRecDepth 65536 in
set_option maxHeartbeats 40000000 in
theorem er_1 (l : Launch) (Z : State) (a0 : Array Value) (hw : ∀ d ∈ tables_1, d.before a0 Z = true) (ws : List Jvm.Cond) (a_SUCCESS a_FAIL a_RETRY a_CANCELLED a_PARTIAL_SUCCESS a_SKIPPED : Addr) (G : Own Z a_SUCCESS a_FAIL a_RETRY a_CANCELLED a_PARTIAL_SUCCESS a_SKIPPED)  (h0 : Heap) (n0 : Nat) (O0 : Old Z n0 h0)  :
    MetFree l y_1 (head1 (Jvm.Cond.code y_1 prog_41_method_6_code 1 (some .boolean) :: ws) ({ frames := 0, cells := 0, slots := 0, locals := 0 } : Room)) (fun a U => a = #[(.ref a_PARTIAL_SUCCESS)] ∧ Z.Warmed39 U.vm ∧ U.heap = h0) (fun _ _ _ _ _ => True) (fun _ U o U' => ∃ v L, o = .returned v ∧ QV (some (.int 0)) h0 n0 v U'.heap L ∧ FrameEnd U o U' L ({ frames := 0, cells := 0, slots := 0, locals := 0 } : Room).cells ({ frames := 0, cells := 0, slots := 0, locals := 0 } : Room).slots) := by
  refine MetFree.of_bodySF (plainFor_of_name pn_1) hisR ?_
  intro p e s m args below meth c s₁ Bd hml0 hP hK
  obtain ⟨rfl, hZ, hh⟩ := hP
  have hx := Bd.exec
  have hby := Bd.bytes
  have hml : c.maxLocals = 1 := hml0
  have hown : s.vm.findClass "com/example/theseus/theseus/engine/Outcome" = some m.cls := findClass_of_methodNamed Bd.named
  have hnm := (name_of_methodNamed Bd.named Bd.method).1
  have X0 : Stand p l e ({ frames := 0, cells := 0, slots := 0, locals := 0 } : Room) s m #[(.ref a_PARTIAL_SUCCESS)] below meth c s₁ [] 0 0 := Stand.of_body Bd
  have e0 : s₁.heap = h0 := by rw [← hh, Bd.state]; rfl
  have N0 := Fr.nil n0
  have K0 := Keep.refl h0 []
  have k0 : Go p.tables e below (s₁.setTop (entryFrame m #[(.ref a_PARTIAL_SUCCESS)] 1)) (s₁.setTop (mkF m 0 #[rv a_PARTIAL_SUCCESS] [])) := fun t k => castTop (by first | rfl | (simp [entryFrame, mkF, argsToLocals, Value.category]; done)) k
  have ⟨S_SUCCESS, E_SUCCESS, S_FAIL, E_FAIL, S_RETRY, E_RETRY, S_CANCELLED, E_CANCELLED, S_PARTIAL_SUCCESS, E_PARTIAL_SUCCESS, S_SKIPPED, E_SKIPPED, R_FAIL_ordinal, R_SUCCESS_ordinal, R_RETRY_ordinal, R_CANCELLED_ordinal, R_PARTIAL_SUCCESS_ordinal, R_SKIPPED_ordinal⟩ := G
  have k_10 : Go p.tables e below (s₁.setTop (entryFrame m #[(.ref a_PARTIAL_SUCCESS)] 1)) (s₁.setTop (mkF m 1 #[rv a_PARTIAL_SUCCESS] [(.ref a_PARTIAL_SUCCESS)])) := fun t q => by
    refine k0 t ?_
    refine XS.aloadN X0.here hx rfl (hb hby d2_0) rfl rfl ?_
    show Steps _ _ _ (s₁.setTop (mkF m 1 #[rv a_PARTIAL_SUCCESS] [(.ref a_PARTIAL_SUCCESS)])) _
    exact q
  obtain ⟨T11, X11, e11, st11⟩ := getS2 X0 hx hZ hown (host := "") (Or.inl (hw _ (wd 14 rfl))) Via.refl e0 (S_SUCCESS.ext O0.2) (g := (mkF m 1 #[rv a_PARTIAL_SUCCESS] [(.ref a_PARTIAL_SUCCESS)])) rfl (hb hby d2_1)
  have k_12 : Go p.tables e below (s₁.setTop (entryFrame m #[(.ref a_PARTIAL_SUCCESS)] 1)) (T11.setTop (mkF m 8 #[rv a_PARTIAL_SUCCESS] [(.ref a_PARTIAL_SUCCESS)])) := fun t q => by
    refine k_10 t ?_
    refine st11 _ ?_
    show Steps _ _ _ (T11.setTop (mkF m 4 #[rv a_PARTIAL_SUCCESS] [(.ref a_SUCCESS), (.ref a_PARTIAL_SUCCESS)])) _
    refine Jvm.RoadKit.acmp (g := (mkF m 4 #[rv a_PARTIAL_SUCCESS] [(.ref a_SUCCESS), (.ref a_PARTIAL_SUCCESS)])) X11 hx rfl rfl rfl (pc0 := 4) (pc' := 7) (same := false) rfl (hb hby d2_4) rfl (decide_eq_false fun q => (own_ne R_PARTIAL_SUCCESS_ordinal R_SUCCESS_ordinal (by decide)) (Value.ref.inj q)) (by decide) (by decide) ?_
    show Steps _ _ _ (T11.setTop (mkF m 7 #[rv a_PARTIAL_SUCCESS] [])) _
    refine XS.aloadN X11.here hx rfl (hb hby d2_7) rfl rfl ?_
    show Steps _ _ _ (T11.setTop (mkF m 8 #[rv a_PARTIAL_SUCCESS] [(.ref a_PARTIAL_SUCCESS)])) _
    exact q
  obtain ⟨T13, X13, e13, st13⟩ := getS2 X11 hx hZ hown (host := "") (Or.inl (hw _ (wd 17 rfl))) Via.refl e11 (S_FAIL.ext O0.2) (g := (mkF m 8 #[rv a_PARTIAL_SUCCESS] [(.ref a_PARTIAL_SUCCESS)])) rfl (hb hby d2_8)
  have k_14 : Go p.tables e below (s₁.setTop (entryFrame m #[(.ref a_PARTIAL_SUCCESS)] 1)) (T13.setTop (mkF m 15 #[rv a_PARTIAL_SUCCESS] [(.ref a_PARTIAL_SUCCESS)])) := fun t q => by
    refine k_12 t ?_
    refine st13 _ ?_
    show Steps _ _ _ (T13.setTop (mkF m 11 #[rv a_PARTIAL_SUCCESS] [(.ref a_FAIL), (.ref a_PARTIAL_SUCCESS)])) _
    refine Jvm.RoadKit.acmp (g := (mkF m 11 #[rv a_PARTIAL_SUCCESS] [(.ref a_FAIL), (.ref a_PARTIAL_SUCCESS)])) X13 hx rfl rfl rfl (pc0 := 11) (pc' := 14) (same := false) rfl (hb hby d2_11) rfl (decide_eq_false fun q => (own_ne R_PARTIAL_SUCCESS_ordinal R_FAIL_ordinal (by decide)) (Value.ref.inj q)) (by decide) (by decide) ?_
    show Steps _ _ _ (T13.setTop (mkF m 14 #[rv a_PARTIAL_SUCCESS] [])) _
    refine XS.aloadN X13.here hx rfl (hb hby d2_14) rfl rfl ?_
    show Steps _ _ _ (T13.setTop (mkF m 15 #[rv a_PARTIAL_SUCCESS] [(.ref a_PARTIAL_SUCCESS)])) _
    exact q
  obtain ⟨T15, X15, e15, st15⟩ := getS2 X13 hx hZ hown (host := "") (Or.inl (hw _ (wd 20 rfl))) Via.refl e13 (S_CANCELLED.ext O0.2) (g := (mkF m 15 #[rv a_PARTIAL_SUCCESS] [(.ref a_PARTIAL_SUCCESS)])) rfl (hb hby d2_15)
  have k_16 : Go p.tables e below (s₁.setTop (entryFrame m #[(.ref a_PARTIAL_SUCCESS)] 1)) (T15.setTop (mkF m 26 #[rv a_PARTIAL_SUCCESS] [(.int 0)])) := fun t q => by
    refine k_14 t ?_
    refine st15 _ ?_
    show Steps _ _ _ (T15.setTop (mkF m 18 #[rv a_PARTIAL_SUCCESS] [(.ref a_CANCELLED), (.ref a_PARTIAL_SUCCESS)])) _
    refine Jvm.RoadKit.acmp (g := (mkF m 18 #[rv a_PARTIAL_SUCCESS] [(.ref a_CANCELLED), (.ref a_PARTIAL_SUCCESS)])) X15 hx rfl rfl rfl (pc0 := 18) (pc' := 25) (same := false) rfl (hb hby d2_18) rfl (decide_eq_false fun q => (own_ne R_PARTIAL_SUCCESS_ordinal R_CANCELLED_ordinal (by decide)) (Value.ref.inj q)) (by decide) (by decide) ?_
    show Steps _ _ _ (T15.setTop (mkF m 25 #[rv a_PARTIAL_SUCCESS] [])) _
    refine XS.iconst X15.here hx rfl (hb hby d2_25) ?_
    show Steps _ _ _ (T15.setTop (mkF m 26 #[rv a_PARTIAL_SUCCESS] [(.int 0)])) _
    exact q
  obtain ⟨fs, hr, hrun, hended, hW, hsame⟩ := X15.leave (v := some (.int 0)) (fun h => by rw [Bd.returns] at h; cases h)
  refine ⟨_, _, k_16 _ ?_, hrun, hended, _, _, rfl, ?_, ⟨_, rfl⟩, hW, hsame.mono (by decide) (by decide)⟩
  · exact retN X15 hx (t := .boolean) Bd.returns (by simp) (hb hby d2_26) hr
  · show QV (some (.int 0)) h0 n0 _ T15.heap _
    rw [e15]
    exact ⟨rfl, N0, rfl⟩
set_option maxRecDepth 65536 in
set_option maxHeartbeats 40000000 in
theorem pk_2 (l : Launch) (Z : State) (a0 : Array Value) (hw : ∀ d ∈ tables_1, d.before a0 Z = true) (ws : List Jvm.Cond) (a_SUCCESS a_FAIL a_RETRY a_CANCELLED a_PARTIAL_SUCCESS a_SKIPPED : Addr) (G : Own Z a_SUCCESS a_FAIL a_RETRY a_CANCELLED a_PARTIAL_SUCCESS a_SKIPPED)  (h0 : Heap) (n0 : Nat) (O0 : Old Z n0 h0)  :
    MetFree l y_0 (head1 (Jvm.Cond.code y_0 method_2_code 1 (some (.object "com/example/theseus/theseus/engine/Outcome")) :: ws) ({ frames := 0, cells := 0, slots := 0, locals := 0 } : Room)) (fun a U => a = #[(.int 2)] ∧ Z.Warmed39 U.vm ∧ U.heap = h0) (fun _ _ _ _ _ => True) (fun _ U o U' => ∃ v L, o = .returned v ∧ QV (some (.ref a_RETRY)) h0 n0 v U'.heap L ∧ FrameEnd U o U' L ({ frames := 0, cells := 0, slots := 0, locals := 0 } : Room).cells ({ frames := 0, cells := 0, slots := 0, locals := 0 } : Room).slots) := by
  refine MetFree.of_bodySF (plainFor_of_name pn_0) hisR ?_
  intro p e s m args below meth c s₁ Bd hml0 hP hK
  obtain ⟨rfl, hZ, hh⟩ := hP
  have hx := Bd.exec
  have hby := Bd.bytes
  have hml : c.maxLocals = 1 := hml0
  have hown : s.vm.findClass "com/example/theseus/theseus/engine/OutcomeEndsARunPinLaw" = some m.cls := findClass_of_methodNamed Bd.named
  have hnm := (name_of_methodNamed Bd.named Bd.method).1
  have X0 : Stand p l e ({ frames := 0, cells := 0, slots := 0, locals := 0 } : Room) s m #[(.int 2)] below meth c s₁ [] 0 0 := Stand.of_body Bd
  have e0 : s₁.heap = h0 := by rw [← hh, Bd.state]; rfl
  have N0 := Fr.nil n0
  have K0 := Keep.refl h0 []
  have k0 : Go p.tables e below (s₁.setTop (entryFrame m #[(.int 2)] 1)) (s₁.setTop (mkF m 0 #[iv 2] [])) := fun t k => castTop (by first | rfl | (simp [entryFrame, mkF, argsToLocals, Value.category]; done)) k
  have ⟨S_SUCCESS, E_SUCCESS, S_FAIL, E_FAIL, S_RETRY, E_RETRY, S_CANCELLED, E_CANCELLED, S_PARTIAL_SUCCESS, E_PARTIAL_SUCCESS, S_SKIPPED, E_SKIPPED, R_FAIL_ordinal, R_SUCCESS_ordinal, R_RETRY_ordinal, R_CANCELLED_ordinal, R_PARTIAL_SUCCESS_ordinal, R_SKIPPED_ordinal⟩ := G
  have k_17 : Go p.tables e below (s₁.setTop (entryFrame m #[(.int 2)] 1)) (s₁.setTop (mkF m 22 #[iv 2] [])) := fun t q => by
    refine k0 t ?_
    refine XS.iloadN X0.here hx rfl (hb hby d1_0) rfl ?_
    show Steps _ _ _ (s₁.setTop (mkF m 1 #[iv 2] [(.int 2)])) _
    refine XS.ifYes X0.here hx rfl (pc0 := 1) (pc' := 8) rfl (hb hby d1_1) rfl (by decide) (by decide) (by decide) ?_
    show Steps _ _ _ (s₁.setTop (mkF m 8 #[iv 2] [])) _
    refine XS.iloadN X0.here hx rfl (hb hby d1_8) rfl ?_
    show Steps _ _ _ (s₁.setTop (mkF m 9 #[iv 2] [(.int 2)])) _
    refine XS.iconst X0.here hx rfl (hb hby d1_9) ?_
    show Steps _ _ _ (s₁.setTop (mkF m 10 #[iv 2] [(.int 1), (.int 2)])) _
    refine XS.icmpYes X0.here hx rfl (pc0 := 10) (pc' := 17) rfl (hb hby d1_10) rfl (by decide) (by decide) (by decide) ?_
    show Steps _ _ _ (s₁.setTop (mkF m 17 #[iv 2] [])) _
    refine XS.iloadN X0.here hx rfl (hb hby d1_17) rfl ?_
    show Steps _ _ _ (s₁.setTop (mkF m 18 #[iv 2] [(.int 2)])) _
    refine XS.iconst X0.here hx rfl (hb hby d1_18) ?_
    show Steps _ _ _ (s₁.setTop (mkF m 19 #[iv 2] [(.int 2), (.int 2)])) _
    refine XS.icmpNo X0.here hx rfl (hb hby d1_19) rfl (by decide) ?_
    show Steps _ _ _ (s₁.setTop (mkF m 22 #[iv 2] [])) _
    exact q
  obtain ⟨T18, X18, e18, st18⟩ := getS2 X0 hx hZ hown (host := "") (Or.inl (hw _ (wd 18 rfl))) Via.refl e0 (S_RETRY.ext O0.2) (g := (mkF m 22 #[iv 2] [])) rfl (hb hby d1_22)
  have k_19 : Go p.tables e below (s₁.setTop (entryFrame m #[(.int 2)] 1)) (T18.setTop (mkF m 25 #[iv 2] [(.ref a_RETRY)])) := fun t q => by
    refine k_17 t ?_
    refine st18 _ ?_
    show Steps _ _ _ (T18.setTop (mkF m 25 #[iv 2] [(.ref a_RETRY)])) _
    exact q
  obtain ⟨fs, hr, hrun, hended, hW, hsame⟩ := X18.leave (v := some (.ref a_RETRY)) (fun h => by rw [Bd.returns] at h; cases h)
  refine ⟨_, _, k_19 _ ?_, hrun, hended, _, _, rfl, ?_, ⟨_, rfl⟩, hW, hsame.mono (by decide) (by decide)⟩
  · exact retOut X18 hx Bd.returns rfl (Or.inr (Or.inr (Or.inr (Or.inr ⟨rfl, rfl, rfl⟩)))) (hb hby d1_25) hr
  · show QV (some (.ref a_RETRY)) h0 n0 _ T18.heap _
    rw [e18]
    exact ⟨rfl, N0, rfl⟩
set_option maxRecDepth 65536 in
set_option maxHeartbeats 40000000 in
theorem er_2 (l : Launch) (Z : State) (a0 : Array Value) (hw : ∀ d ∈ tables_1, d.before a0 Z = true) (ws : List Jvm.Cond) (a_SUCCESS a_FAIL a_RETRY a_CANCELLED a_PARTIAL_SUCCESS a_SKIPPED : Addr) (G : Own Z a_SUCCESS a_FAIL a_RETRY a_CANCELLED a_PARTIAL_SUCCESS a_SKIPPED)  (h0 : Heap) (n0 : Nat) (O0 : Old Z n0 h0)  :
    MetFree l y_1 (head1 (Jvm.Cond.code y_1 prog_41_method_6_code 1 (some .boolean) :: ws) ({ frames := 0, cells := 0, slots := 0, locals := 0 } : Room)) (fun a U => a = #[(.ref a_RETRY)] ∧ Z.Warmed39 U.vm ∧ U.heap = h0) (fun _ _ _ _ _ => True) (fun _ U o U' => ∃ v L, o = .returned v ∧ QV (some (.int 0)) h0 n0 v U'.heap L ∧ FrameEnd U o U' L ({ frames := 0, cells := 0, slots := 0, locals := 0 } : Room).cells ({ frames := 0, cells := 0, slots := 0, locals := 0 } : Room).slots) := by
  refine MetFree.of_bodySF (plainFor_of_name pn_1) hisR ?_
  intro p e s m args below meth c s₁ Bd hml0 hP hK
  obtain ⟨rfl, hZ, hh⟩ := hP
  have hx := Bd.exec
  have hby := Bd.bytes
  have hml : c.maxLocals = 1 := hml0
  have hown : s.vm.findClass "com/example/theseus/theseus/engine/Outcome" = some m.cls := findClass_of_methodNamed Bd.named
  have hnm := (name_of_methodNamed Bd.named Bd.method).1
  have X0 : Stand p l e ({ frames := 0, cells := 0, slots := 0, locals := 0 } : Room) s m #[(.ref a_RETRY)] below meth c s₁ [] 0 0 := Stand.of_body Bd
  have e0 : s₁.heap = h0 := by rw [← hh, Bd.state]; rfl
  have N0 := Fr.nil n0
  have K0 := Keep.refl h0 []
  have k0 : Go p.tables e below (s₁.setTop (entryFrame m #[(.ref a_RETRY)] 1)) (s₁.setTop (mkF m 0 #[rv a_RETRY] [])) := fun t k => castTop (by first | rfl | (simp [entryFrame, mkF, argsToLocals, Value.category]; done)) k
  have ⟨S_SUCCESS, E_SUCCESS, S_FAIL, E_FAIL, S_RETRY, E_RETRY, S_CANCELLED, E_CANCELLED, S_PARTIAL_SUCCESS, E_PARTIAL_SUCCESS, S_SKIPPED, E_SKIPPED, R_FAIL_ordinal, R_SUCCESS_ordinal, R_RETRY_ordinal, R_CANCELLED_ordinal, R_PARTIAL_SUCCESS_ordinal, R_SKIPPED_ordinal⟩ := G
  have k_20 : Go p.tables e below (s₁.setTop (entryFrame m #[(.ref a_RETRY)] 1)) (s₁.setTop (mkF m 1 #[rv a_RETRY] [(.ref a_RETRY)])) := fun t q => by
    refine k0 t ?_
    refine XS.aloadN X0.here hx rfl (hb hby d2_0) rfl rfl ?_
    show Steps _ _ _ (s₁.setTop (mkF m 1 #[rv a_RETRY] [(.ref a_RETRY)])) _
    exact q
  obtain ⟨T21, X21, e21, st21⟩ := getS2 X0 hx hZ hown (host := "") (Or.inl (hw _ (wd 14 rfl))) Via.refl e0 (S_SUCCESS.ext O0.2) (g := (mkF m 1 #[rv a_RETRY] [(.ref a_RETRY)])) rfl (hb hby d2_1)
  have k_22 : Go p.tables e below (s₁.setTop (entryFrame m #[(.ref a_RETRY)] 1)) (T21.setTop (mkF m 8 #[rv a_RETRY] [(.ref a_RETRY)])) := fun t q => by
    refine k_20 t ?_
    refine st21 _ ?_
    show Steps _ _ _ (T21.setTop (mkF m 4 #[rv a_RETRY] [(.ref a_SUCCESS), (.ref a_RETRY)])) _
    refine Jvm.RoadKit.acmp (g := (mkF m 4 #[rv a_RETRY] [(.ref a_SUCCESS), (.ref a_RETRY)])) X21 hx rfl rfl rfl (pc0 := 4) (pc' := 7) (same := false) rfl (hb hby d2_4) rfl (decide_eq_false fun q => (own_ne R_RETRY_ordinal R_SUCCESS_ordinal (by decide)) (Value.ref.inj q)) (by decide) (by decide) ?_
    show Steps _ _ _ (T21.setTop (mkF m 7 #[rv a_RETRY] [])) _
    refine XS.aloadN X21.here hx rfl (hb hby d2_7) rfl rfl ?_
    show Steps _ _ _ (T21.setTop (mkF m 8 #[rv a_RETRY] [(.ref a_RETRY)])) _
    exact q
  obtain ⟨T23, X23, e23, st23⟩ := getS2 X21 hx hZ hown (host := "") (Or.inl (hw _ (wd 17 rfl))) Via.refl e21 (S_FAIL.ext O0.2) (g := (mkF m 8 #[rv a_RETRY] [(.ref a_RETRY)])) rfl (hb hby d2_8)
  have k_24 : Go p.tables e below (s₁.setTop (entryFrame m #[(.ref a_RETRY)] 1)) (T23.setTop (mkF m 15 #[rv a_RETRY] [(.ref a_RETRY)])) := fun t q => by
    refine k_22 t ?_
    refine st23 _ ?_
    show Steps _ _ _ (T23.setTop (mkF m 11 #[rv a_RETRY] [(.ref a_FAIL), (.ref a_RETRY)])) _
    refine Jvm.RoadKit.acmp (g := (mkF m 11 #[rv a_RETRY] [(.ref a_FAIL), (.ref a_RETRY)])) X23 hx rfl rfl rfl (pc0 := 11) (pc' := 14) (same := false) rfl (hb hby d2_11) rfl (decide_eq_false fun q => (own_ne R_RETRY_ordinal R_FAIL_ordinal (by decide)) (Value.ref.inj q)) (by decide) (by decide) ?_
    show Steps _ _ _ (T23.setTop (mkF m 14 #[rv a_RETRY] [])) _
    refine XS.aloadN X23.here hx rfl (hb hby d2_14) rfl rfl ?_
    show Steps _ _ _ (T23.setTop (mkF m 15 #[rv a_RETRY] [(.ref a_RETRY)])) _
    exact q
  obtain ⟨T25, X25, e25, st25⟩ := getS2 X23 hx hZ hown (host := "") (Or.inl (hw _ (wd 20 rfl))) Via.refl e23 (S_CANCELLED.ext O0.2) (g := (mkF m 15 #[rv a_RETRY] [(.ref a_RETRY)])) rfl (hb hby d2_15)
  have k_26 : Go p.tables e below (s₁.setTop (entryFrame m #[(.ref a_RETRY)] 1)) (T25.setTop (mkF m 26 #[rv a_RETRY] [(.int 0)])) := fun t q => by
    refine k_24 t ?_
    refine st25 _ ?_
    show Steps _ _ _ (T25.setTop (mkF m 18 #[rv a_RETRY] [(.ref a_CANCELLED), (.ref a_RETRY)])) _
    refine Jvm.RoadKit.acmp (g := (mkF m 18 #[rv a_RETRY] [(.ref a_CANCELLED), (.ref a_RETRY)])) X25 hx rfl rfl rfl (pc0 := 18) (pc' := 25) (same := false) rfl (hb hby d2_18) rfl (decide_eq_false fun q => (own_ne R_RETRY_ordinal R_CANCELLED_ordinal (by decide)) (Value.ref.inj q)) (by decide) (by decide) ?_
    show Steps _ _ _ (T25.setTop (mkF m 25 #[rv a_RETRY] [])) _
    refine XS.iconst X25.here hx rfl (hb hby d2_25) ?_
    show Steps _ _ _ (T25.setTop (mkF m 26 #[rv a_RETRY] [(.int 0)])) _
    exact q
  obtain ⟨fs, hr, hrun, hended, hW, hsame⟩ := X25.leave (v := some (.int 0)) (fun h => by rw [Bd.returns] at h; cases h)
  refine ⟨_, _, k_26 _ ?_, hrun, hended, _, _, rfl, ?_, ⟨_, rfl⟩, hW, hsame.mono (by decide) (by decide)⟩
  · exact retN X25 hx (t := .boolean) Bd.returns (by simp) (hb hby d2_26) hr
  · show QV (some (.int 0)) h0 n0 _ T25.heap _
    rw [e25]
    exact ⟨rfl, N0, rfl⟩
set_option maxRecDepth 65536 in
set_option maxHeartbeats 40000000 in
theorem pk_3 (l : Launch) (Z : State) (a0 : Array Value) (hw : ∀ d ∈ tables_1, d.before a0 Z = true) (ws : List Jvm.Cond) (a_SUCCESS a_FAIL a_RETRY a_CANCELLED a_PARTIAL_SUCCESS a_SKIPPED : Addr) (G : Own Z a_SUCCESS a_FAIL a_RETRY a_CANCELLED a_PARTIAL_SUCCESS a_SKIPPED)  (h0 : Heap) (n0 : Nat) (O0 : Old Z n0 h0)  :
    MetFree l y_0 (head1 (Jvm.Cond.code y_0 method_2_code 1 (some (.object "com/example/theseus/theseus/engine/Outcome")) :: ws) ({ frames := 0, cells := 0, slots := 0, locals := 0 } : Room)) (fun a U => a = #[(.int 3)] ∧ Z.Warmed39 U.vm ∧ U.heap = h0) (fun _ _ _ _ _ => True) (fun _ U o U' => ∃ v L, o = .returned v ∧ QV (some (.ref a_FAIL)) h0 n0 v U'.heap L ∧ FrameEnd U o U' L ({ frames := 0, cells := 0, slots := 0, locals := 0 } : Room).cells ({ frames := 0, cells := 0, slots := 0, locals := 0 } : Room).slots) := by
  refine MetFree.of_bodySF (plainFor_of_name pn_0) hisR ?_
  intro p e s m args below meth c s₁ Bd hml0 hP hK
  obtain ⟨rfl, hZ, hh⟩ := hP
  have hx := Bd.exec
  have hby := Bd.bytes
  have hml : c.maxLocals = 1 := hml0
  have hown : s.vm.findClass "com/example/theseus/theseus/engine/OutcomeEndsARunPinLaw" = some m.cls := findClass_of_methodNamed Bd.named
  have hnm := (name_of_methodNamed Bd.named Bd.method).1
  have X0 : Stand p l e ({ frames := 0, cells := 0, slots := 0, locals := 0 } : Room) s m #[(.int 3)] below meth c s₁ [] 0 0 := Stand.of_body Bd
  have e0 : s₁.heap = h0 := by rw [← hh, Bd.state]; rfl
  have N0 := Fr.nil n0
  have K0 := Keep.refl h0 []
  have k0 : Go p.tables e below (s₁.setTop (entryFrame m #[(.int 3)] 1)) (s₁.setTop (mkF m 0 #[iv 3] [])) := fun t k => castTop (by first | rfl | (simp [entryFrame, mkF, argsToLocals, Value.category]; done)) k
  have ⟨S_SUCCESS, E_SUCCESS, S_FAIL, E_FAIL, S_RETRY, E_RETRY, S_CANCELLED, E_CANCELLED, S_PARTIAL_SUCCESS, E_PARTIAL_SUCCESS, S_SKIPPED, E_SKIPPED, R_FAIL_ordinal, R_SUCCESS_ordinal, R_RETRY_ordinal, R_CANCELLED_ordinal, R_PARTIAL_SUCCESS_ordinal, R_SKIPPED_ordinal⟩ := G
  have k_27 : Go p.tables e below (s₁.setTop (entryFrame m #[(.int 3)] 1)) (s₁.setTop (mkF m 31 #[iv 3] [])) := fun t q => by
    refine k0 t ?_
    refine XS.iloadN X0.here hx rfl (hb hby d1_0) rfl ?_
    show Steps _ _ _ (s₁.setTop (mkF m 1 #[iv 3] [(.int 3)])) _
    refine XS.ifYes X0.here hx rfl (pc0 := 1) (pc' := 8) rfl (hb hby d1_1) rfl (by decide) (by decide) (by decide) ?_
    show Steps _ _ _ (s₁.setTop (mkF m 8 #[iv 3] [])) _
    refine XS.iloadN X0.here hx rfl (hb hby d1_8) rfl ?_
    show Steps _ _ _ (s₁.setTop (mkF m 9 #[iv 3] [(.int 3)])) _
    refine XS.iconst X0.here hx rfl (hb hby d1_9) ?_
    show Steps _ _ _ (s₁.setTop (mkF m 10 #[iv 3] [(.int 1), (.int 3)])) _
    refine XS.icmpYes X0.here hx rfl (pc0 := 10) (pc' := 17) rfl (hb hby d1_10) rfl (by decide) (by decide) (by decide) ?_
    show Steps _ _ _ (s₁.setTop (mkF m 17 #[iv 3] [])) _
    refine XS.iloadN X0.here hx rfl (hb hby d1_17) rfl ?_
    show Steps _ _ _ (s₁.setTop (mkF m 18 #[iv 3] [(.int 3)])) _
    refine XS.iconst X0.here hx rfl (hb hby d1_18) ?_
    show Steps _ _ _ (s₁.setTop (mkF m 19 #[iv 3] [(.int 2), (.int 3)])) _
    refine XS.icmpYes X0.here hx rfl (pc0 := 19) (pc' := 26) rfl (hb hby d1_19) rfl (by decide) (by decide) (by decide) ?_
    show Steps _ _ _ (s₁.setTop (mkF m 26 #[iv 3] [])) _
    refine XS.iloadN X0.here hx rfl (hb hby d1_26) rfl ?_
    show Steps _ _ _ (s₁.setTop (mkF m 27 #[iv 3] [(.int 3)])) _
    refine XS.iconst X0.here hx rfl (hb hby d1_27) ?_
    show Steps _ _ _ (s₁.setTop (mkF m 28 #[iv 3] [(.int 3), (.int 3)])) _
    refine XS.icmpNo X0.here hx rfl (hb hby d1_28) rfl (by decide) ?_
    show Steps _ _ _ (s₁.setTop (mkF m 31 #[iv 3] [])) _
    exact q
  obtain ⟨T28, X28, e28, st28⟩ := getS2 X0 hx hZ hown (host := "") (Or.inl (hw _ (wd 15 rfl))) Via.refl e0 (S_FAIL.ext O0.2) (g := (mkF m 31 #[iv 3] [])) rfl (hb hby d1_31)
  have k_29 : Go p.tables e below (s₁.setTop (entryFrame m #[(.int 3)] 1)) (T28.setTop (mkF m 34 #[iv 3] [(.ref a_FAIL)])) := fun t q => by
    refine k_27 t ?_
    refine st28 _ ?_
    show Steps _ _ _ (T28.setTop (mkF m 34 #[iv 3] [(.ref a_FAIL)])) _
    exact q
  obtain ⟨fs, hr, hrun, hended, hW, hsame⟩ := X28.leave (v := some (.ref a_FAIL)) (fun h => by rw [Bd.returns] at h; cases h)
  refine ⟨_, _, k_29 _ ?_, hrun, hended, _, _, rfl, ?_, ⟨_, rfl⟩, hW, hsame.mono (by decide) (by decide)⟩
  · exact retOut X28 hx Bd.returns rfl (Or.inr (Or.inr (Or.inr (Or.inr ⟨rfl, rfl, rfl⟩)))) (hb hby d1_34) hr
  · show QV (some (.ref a_FAIL)) h0 n0 _ T28.heap _
    rw [e28]
    exact ⟨rfl, N0, rfl⟩
set_option maxRecDepth 65536 in
set_option maxHeartbeats 40000000 in
theorem er_3 (l : Launch) (Z : State) (a0 : Array Value) (hw : ∀ d ∈ tables_1, d.before a0 Z = true) (ws : List Jvm.Cond) (a_SUCCESS a_FAIL a_RETRY a_CANCELLED a_PARTIAL_SUCCESS a_SKIPPED : Addr) (G : Own Z a_SUCCESS a_FAIL a_RETRY a_CANCELLED a_PARTIAL_SUCCESS a_SKIPPED)  (h0 : Heap) (n0 : Nat) (O0 : Old Z n0 h0)  :
    MetFree l y_1 (head1 (Jvm.Cond.code y_1 prog_41_method_6_code 1 (some .boolean) :: ws) ({ frames := 0, cells := 0, slots := 0, locals := 0 } : Room)) (fun a U => a = #[(.ref a_FAIL)] ∧ Z.Warmed39 U.vm ∧ U.heap = h0) (fun _ _ _ _ _ => True) (fun _ U o U' => ∃ v L, o = .returned v ∧ QV (some (.int 1)) h0 n0 v U'.heap L ∧ FrameEnd U o U' L ({ frames := 0, cells := 0, slots := 0, locals := 0 } : Room).cells ({ frames := 0, cells := 0, slots := 0, locals := 0 } : Room).slots) := by
  refine MetFree.of_bodySF (plainFor_of_name pn_1) hisR ?_
  intro p e s m args below meth c s₁ Bd hml0 hP hK
  obtain ⟨rfl, hZ, hh⟩ := hP
  have hx := Bd.exec
  have hby := Bd.bytes
  have hml : c.maxLocals = 1 := hml0
  have hown : s.vm.findClass "com/example/theseus/theseus/engine/Outcome" = some m.cls := findClass_of_methodNamed Bd.named
  have hnm := (name_of_methodNamed Bd.named Bd.method).1
  have X0 : Stand p l e ({ frames := 0, cells := 0, slots := 0, locals := 0 } : Room) s m #[(.ref a_FAIL)] below meth c s₁ [] 0 0 := Stand.of_body Bd
  have e0 : s₁.heap = h0 := by rw [← hh, Bd.state]; rfl
  have N0 := Fr.nil n0
  have K0 := Keep.refl h0 []
  have k0 : Go p.tables e below (s₁.setTop (entryFrame m #[(.ref a_FAIL)] 1)) (s₁.setTop (mkF m 0 #[rv a_FAIL] [])) := fun t k => castTop (by first | rfl | (simp [entryFrame, mkF, argsToLocals, Value.category]; done)) k
  have ⟨S_SUCCESS, E_SUCCESS, S_FAIL, E_FAIL, S_RETRY, E_RETRY, S_CANCELLED, E_CANCELLED, S_PARTIAL_SUCCESS, E_PARTIAL_SUCCESS, S_SKIPPED, E_SKIPPED, R_FAIL_ordinal, R_SUCCESS_ordinal, R_RETRY_ordinal, R_CANCELLED_ordinal, R_PARTIAL_SUCCESS_ordinal, R_SKIPPED_ordinal⟩ := G
  have k_30 : Go p.tables e below (s₁.setTop (entryFrame m #[(.ref a_FAIL)] 1)) (s₁.setTop (mkF m 1 #[rv a_FAIL] [(.ref a_FAIL)])) := fun t q => by
    refine k0 t ?_
    refine XS.aloadN X0.here hx rfl (hb hby d2_0) rfl rfl ?_
    show Steps _ _ _ (s₁.setTop (mkF m 1 #[rv a_FAIL] [(.ref a_FAIL)])) _
    exact q
  obtain ⟨T31, X31, e31, st31⟩ := getS2 X0 hx hZ hown (host := "") (Or.inl (hw _ (wd 14 rfl))) Via.refl e0 (S_SUCCESS.ext O0.2) (g := (mkF m 1 #[rv a_FAIL] [(.ref a_FAIL)])) rfl (hb hby d2_1)
  have k_32 : Go p.tables e below (s₁.setTop (entryFrame m #[(.ref a_FAIL)] 1)) (T31.setTop (mkF m 8 #[rv a_FAIL] [(.ref a_FAIL)])) := fun t q => by
    refine k_30 t ?_
    refine st31 _ ?_
    show Steps _ _ _ (T31.setTop (mkF m 4 #[rv a_FAIL] [(.ref a_SUCCESS), (.ref a_FAIL)])) _
    refine Jvm.RoadKit.acmp (g := (mkF m 4 #[rv a_FAIL] [(.ref a_SUCCESS), (.ref a_FAIL)])) X31 hx rfl rfl rfl (pc0 := 4) (pc' := 7) (same := false) rfl (hb hby d2_4) rfl (decide_eq_false fun q => (own_ne R_FAIL_ordinal R_SUCCESS_ordinal (by decide)) (Value.ref.inj q)) (by decide) (by decide) ?_
    show Steps _ _ _ (T31.setTop (mkF m 7 #[rv a_FAIL] [])) _
    refine XS.aloadN X31.here hx rfl (hb hby d2_7) rfl rfl ?_
    show Steps _ _ _ (T31.setTop (mkF m 8 #[rv a_FAIL] [(.ref a_FAIL)])) _
    exact q
  obtain ⟨T33, X33, e33, st33⟩ := getS2 X31 hx hZ hown (host := "") (Or.inl (hw _ (wd 17 rfl))) Via.refl e31 (S_FAIL.ext O0.2) (g := (mkF m 8 #[rv a_FAIL] [(.ref a_FAIL)])) rfl (hb hby d2_8)
  have k_34 : Go p.tables e below (s₁.setTop (entryFrame m #[(.ref a_FAIL)] 1)) (T33.setTop (mkF m 26 #[rv a_FAIL] [(.int 1)])) := fun t q => by
    refine k_32 t ?_
    refine st33 _ ?_
    show Steps _ _ _ (T33.setTop (mkF m 11 #[rv a_FAIL] [(.ref a_FAIL), (.ref a_FAIL)])) _
    refine Jvm.RoadKit.acmp (g := (mkF m 11 #[rv a_FAIL] [(.ref a_FAIL), (.ref a_FAIL)])) X33 hx rfl rfl rfl (pc0 := 11) (pc' := 21) (same := true) rfl (hb hby d2_11) rfl (decide_eq_true rfl) (by decide) (by decide) ?_
    show Steps _ _ _ (T33.setTop (mkF m 21 #[rv a_FAIL] [])) _
    refine XS.iconst X33.here hx rfl (hb hby d2_21) ?_
    show Steps _ _ _ (T33.setTop (mkF m 22 #[rv a_FAIL] [(.int 1)])) _
    refine XS.goto X33.here hx rfl (pc0 := 22) (pc' := 26) rfl (hb hby d2_22) (by decide) (by decide) ?_
    show Steps _ _ _ (T33.setTop (mkF m 26 #[rv a_FAIL] [(.int 1)])) _
    exact q
  obtain ⟨fs, hr, hrun, hended, hW, hsame⟩ := X33.leave (v := some (.int 1)) (fun h => by rw [Bd.returns] at h; cases h)
  refine ⟨_, _, k_34 _ ?_, hrun, hended, _, _, rfl, ?_, ⟨_, rfl⟩, hW, hsame.mono (by decide) (by decide)⟩
  · exact retN X33 hx (t := .boolean) Bd.returns (by simp) (hb hby d2_26) hr
  · show QV (some (.int 1)) h0 n0 _ T33.heap _
    rw [e33]
    exact ⟨rfl, N0, rfl⟩
set_option maxRecDepth 65536 in
set_option maxHeartbeats 40000000 in
theorem pk_4 (l : Launch) (Z : State) (a0 : Array Value) (hw : ∀ d ∈ tables_1, d.before a0 Z = true) (ws : List Jvm.Cond) (a_SUCCESS a_FAIL a_RETRY a_CANCELLED a_PARTIAL_SUCCESS a_SKIPPED : Addr) (G : Own Z a_SUCCESS a_FAIL a_RETRY a_CANCELLED a_PARTIAL_SUCCESS a_SKIPPED)  (h0 : Heap) (n0 : Nat) (O0 : Old Z n0 h0)  :
    MetFree l y_0 (head1 (Jvm.Cond.code y_0 method_2_code 1 (some (.object "com/example/theseus/theseus/engine/Outcome")) :: ws) ({ frames := 0, cells := 0, slots := 0, locals := 0 } : Room)) (fun a U => a = #[(.int 4)] ∧ Z.Warmed39 U.vm ∧ U.heap = h0) (fun _ _ _ _ _ => True) (fun _ U o U' => ∃ v L, o = .returned v ∧ QV (some (.ref a_SKIPPED)) h0 n0 v U'.heap L ∧ FrameEnd U o U' L ({ frames := 0, cells := 0, slots := 0, locals := 0 } : Room).cells ({ frames := 0, cells := 0, slots := 0, locals := 0 } : Room).slots) := by
  refine MetFree.of_bodySF (plainFor_of_name pn_0) hisR ?_
  intro p e s m args below meth c s₁ Bd hml0 hP hK
  obtain ⟨rfl, hZ, hh⟩ := hP
  have hx := Bd.exec
  have hby := Bd.bytes
  have hml : c.maxLocals = 1 := hml0
  have hown : s.vm.findClass "com/example/theseus/theseus/engine/OutcomeEndsARunPinLaw" = some m.cls := findClass_of_methodNamed Bd.named
  have hnm := (name_of_methodNamed Bd.named Bd.method).1
  have X0 : Stand p l e ({ frames := 0, cells := 0, slots := 0, locals := 0 } : Room) s m #[(.int 4)] below meth c s₁ [] 0 0 := Stand.of_body Bd
  have e0 : s₁.heap = h0 := by rw [← hh, Bd.state]; rfl
  have N0 := Fr.nil n0
  have K0 := Keep.refl h0 []
  have k0 : Go p.tables e below (s₁.setTop (entryFrame m #[(.int 4)] 1)) (s₁.setTop (mkF m 0 #[iv 4] [])) := fun t k => castTop (by first | rfl | (simp [entryFrame, mkF, argsToLocals, Value.category]; done)) k
  have ⟨S_SUCCESS, E_SUCCESS, S_FAIL, E_FAIL, S_RETRY, E_RETRY, S_CANCELLED, E_CANCELLED, S_PARTIAL_SUCCESS, E_PARTIAL_SUCCESS, S_SKIPPED, E_SKIPPED, R_FAIL_ordinal, R_SUCCESS_ordinal, R_RETRY_ordinal, R_CANCELLED_ordinal, R_PARTIAL_SUCCESS_ordinal, R_SKIPPED_ordinal⟩ := G
  have k_35 : Go p.tables e below (s₁.setTop (entryFrame m #[(.int 4)] 1)) (s₁.setTop (mkF m 40 #[iv 4] [])) := fun t q => by
    refine k0 t ?_
    refine XS.iloadN X0.here hx rfl (hb hby d1_0) rfl ?_
    show Steps _ _ _ (s₁.setTop (mkF m 1 #[iv 4] [(.int 4)])) _
    refine XS.ifYes X0.here hx rfl (pc0 := 1) (pc' := 8) rfl (hb hby d1_1) rfl (by decide) (by decide) (by decide) ?_
    show Steps _ _ _ (s₁.setTop (mkF m 8 #[iv 4] [])) _
    refine XS.iloadN X0.here hx rfl (hb hby d1_8) rfl ?_
    show Steps _ _ _ (s₁.setTop (mkF m 9 #[iv 4] [(.int 4)])) _
    refine XS.iconst X0.here hx rfl (hb hby d1_9) ?_
    show Steps _ _ _ (s₁.setTop (mkF m 10 #[iv 4] [(.int 1), (.int 4)])) _
    refine XS.icmpYes X0.here hx rfl (pc0 := 10) (pc' := 17) rfl (hb hby d1_10) rfl (by decide) (by decide) (by decide) ?_
    show Steps _ _ _ (s₁.setTop (mkF m 17 #[iv 4] [])) _
    refine XS.iloadN X0.here hx rfl (hb hby d1_17) rfl ?_
    show Steps _ _ _ (s₁.setTop (mkF m 18 #[iv 4] [(.int 4)])) _
    refine XS.iconst X0.here hx rfl (hb hby d1_18) ?_
    show Steps _ _ _ (s₁.setTop (mkF m 19 #[iv 4] [(.int 2), (.int 4)])) _
    refine XS.icmpYes X0.here hx rfl (pc0 := 19) (pc' := 26) rfl (hb hby d1_19) rfl (by decide) (by decide) (by decide) ?_
    show Steps _ _ _ (s₁.setTop (mkF m 26 #[iv 4] [])) _
    refine XS.iloadN X0.here hx rfl (hb hby d1_26) rfl ?_
    show Steps _ _ _ (s₁.setTop (mkF m 27 #[iv 4] [(.int 4)])) _
    refine XS.iconst X0.here hx rfl (hb hby d1_27) ?_
    show Steps _ _ _ (s₁.setTop (mkF m 28 #[iv 4] [(.int 3), (.int 4)])) _
    refine XS.icmpYes X0.here hx rfl (pc0 := 28) (pc' := 35) rfl (hb hby d1_28) rfl (by decide) (by decide) (by decide) ?_
    show Steps _ _ _ (s₁.setTop (mkF m 35 #[iv 4] [])) _
    refine XS.iloadN X0.here hx rfl (hb hby d1_35) rfl ?_
    show Steps _ _ _ (s₁.setTop (mkF m 36 #[iv 4] [(.int 4)])) _
    refine XS.iconst X0.here hx rfl (hb hby d1_36) ?_
    show Steps _ _ _ (s₁.setTop (mkF m 37 #[iv 4] [(.int 4), (.int 4)])) _
    refine XS.icmpNo X0.here hx rfl (hb hby d1_37) rfl (by decide) ?_
    show Steps _ _ _ (s₁.setTop (mkF m 40 #[iv 4] [])) _
    exact q
  obtain ⟨T36, X36, e36, st36⟩ := getS2 X0 hx hZ hown (host := "") (Or.inl (hw _ (wd 25 rfl))) Via.refl e0 (S_SKIPPED.ext O0.2) (g := (mkF m 40 #[iv 4] [])) rfl (hb hby d1_40)
  have k_37 : Go p.tables e below (s₁.setTop (entryFrame m #[(.int 4)] 1)) (T36.setTop (mkF m 43 #[iv 4] [(.ref a_SKIPPED)])) := fun t q => by
    refine k_35 t ?_
    refine st36 _ ?_
    show Steps _ _ _ (T36.setTop (mkF m 43 #[iv 4] [(.ref a_SKIPPED)])) _
    exact q
  obtain ⟨fs, hr, hrun, hended, hW, hsame⟩ := X36.leave (v := some (.ref a_SKIPPED)) (fun h => by rw [Bd.returns] at h; cases h)
  refine ⟨_, _, k_37 _ ?_, hrun, hended, _, _, rfl, ?_, ⟨_, rfl⟩, hW, hsame.mono (by decide) (by decide)⟩
  · exact retOut X36 hx Bd.returns rfl (Or.inr (Or.inr (Or.inr (Or.inr ⟨rfl, rfl, rfl⟩)))) (hb hby d1_43) hr
  · show QV (some (.ref a_SKIPPED)) h0 n0 _ T36.heap _
    rw [e36]
    exact ⟨rfl, N0, rfl⟩
set_option maxRecDepth 65536 in
set_option maxHeartbeats 40000000 in
theorem er_4 (l : Launch) (Z : State) (a0 : Array Value) (hw : ∀ d ∈ tables_1, d.before a0 Z = true) (ws : List Jvm.Cond) (a_SUCCESS a_FAIL a_RETRY a_CANCELLED a_PARTIAL_SUCCESS a_SKIPPED : Addr) (G : Own Z a_SUCCESS a_FAIL a_RETRY a_CANCELLED a_PARTIAL_SUCCESS a_SKIPPED)  (h0 : Heap) (n0 : Nat) (O0 : Old Z n0 h0)  :
    MetFree l y_1 (head1 (Jvm.Cond.code y_1 prog_41_method_6_code 1 (some .boolean) :: ws) ({ frames := 0, cells := 0, slots := 0, locals := 0 } : Room)) (fun a U => a = #[(.ref a_SKIPPED)] ∧ Z.Warmed39 U.vm ∧ U.heap = h0) (fun _ _ _ _ _ => True) (fun _ U o U' => ∃ v L, o = .returned v ∧ QV (some (.int 0)) h0 n0 v U'.heap L ∧ FrameEnd U o U' L ({ frames := 0, cells := 0, slots := 0, locals := 0 } : Room).cells ({ frames := 0, cells := 0, slots := 0, locals := 0 } : Room).slots) := by
  refine MetFree.of_bodySF (plainFor_of_name pn_1) hisR ?_
  intro p e s m args below meth c s₁ Bd hml0 hP hK
  obtain ⟨rfl, hZ, hh⟩ := hP
  have hx := Bd.exec
  have hby := Bd.bytes
  have hml : c.maxLocals = 1 := hml0
  have hown : s.vm.findClass "com/example/theseus/theseus/engine/Outcome" = some m.cls := findClass_of_methodNamed Bd.named
  have hnm := (name_of_methodNamed Bd.named Bd.method).1
  have X0 : Stand p l e ({ frames := 0, cells := 0, slots := 0, locals := 0 } : Room) s m #[(.ref a_SKIPPED)] below meth c s₁ [] 0 0 := Stand.of_body Bd
  have e0 : s₁.heap = h0 := by rw [← hh, Bd.state]; rfl
  have N0 := Fr.nil n0
  have K0 := Keep.refl h0 []
  have k0 : Go p.tables e below (s₁.setTop (entryFrame m #[(.ref a_SKIPPED)] 1)) (s₁.setTop (mkF m 0 #[rv a_SKIPPED] [])) := fun t k => castTop (by first | rfl | (simp [entryFrame, mkF, argsToLocals, Value.category]; done)) k
  have ⟨S_SUCCESS, E_SUCCESS, S_FAIL, E_FAIL, S_RETRY, E_RETRY, S_CANCELLED, E_CANCELLED, S_PARTIAL_SUCCESS, E_PARTIAL_SUCCESS, S_SKIPPED, E_SKIPPED, R_FAIL_ordinal, R_SUCCESS_ordinal, R_RETRY_ordinal, R_CANCELLED_ordinal, R_PARTIAL_SUCCESS_ordinal, R_SKIPPED_ordinal⟩ := G
  have k_38 : Go p.tables e below (s₁.setTop (entryFrame m #[(.ref a_SKIPPED)] 1)) (s₁.setTop (mkF m 1 #[rv a_SKIPPED] [(.ref a_SKIPPED)])) := fun t q => by
    refine k0 t ?_
    refine XS.aloadN X0.here hx rfl (hb hby d2_0) rfl rfl ?_
    show Steps _ _ _ (s₁.setTop (mkF m 1 #[rv a_SKIPPED] [(.ref a_SKIPPED)])) _
    exact q
  obtain ⟨T39, X39, e39, st39⟩ := getS2 X0 hx hZ hown (host := "") (Or.inl (hw _ (wd 14 rfl))) Via.refl e0 (S_SUCCESS.ext O0.2) (g := (mkF m 1 #[rv a_SKIPPED] [(.ref a_SKIPPED)])) rfl (hb hby d2_1)
  have k_40 : Go p.tables e below (s₁.setTop (entryFrame m #[(.ref a_SKIPPED)] 1)) (T39.setTop (mkF m 8 #[rv a_SKIPPED] [(.ref a_SKIPPED)])) := fun t q => by
    refine k_38 t ?_
    refine st39 _ ?_
    show Steps _ _ _ (T39.setTop (mkF m 4 #[rv a_SKIPPED] [(.ref a_SUCCESS), (.ref a_SKIPPED)])) _
    refine Jvm.RoadKit.acmp (g := (mkF m 4 #[rv a_SKIPPED] [(.ref a_SUCCESS), (.ref a_SKIPPED)])) X39 hx rfl rfl rfl (pc0 := 4) (pc' := 7) (same := false) rfl (hb hby d2_4) rfl (decide_eq_false fun q => (own_ne R_SKIPPED_ordinal R_SUCCESS_ordinal (by decide)) (Value.ref.inj q)) (by decide) (by decide) ?_
    show Steps _ _ _ (T39.setTop (mkF m 7 #[rv a_SKIPPED] [])) _
    refine XS.aloadN X39.here hx rfl (hb hby d2_7) rfl rfl ?_
    show Steps _ _ _ (T39.setTop (mkF m 8 #[rv a_SKIPPED] [(.ref a_SKIPPED)])) _
    exact q
  obtain ⟨T41, X41, e41, st41⟩ := getS2 X39 hx hZ hown (host := "") (Or.inl (hw _ (wd 17 rfl))) Via.refl e39 (S_FAIL.ext O0.2) (g := (mkF m 8 #[rv a_SKIPPED] [(.ref a_SKIPPED)])) rfl (hb hby d2_8)
  have k_42 : Go p.tables e below (s₁.setTop (entryFrame m #[(.ref a_SKIPPED)] 1)) (T41.setTop (mkF m 15 #[rv a_SKIPPED] [(.ref a_SKIPPED)])) := fun t q => by
    refine k_40 t ?_
    refine st41 _ ?_
    show Steps _ _ _ (T41.setTop (mkF m 11 #[rv a_SKIPPED] [(.ref a_FAIL), (.ref a_SKIPPED)])) _
    refine Jvm.RoadKit.acmp (g := (mkF m 11 #[rv a_SKIPPED] [(.ref a_FAIL), (.ref a_SKIPPED)])) X41 hx rfl rfl rfl (pc0 := 11) (pc' := 14) (same := false) rfl (hb hby d2_11) rfl (decide_eq_false fun q => (own_ne R_SKIPPED_ordinal R_FAIL_ordinal (by decide)) (Value.ref.inj q)) (by decide) (by decide) ?_
    show Steps _ _ _ (T41.setTop (mkF m 14 #[rv a_SKIPPED] [])) _
    refine XS.aloadN X41.here hx rfl (hb hby d2_14) rfl rfl ?_
    show Steps _ _ _ (T41.setTop (mkF m 15 #[rv a_SKIPPED] [(.ref a_SKIPPED)])) _
    exact q
  obtain ⟨T43, X43, e43, st43⟩ := getS2 X41 hx hZ hown (host := "") (Or.inl (hw _ (wd 20 rfl))) Via.refl e41 (S_CANCELLED.ext O0.2) (g := (mkF m 15 #[rv a_SKIPPED] [(.ref a_SKIPPED)])) rfl (hb hby d2_15)
  have k_44 : Go p.tables e below (s₁.setTop (entryFrame m #[(.ref a_SKIPPED)] 1)) (T43.setTop (mkF m 26 #[rv a_SKIPPED] [(.int 0)])) := fun t q => by
    refine k_42 t ?_
    refine st43 _ ?_
    show Steps _ _ _ (T43.setTop (mkF m 18 #[rv a_SKIPPED] [(.ref a_CANCELLED), (.ref a_SKIPPED)])) _
    refine Jvm.RoadKit.acmp (g := (mkF m 18 #[rv a_SKIPPED] [(.ref a_CANCELLED), (.ref a_SKIPPED)])) X43 hx rfl rfl rfl (pc0 := 18) (pc' := 25) (same := false) rfl (hb hby d2_18) rfl (decide_eq_false fun q => (own_ne R_SKIPPED_ordinal R_CANCELLED_ordinal (by decide)) (Value.ref.inj q)) (by decide) (by decide) ?_
    show Steps _ _ _ (T43.setTop (mkF m 25 #[rv a_SKIPPED] [])) _
    refine XS.iconst X43.here hx rfl (hb hby d2_25) ?_
    show Steps _ _ _ (T43.setTop (mkF m 26 #[rv a_SKIPPED] [(.int 0)])) _
    exact q
  obtain ⟨fs, hr, hrun, hended, hW, hsame⟩ := X43.leave (v := some (.int 0)) (fun h => by rw [Bd.returns] at h; cases h)
  refine ⟨_, _, k_44 _ ?_, hrun, hended, _, _, rfl, ?_, ⟨_, rfl⟩, hW, hsame.mono (by decide) (by decide)⟩
  · exact retN X43 hx (t := .boolean) Bd.returns (by simp) (hb hby d2_26) hr
  · show QV (some (.int 0)) h0 n0 _ T43.heap _
    rw [e43]
    exact ⟨rfl, N0, rfl⟩
set_option maxRecDepth 65536 in
set_option maxHeartbeats 40000000 in
theorem pk_5 (l : Launch) (Z : State) (a0 : Array Value) (hw : ∀ d ∈ tables_1, d.before a0 Z = true) (ws : List Jvm.Cond) (a_SUCCESS a_FAIL a_RETRY a_CANCELLED a_PARTIAL_SUCCESS a_SKIPPED : Addr) (G : Own Z a_SUCCESS a_FAIL a_RETRY a_CANCELLED a_PARTIAL_SUCCESS a_SKIPPED)  (h0 : Heap) (n0 : Nat) (O0 : Old Z n0 h0)  :
    MetFree l y_0 (head1 (Jvm.Cond.code y_0 method_2_code 1 (some (.object "com/example/theseus/theseus/engine/Outcome")) :: ws) ({ frames := 0, cells := 0, slots := 0, locals := 0 } : Room)) (fun a U => a = #[(.int 5)] ∧ Z.Warmed39 U.vm ∧ U.heap = h0) (fun _ _ _ _ _ => True) (fun _ U o U' => ∃ v L, o = .returned v ∧ QV (some (.ref a_CANCELLED)) h0 n0 v U'.heap L ∧ FrameEnd U o U' L ({ frames := 0, cells := 0, slots := 0, locals := 0 } : Room).cells ({ frames := 0, cells := 0, slots := 0, locals := 0 } : Room).slots) := by
  refine MetFree.of_bodySF (plainFor_of_name pn_0) hisR ?_
  intro p e s m args below meth c s₁ Bd hml0 hP hK
  obtain ⟨rfl, hZ, hh⟩ := hP
  have hx := Bd.exec
  have hby := Bd.bytes
  have hml : c.maxLocals = 1 := hml0
  have hown : s.vm.findClass "com/example/theseus/theseus/engine/OutcomeEndsARunPinLaw" = some m.cls := findClass_of_methodNamed Bd.named
  have hnm := (name_of_methodNamed Bd.named Bd.method).1
  have X0 : Stand p l e ({ frames := 0, cells := 0, slots := 0, locals := 0 } : Room) s m #[(.int 5)] below meth c s₁ [] 0 0 := Stand.of_body Bd
  have e0 : s₁.heap = h0 := by rw [← hh, Bd.state]; rfl
  have N0 := Fr.nil n0
  have K0 := Keep.refl h0 []
  have k0 : Go p.tables e below (s₁.setTop (entryFrame m #[(.int 5)] 1)) (s₁.setTop (mkF m 0 #[iv 5] [])) := fun t k => castTop (by first | rfl | (simp [entryFrame, mkF, argsToLocals, Value.category]; done)) k
  have ⟨S_SUCCESS, E_SUCCESS, S_FAIL, E_FAIL, S_RETRY, E_RETRY, S_CANCELLED, E_CANCELLED, S_PARTIAL_SUCCESS, E_PARTIAL_SUCCESS, S_SKIPPED, E_SKIPPED, R_FAIL_ordinal, R_SUCCESS_ordinal, R_RETRY_ordinal, R_CANCELLED_ordinal, R_PARTIAL_SUCCESS_ordinal, R_SKIPPED_ordinal⟩ := G
  have k_45 : Go p.tables e below (s₁.setTop (entryFrame m #[(.int 5)] 1)) (s₁.setTop (mkF m 44 #[iv 5] [])) := fun t q => by
    refine k0 t ?_
    refine XS.iloadN X0.here hx rfl (hb hby d1_0) rfl ?_
    show Steps _ _ _ (s₁.setTop (mkF m 1 #[iv 5] [(.int 5)])) _
    refine XS.ifYes X0.here hx rfl (pc0 := 1) (pc' := 8) rfl (hb hby d1_1) rfl (by decide) (by decide) (by decide) ?_
    show Steps _ _ _ (s₁.setTop (mkF m 8 #[iv 5] [])) _
    refine XS.iloadN X0.here hx rfl (hb hby d1_8) rfl ?_
    show Steps _ _ _ (s₁.setTop (mkF m 9 #[iv 5] [(.int 5)])) _
    refine XS.iconst X0.here hx rfl (hb hby d1_9) ?_
    show Steps _ _ _ (s₁.setTop (mkF m 10 #[iv 5] [(.int 1), (.int 5)])) _
    refine XS.icmpYes X0.here hx rfl (pc0 := 10) (pc' := 17) rfl (hb hby d1_10) rfl (by decide) (by decide) (by decide) ?_
    show Steps _ _ _ (s₁.setTop (mkF m 17 #[iv 5] [])) _
    refine XS.iloadN X0.here hx rfl (hb hby d1_17) rfl ?_
    show Steps _ _ _ (s₁.setTop (mkF m 18 #[iv 5] [(.int 5)])) _
    refine XS.iconst X0.here hx rfl (hb hby d1_18) ?_
    show Steps _ _ _ (s₁.setTop (mkF m 19 #[iv 5] [(.int 2), (.int 5)])) _
    refine XS.icmpYes X0.here hx rfl (pc0 := 19) (pc' := 26) rfl (hb hby d1_19) rfl (by decide) (by decide) (by decide) ?_
    show Steps _ _ _ (s₁.setTop (mkF m 26 #[iv 5] [])) _
    refine XS.iloadN X0.here hx rfl (hb hby d1_26) rfl ?_
    show Steps _ _ _ (s₁.setTop (mkF m 27 #[iv 5] [(.int 5)])) _
    refine XS.iconst X0.here hx rfl (hb hby d1_27) ?_
    show Steps _ _ _ (s₁.setTop (mkF m 28 #[iv 5] [(.int 3), (.int 5)])) _
    refine XS.icmpYes X0.here hx rfl (pc0 := 28) (pc' := 35) rfl (hb hby d1_28) rfl (by decide) (by decide) (by decide) ?_
    show Steps _ _ _ (s₁.setTop (mkF m 35 #[iv 5] [])) _
    refine XS.iloadN X0.here hx rfl (hb hby d1_35) rfl ?_
    show Steps _ _ _ (s₁.setTop (mkF m 36 #[iv 5] [(.int 5)])) _
    refine XS.iconst X0.here hx rfl (hb hby d1_36) ?_
    show Steps _ _ _ (s₁.setTop (mkF m 37 #[iv 5] [(.int 4), (.int 5)])) _
    refine XS.icmpYes X0.here hx rfl (pc0 := 37) (pc' := 44) rfl (hb hby d1_37) rfl (by decide) (by decide) (by decide) ?_
    show Steps _ _ _ (s₁.setTop (mkF m 44 #[iv 5] [])) _
    exact q
  obtain ⟨T46, X46, e46, st46⟩ := getS2 X0 hx hZ hown (host := "") (Or.inl (hw _ (wd 24 rfl))) Via.refl e0 (S_CANCELLED.ext O0.2) (g := (mkF m 44 #[iv 5] [])) rfl (hb hby d1_44)
  have k_47 : Go p.tables e below (s₁.setTop (entryFrame m #[(.int 5)] 1)) (T46.setTop (mkF m 47 #[iv 5] [(.ref a_CANCELLED)])) := fun t q => by
    refine k_45 t ?_
    refine st46 _ ?_
    show Steps _ _ _ (T46.setTop (mkF m 47 #[iv 5] [(.ref a_CANCELLED)])) _
    exact q
  obtain ⟨fs, hr, hrun, hended, hW, hsame⟩ := X46.leave (v := some (.ref a_CANCELLED)) (fun h => by rw [Bd.returns] at h; cases h)
  refine ⟨_, _, k_47 _ ?_, hrun, hended, _, _, rfl, ?_, ⟨_, rfl⟩, hW, hsame.mono (by decide) (by decide)⟩
  · exact retOut X46 hx Bd.returns rfl (Or.inr (Or.inr (Or.inr (Or.inr ⟨rfl, rfl, rfl⟩)))) (hb hby d1_47) hr
  · show QV (some (.ref a_CANCELLED)) h0 n0 _ T46.heap _
    rw [e46]
    exact ⟨rfl, N0, rfl⟩
set_option maxRecDepth 65536 in
set_option maxHeartbeats 40000000 in
theorem er_5 (l : Launch) (Z : State) (a0 : Array Value) (hw : ∀ d ∈ tables_1, d.before a0 Z = true) (ws : List Jvm.Cond) (a_SUCCESS a_FAIL a_RETRY a_CANCELLED a_PARTIAL_SUCCESS a_SKIPPED : Addr) (G : Own Z a_SUCCESS a_FAIL a_RETRY a_CANCELLED a_PARTIAL_SUCCESS a_SKIPPED)  (h0 : Heap) (n0 : Nat) (O0 : Old Z n0 h0)  :
    MetFree l y_1 (head1 (Jvm.Cond.code y_1 prog_41_method_6_code 1 (some .boolean) :: ws) ({ frames := 0, cells := 0, slots := 0, locals := 0 } : Room)) (fun a U => a = #[(.ref a_CANCELLED)] ∧ Z.Warmed39 U.vm ∧ U.heap = h0) (fun _ _ _ _ _ => True) (fun _ U o U' => ∃ v L, o = .returned v ∧ QV (some (.int 1)) h0 n0 v U'.heap L ∧ FrameEnd U o U' L ({ frames := 0, cells := 0, slots := 0, locals := 0 } : Room).cells ({ frames := 0, cells := 0, slots := 0, locals := 0 } : Room).slots) := by
  refine MetFree.of_bodySF (plainFor_of_name pn_1) hisR ?_
  intro p e s m args below meth c s₁ Bd hml0 hP hK
  obtain ⟨rfl, hZ, hh⟩ := hP
  have hx := Bd.exec
  have hby := Bd.bytes
  have hml : c.maxLocals = 1 := hml0
  have hown : s.vm.findClass "com/example/theseus/theseus/engine/Outcome" = some m.cls := findClass_of_methodNamed Bd.named
  have hnm := (name_of_methodNamed Bd.named Bd.method).1
  have X0 : Stand p l e ({ frames := 0, cells := 0, slots := 0, locals := 0 } : Room) s m #[(.ref a_CANCELLED)] below meth c s₁ [] 0 0 := Stand.of_body Bd
  have e0 : s₁.heap = h0 := by rw [← hh, Bd.state]; rfl
  have N0 := Fr.nil n0
  have K0 := Keep.refl h0 []
  have k0 : Go p.tables e below (s₁.setTop (entryFrame m #[(.ref a_CANCELLED)] 1)) (s₁.setTop (mkF m 0 #[rv a_CANCELLED] [])) := fun t k => castTop (by first | rfl | (simp [entryFrame, mkF, argsToLocals, Value.category]; done)) k
  have ⟨S_SUCCESS, E_SUCCESS, S_FAIL, E_FAIL, S_RETRY, E_RETRY, S_CANCELLED, E_CANCELLED, S_PARTIAL_SUCCESS, E_PARTIAL_SUCCESS, S_SKIPPED, E_SKIPPED, R_FAIL_ordinal, R_SUCCESS_ordinal, R_RETRY_ordinal, R_CANCELLED_ordinal, R_PARTIAL_SUCCESS_ordinal, R_SKIPPED_ordinal⟩ := G
  have k_48 : Go p.tables e below (s₁.setTop (entryFrame m #[(.ref a_CANCELLED)] 1)) (s₁.setTop (mkF m 1 #[rv a_CANCELLED] [(.ref a_CANCELLED)])) := fun t q => by
    refine k0 t ?_
    refine XS.aloadN X0.here hx rfl (hb hby d2_0) rfl rfl ?_
    show Steps _ _ _ (s₁.setTop (mkF m 1 #[rv a_CANCELLED] [(.ref a_CANCELLED)])) _
    exact q
  obtain ⟨T49, X49, e49, st49⟩ := getS2 X0 hx hZ hown (host := "") (Or.inl (hw _ (wd 14 rfl))) Via.refl e0 (S_SUCCESS.ext O0.2) (g := (mkF m 1 #[rv a_CANCELLED] [(.ref a_CANCELLED)])) rfl (hb hby d2_1)
  have k_50 : Go p.tables e below (s₁.setTop (entryFrame m #[(.ref a_CANCELLED)] 1)) (T49.setTop (mkF m 8 #[rv a_CANCELLED] [(.ref a_CANCELLED)])) := fun t q => by
    refine k_48 t ?_
    refine st49 _ ?_
    show Steps _ _ _ (T49.setTop (mkF m 4 #[rv a_CANCELLED] [(.ref a_SUCCESS), (.ref a_CANCELLED)])) _
    refine Jvm.RoadKit.acmp (g := (mkF m 4 #[rv a_CANCELLED] [(.ref a_SUCCESS), (.ref a_CANCELLED)])) X49 hx rfl rfl rfl (pc0 := 4) (pc' := 7) (same := false) rfl (hb hby d2_4) rfl (decide_eq_false fun q => (own_ne R_CANCELLED_ordinal R_SUCCESS_ordinal (by decide)) (Value.ref.inj q)) (by decide) (by decide) ?_
    show Steps _ _ _ (T49.setTop (mkF m 7 #[rv a_CANCELLED] [])) _
    refine XS.aloadN X49.here hx rfl (hb hby d2_7) rfl rfl ?_
    show Steps _ _ _ (T49.setTop (mkF m 8 #[rv a_CANCELLED] [(.ref a_CANCELLED)])) _
    exact q
  obtain ⟨T51, X51, e51, st51⟩ := getS2 X49 hx hZ hown (host := "") (Or.inl (hw _ (wd 17 rfl))) Via.refl e49 (S_FAIL.ext O0.2) (g := (mkF m 8 #[rv a_CANCELLED] [(.ref a_CANCELLED)])) rfl (hb hby d2_8)
  have k_52 : Go p.tables e below (s₁.setTop (entryFrame m #[(.ref a_CANCELLED)] 1)) (T51.setTop (mkF m 15 #[rv a_CANCELLED] [(.ref a_CANCELLED)])) := fun t q => by
    refine k_50 t ?_
    refine st51 _ ?_
    show Steps _ _ _ (T51.setTop (mkF m 11 #[rv a_CANCELLED] [(.ref a_FAIL), (.ref a_CANCELLED)])) _
    refine Jvm.RoadKit.acmp (g := (mkF m 11 #[rv a_CANCELLED] [(.ref a_FAIL), (.ref a_CANCELLED)])) X51 hx rfl rfl rfl (pc0 := 11) (pc' := 14) (same := false) rfl (hb hby d2_11) rfl (decide_eq_false fun q => (own_ne R_CANCELLED_ordinal R_FAIL_ordinal (by decide)) (Value.ref.inj q)) (by decide) (by decide) ?_
    show Steps _ _ _ (T51.setTop (mkF m 14 #[rv a_CANCELLED] [])) _
    refine XS.aloadN X51.here hx rfl (hb hby d2_14) rfl rfl ?_
    show Steps _ _ _ (T51.setTop (mkF m 15 #[rv a_CANCELLED] [(.ref a_CANCELLED)])) _
    exact q
  obtain ⟨T53, X53, e53, st53⟩ := getS2 X51 hx hZ hown (host := "") (Or.inl (hw _ (wd 20 rfl))) Via.refl e51 (S_CANCELLED.ext O0.2) (g := (mkF m 15 #[rv a_CANCELLED] [(.ref a_CANCELLED)])) rfl (hb hby d2_15)
  have k_54 : Go p.tables e below (s₁.setTop (entryFrame m #[(.ref a_CANCELLED)] 1)) (T53.setTop (mkF m 26 #[rv a_CANCELLED] [(.int 1)])) := fun t q => by
    refine k_52 t ?_
    refine st53 _ ?_
    show Steps _ _ _ (T53.setTop (mkF m 18 #[rv a_CANCELLED] [(.ref a_CANCELLED), (.ref a_CANCELLED)])) _
    refine Jvm.RoadKit.acmp (g := (mkF m 18 #[rv a_CANCELLED] [(.ref a_CANCELLED), (.ref a_CANCELLED)])) X53 hx rfl rfl rfl (pc0 := 18) (pc' := 21) (same := true) rfl (hb hby d2_18) rfl (decide_eq_true rfl) (by decide) (by decide) ?_
    show Steps _ _ _ (T53.setTop (mkF m 21 #[rv a_CANCELLED] [])) _
    refine XS.iconst X53.here hx rfl (hb hby d2_21) ?_
    show Steps _ _ _ (T53.setTop (mkF m 22 #[rv a_CANCELLED] [(.int 1)])) _
    refine XS.goto X53.here hx rfl (pc0 := 22) (pc' := 26) rfl (hb hby d2_22) (by decide) (by decide) ?_
    show Steps _ _ _ (T53.setTop (mkF m 26 #[rv a_CANCELLED] [(.int 1)])) _
    exact q
  obtain ⟨fs, hr, hrun, hended, hW, hsame⟩ := X53.leave (v := some (.int 1)) (fun h => by rw [Bd.returns] at h; cases h)
  refine ⟨_, _, k_54 _ ?_, hrun, hended, _, _, rfl, ?_, ⟨_, rfl⟩, hW, hsame.mono (by decide) (by decide)⟩
  · exact retN X53 hx (t := .boolean) Bd.returns (by simp) (hb hby d2_26) hr
  · show QV (some (.int 1)) h0 n0 _ T53.heap _
    rw [e53]
    exact ⟨rfl, N0, rfl⟩
set_option maxRecDepth 65536 in
set_option maxHeartbeats 40000000 in
theorem rm0 (l : Launch) (Z : State) (a0 : Array Value) (hw : ∀ d ∈ tables_1, d.before a0 Z = true) (ws : List Jvm.Cond) (a_SUCCESS a_FAIL a_RETRY a_CANCELLED a_PARTIAL_SUCCESS a_SKIPPED : Addr) (G : Own Z a_SUCCESS a_FAIL a_RETRY a_CANCELLED a_PARTIAL_SUCCESS a_SKIPPED) (q1 : Int32) (h0 : Heap) (n0 : Nat) (O0 : Old Z n0 h0)  :
    MetFree l x (head1 (Jvm.Cond.code x code maxLocals ret :: ws) room_1) (fun a U => a = #[(.int q1)] ∧ Z.Warmed39 U.vm ∧ U.heap = h0) (fun _ _ _ _ _ => True) (fun _ U o U' => ∃ v L, o = .returned v ∧ Q0 n0 v U'.heap L ∧ FrameEnd U o U' L room_1.cells room_1.slots) := by
  refine MetFree.of_bodySF (plainFor_of_name pn_0) hisR ?_
  intro p e s m args below meth c s₁ Bd hml0 hP hK
  obtain ⟨rfl, hZ, hh⟩ := hP
  have hx := Bd.exec
  have hby := Bd.bytes
  have hml : c.maxLocals = 4 := hml0
  have hown : s.vm.findClass "com/example/theseus/theseus/engine/OutcomeEndsARunPinLaw" = some m.cls := findClass_of_methodNamed Bd.named
  have hnm := (name_of_methodNamed Bd.named Bd.method).1
  have X0 : Stand p l e room_1 s m #[(.int q1)] below meth c s₁ [] 0 0 := Stand.of_body Bd
  have e0 : s₁.heap = h0 := by rw [← hh, Bd.state]; rfl
  have N0 := Fr.nil n0
  have K0 := Keep.refl h0 []
  have k0 : Go p.tables e below (s₁.setTop (entryFrame m #[(.int q1)] maxLocals)) (s₁.setTop (mkF m 0 #[iv q1, .unset, .unset, .unset] [])) := fun t k => castTop (by first | rfl | (simp [entryFrame, mkF, argsToLocals, Value.category, maxLocals]; done)) k
  have ⟨S_SUCCESS, E_SUCCESS, S_FAIL, E_FAIL, S_RETRY, E_RETRY, S_CANCELLED, E_CANCELLED, S_PARTIAL_SUCCESS, E_PARTIAL_SUCCESS, S_SKIPPED, E_SKIPPED, R_FAIL_ordinal, R_SUCCESS_ordinal, R_RETRY_ordinal, R_CANCELLED_ordinal, R_PARTIAL_SUCCESS_ordinal, R_SKIPPED_ordinal⟩ := G
  rcases own_rem_6 q1 with hi | hi | hi | hi | hi | hi
  · skip
    have k_55 : Go p.tables e below (s₁.setTop (entryFrame m #[(.int q1)] maxLocals)) (s₁.setTop (mkF m 9 #[iv q1, iv 0, .unset, .unset] [(.int 0)])) := fun t q => by
      refine k0 t ?_
      refine XS.iloadN X0.here hx rfl (hb hby at_0) rfl ?_
      show Steps _ _ _ (s₁.setTop (mkF m 1 #[iv q1, .unset, .unset, .unset] [(.int q1)])) _
      refine X0.ldcInt hx hown (mvT hZ (hw _ (wd 0 rfl))) (g := (mkF m 1 #[iv q1, .unset, .unset, .unset] [(.int q1)])) rfl (hb hby at_1) _ ?_
      show Steps _ _ _ (s₁.setTop (mkF m 3 #[iv q1, .unset, .unset, .unset] [(.int 2147483647), (.int q1)])) _
      refine XS.iand X0.here hx rfl (hb hby at_3) rfl ?_
      show Steps _ _ _ (s₁.setTop (mkF m 4 #[iv q1, .unset, .unset, .unset] [(.int (q1 &&& (2147483647 : Int32)))])) _
      refine XS.bipush X0.here hx rfl (hb hby at_4) ?_
      show Steps _ _ _ (s₁.setTop (mkF m 6 #[iv q1, .unset, .unset, .unset] [(.int 6), (.int (q1 &&& (2147483647 : Int32)))])) _
      refine iremM (g := (mkF m 6 #[iv q1, .unset, .unset, .unset] [(.int 6), (.int (q1 &&& (2147483647 : Int32)))])) X0 hx rfl (hb hby at_6) rfl (by decide) ?_
      show Steps _ _ _ (s₁.setTop (mkF m 7 #[iv q1, .unset, .unset, .unset] [(.int ((q1 &&& (2147483647 : Int32)) % (6 : Int32)))])) _
      rw [hi]
      show Steps _ _ _ (s₁.setTop (mkF m 7 #[iv q1, .unset, .unset, .unset] [(.int 0)])) _
      refine XS.istoreN X0.here hx rfl (hb hby at_7) rfl (l' := #[iv q1, iv 0, .unset, .unset]) rfl ?_
      show Steps _ _ _ (s₁.setTop (mkF m 8 #[iv q1, iv 0, .unset, .unset] [])) _
      refine XS.iloadN X0.here hx rfl (hb hby at_8) rfl ?_
      show Steps _ _ _ (s₁.setTop (mkF m 9 #[iv q1, iv 0, .unset, .unset] [(.int 0)])) _
      exact q
    obtain ⟨_, _, ⟨T56, L56, k56, n56⟩, -, X56, ⟨Lc56, hQ56, l56, y56, z56⟩, st56⟩ := Jvm.LawKit.callS X0 hx (y := y_0) hown (mvT hZ (hw _ (wd 1 rfl))) (mvT hZ (hw _ (wd 2 rfl))) (mvT hZ (hw _ (wd 3 rfl))) (mvT hZ (hw _ (wd 4 rfl))) (by decide) (backOf (W := 0) (pk_0 l Z a0 hw [] a_SUCCESS a_FAIL a_RETRY a_CANCELLED a_PARTIAL_SUCCESS a_SKIPPED G  h0 n0 O0 ) hZ (hw _ (wd 4 rfl)) (hw _ (wd 3 rfl)) (by decide) (by decide)) (g := (mkF m 9 #[iv q1, iv 0, .unset, .unset] [(.int 0)])) rfl (by rw [hml]; rfl) (argsL := [(.int 0)]) (rest := []) (lenOf pd_0 rfl) rfl (by show 2 * 0 + _ ≤ _; exact Nat.le_of_eq rfl) (hb hby at_9) (fun _ _ => ⟨rfl, e0, (by decide : 0 + 0 ≤ _), (by decide : 0 + 0 ≤ _)⟩)
    dsimp only [Pt.U, Pt.locs, Pt.cells, Pt.slots] at X56 l56 y56 z56 st56 hQ56
    subst l56 y56 z56
    obtain ⟨rfl, N56q, e56⟩ := hQ56
    have N56 := Fr.app N0 N56q
    have k_57 : Go p.tables e below (s₁.setTop (entryFrame m #[(.int q1)] maxLocals)) (T56.setTop (mkF m 15 #[iv q1, iv 0, rv a_SUCCESS, .unset] [(.int 6)])) := fun t q => by
      refine k_55 t ?_
      refine st56 _ ?_
      show Steps _ _ _ (T56.setTop (mkF m 12 #[iv q1, iv 0, .unset, .unset] [(.ref a_SUCCESS)])) _
      refine XS.astoreN X56.here hx rfl (hb hby at_12) rfl rfl (l' := #[iv q1, iv 0, rv a_SUCCESS, .unset]) rfl ?_
      show Steps _ _ _ (T56.setTop (mkF m 13 #[iv q1, iv 0, rv a_SUCCESS, .unset] [])) _
      refine XS.bipush X56.here hx rfl (hb hby at_13) ?_
      show Steps _ _ _ (T56.setTop (mkF m 15 #[iv q1, iv 0, rv a_SUCCESS, .unset] [(.int 6)])) _
      exact q
    obtain ⟨T58, h58, c58, X58, e58, E58, A58, st58⟩ := newP X56 hx hZ (hw _ (wd 8 rfl)) e56 (g := (mkF m 15 #[iv q1, iv 0, rv a_SUCCESS, .unset] [(.int 6)])) rfl (hb hby at_15) rfl (by decide) (cap := 6) (by decide) (by decide) (by decide) (by decide)
    obtain ⟨b58, g58⟩ : ∃ z, z = h0.size := ⟨_, rfl⟩
    rw [← g58] at A58 st58
    have g_b58 : n0 ≤ b58 := Nat.le_trans (own_old_le O0) (Nat.le_of_eq g58.symm)
    have sz_b58 : h0.size ≤ b58 := Nat.le_trans K0.1 (Nat.le_of_eq g58.symm)
    have O_59 := O0.ext E58
    have K_60 := K0.ext E58
    have B58 : Arv Z h58 b58 c58 .boolean (6 : Int32) [(.int 0), (.int 0), (.int 0), (.int 0), (.int 0), (.int 0)] (.int 0) := (Arv.new A58 (by decide)).pad (pad_rep [] (.int 0) 6)
    have k_61 : Go p.tables e below (s₁.setTop (entryFrame m #[(.int q1)] maxLocals)) (T58.setTop (mkF m 20 #[iv q1, iv 0, rv a_SUCCESS, .unset] [(.int 1), (.int 0), (.ref b58), (.ref b58)])) := fun t q => by
      refine k_57 t ?_
      refine st58 _ ?_
      show Steps _ _ _ (T58.setTop (mkF m 17 #[iv q1, iv 0, rv a_SUCCESS, .unset] [(.ref b58)])) _
      refine XS.dup X58.here hx rfl (hb hby at_17) rfl rfl ?_
      show Steps _ _ _ (T58.setTop (mkF m 18 #[iv q1, iv 0, rv a_SUCCESS, .unset] [(.ref b58), (.ref b58)])) _
      refine XS.iconst X58.here hx rfl (hb hby at_18) ?_
      show Steps _ _ _ (T58.setTop (mkF m 19 #[iv q1, iv 0, rv a_SUCCESS, .unset] [(.int 0), (.ref b58), (.ref b58)])) _
      refine XS.iconst X58.here hx rfl (hb hby at_19) ?_
      show Steps _ _ _ (T58.setTop (mkF m 20 #[iv q1, iv 0, rv a_SUCCESS, .unset] [(.int 1), (.int 0), (.ref b58), (.ref b58)])) _
      exact q
    obtain ⟨cl62, Ar62, q62, S62, M62, H62, G62⟩ := B58
    have hin62 : ¬ ((0 : Int32) < 0 ∨ cl62.slots.size ≤ ((0 : Int32)).toNatClampNeg) := inb_of S62 ⟨by decide, by decide⟩
    obtain ⟨T63, h63, X63, e63, W63, st63⟩ := stZ X58 hx hZ e58 Ar62 (j := (0 : Int32)) hin62 (g := (mkF m 20 #[iv q1, iv 0, rv a_SUCCESS, .unset] [(.int 1), (.int 0), (.ref b58), (.ref b58)])) rfl rfl (hb hby at_20)
    have B63 : Arv Z h63 b58 c58 .boolean (6 : Int32) [(.int 1), (.int 0), (.int 0), (.int 0), (.int 0), (.int 0)] (.int 0) := Arv.set Ar62 q62 S62 M62 H62 G62 (fits_nar_bool _) W63 0 rfl (Nat.le_of_ble_eq_true rfl)
    have N63 := Fr.snoc X63 N56 g_b58
    have O_64 := O_59.wr W63 g_b58
    have K_65 := K_60.wr W63 (Or.inr sz_b58)
    have k_66 : Go p.tables e below (s₁.setTop (entryFrame m #[(.int q1)] maxLocals)) (T63.setTop (mkF m 24 #[iv q1, iv 0, rv a_SUCCESS, .unset] [(.int 0), (.int 1), (.ref b58), (.ref b58)])) := fun t q => by
      refine k_61 t ?_
      refine st63 _ ?_
      show Steps _ _ _ (T63.setTop (mkF m 21 #[iv q1, iv 0, rv a_SUCCESS, .unset] [(.ref b58)])) _
      refine XS.dup X63.here hx rfl (hb hby at_21) rfl rfl ?_
      show Steps _ _ _ (T63.setTop (mkF m 22 #[iv q1, iv 0, rv a_SUCCESS, .unset] [(.ref b58), (.ref b58)])) _
      refine XS.iconst X63.here hx rfl (hb hby at_22) ?_
      show Steps _ _ _ (T63.setTop (mkF m 23 #[iv q1, iv 0, rv a_SUCCESS, .unset] [(.int 1), (.ref b58), (.ref b58)])) _
      refine XS.iconst X63.here hx rfl (hb hby at_23) ?_
      show Steps _ _ _ (T63.setTop (mkF m 24 #[iv q1, iv 0, rv a_SUCCESS, .unset] [(.int 0), (.int 1), (.ref b58), (.ref b58)])) _
      exact q
    obtain ⟨cl67, Ar67, q67, S67, M67, H67, G67⟩ := B63
    have hin67 : ¬ ((1 : Int32) < 0 ∨ cl67.slots.size ≤ ((1 : Int32)).toNatClampNeg) := inb_of S67 ⟨by decide, by decide⟩
    obtain ⟨T68, h68, X68, e68, W68, st68⟩ := stZ X63 hx hZ e63 Ar67 (j := (1 : Int32)) hin67 (g := (mkF m 24 #[iv q1, iv 0, rv a_SUCCESS, .unset] [(.int 0), (.int 1), (.ref b58), (.ref b58)])) rfl rfl (hb hby at_24)
    have B68 : Arv Z h68 b58 c58 .boolean (6 : Int32) [(.int 1), (.int 0), (.int 0), (.int 0), (.int 0), (.int 0)] (.int 0) := Arv.set Ar67 q67 S67 M67 H67 G67 (fits_nar_bool _) W68 1 rfl (Nat.le_of_ble_eq_true rfl)
    have N68 := Fr.snoc X68 N63 g_b58
    have O_69 := O_64.wr W68 g_b58
    have K_70 := K_65.wr W68 (Or.inr sz_b58)
    have k_71 : Go p.tables e below (s₁.setTop (entryFrame m #[(.int q1)] maxLocals)) (T68.setTop (mkF m 28 #[iv q1, iv 0, rv a_SUCCESS, .unset] [(.int 0), (.int 2), (.ref b58), (.ref b58)])) := fun t q => by
      refine k_66 t ?_
      refine st68 _ ?_
      show Steps _ _ _ (T68.setTop (mkF m 25 #[iv q1, iv 0, rv a_SUCCESS, .unset] [(.ref b58)])) _
      refine XS.dup X68.here hx rfl (hb hby at_25) rfl rfl ?_
      show Steps _ _ _ (T68.setTop (mkF m 26 #[iv q1, iv 0, rv a_SUCCESS, .unset] [(.ref b58), (.ref b58)])) _
      refine XS.iconst X68.here hx rfl (hb hby at_26) ?_
      show Steps _ _ _ (T68.setTop (mkF m 27 #[iv q1, iv 0, rv a_SUCCESS, .unset] [(.int 2), (.ref b58), (.ref b58)])) _
      refine XS.iconst X68.here hx rfl (hb hby at_27) ?_
      show Steps _ _ _ (T68.setTop (mkF m 28 #[iv q1, iv 0, rv a_SUCCESS, .unset] [(.int 0), (.int 2), (.ref b58), (.ref b58)])) _
      exact q
    obtain ⟨cl72, Ar72, q72, S72, M72, H72, G72⟩ := B68
    have hin72 : ¬ ((2 : Int32) < 0 ∨ cl72.slots.size ≤ ((2 : Int32)).toNatClampNeg) := inb_of S72 ⟨by decide, by decide⟩
    obtain ⟨T73, h73, X73, e73, W73, st73⟩ := stZ X68 hx hZ e68 Ar72 (j := (2 : Int32)) hin72 (g := (mkF m 28 #[iv q1, iv 0, rv a_SUCCESS, .unset] [(.int 0), (.int 2), (.ref b58), (.ref b58)])) rfl rfl (hb hby at_28)
    have B73 : Arv Z h73 b58 c58 .boolean (6 : Int32) [(.int 1), (.int 0), (.int 0), (.int 0), (.int 0), (.int 0)] (.int 0) := Arv.set Ar72 q72 S72 M72 H72 G72 (fits_nar_bool _) W73 2 rfl (Nat.le_of_ble_eq_true rfl)
    have N73 := Fr.snoc X73 N68 g_b58
    have O_74 := O_69.wr W73 g_b58
    have K_75 := K_70.wr W73 (Or.inr sz_b58)
    have k_76 : Go p.tables e below (s₁.setTop (entryFrame m #[(.int q1)] maxLocals)) (T73.setTop (mkF m 32 #[iv q1, iv 0, rv a_SUCCESS, .unset] [(.int 1), (.int 3), (.ref b58), (.ref b58)])) := fun t q => by
      refine k_71 t ?_
      refine st73 _ ?_
      show Steps _ _ _ (T73.setTop (mkF m 29 #[iv q1, iv 0, rv a_SUCCESS, .unset] [(.ref b58)])) _
      refine XS.dup X73.here hx rfl (hb hby at_29) rfl rfl ?_
      show Steps _ _ _ (T73.setTop (mkF m 30 #[iv q1, iv 0, rv a_SUCCESS, .unset] [(.ref b58), (.ref b58)])) _
      refine XS.iconst X73.here hx rfl (hb hby at_30) ?_
      show Steps _ _ _ (T73.setTop (mkF m 31 #[iv q1, iv 0, rv a_SUCCESS, .unset] [(.int 3), (.ref b58), (.ref b58)])) _
      refine XS.iconst X73.here hx rfl (hb hby at_31) ?_
      show Steps _ _ _ (T73.setTop (mkF m 32 #[iv q1, iv 0, rv a_SUCCESS, .unset] [(.int 1), (.int 3), (.ref b58), (.ref b58)])) _
      exact q
    obtain ⟨cl77, Ar77, q77, S77, M77, H77, G77⟩ := B73
    have hin77 : ¬ ((3 : Int32) < 0 ∨ cl77.slots.size ≤ ((3 : Int32)).toNatClampNeg) := inb_of S77 ⟨by decide, by decide⟩
    obtain ⟨T78, h78, X78, e78, W78, st78⟩ := stZ X73 hx hZ e73 Ar77 (j := (3 : Int32)) hin77 (g := (mkF m 32 #[iv q1, iv 0, rv a_SUCCESS, .unset] [(.int 1), (.int 3), (.ref b58), (.ref b58)])) rfl rfl (hb hby at_32)
    have B78 : Arv Z h78 b58 c58 .boolean (6 : Int32) [(.int 1), (.int 0), (.int 0), (.int 1), (.int 0), (.int 0)] (.int 0) := Arv.set Ar77 q77 S77 M77 H77 G77 (fits_nar_bool _) W78 3 rfl (Nat.le_of_ble_eq_true rfl)
    have N78 := Fr.snoc X78 N73 g_b58
    have O_79 := O_74.wr W78 g_b58
    have K_80 := K_75.wr W78 (Or.inr sz_b58)
    have k_81 : Go p.tables e below (s₁.setTop (entryFrame m #[(.int q1)] maxLocals)) (T78.setTop (mkF m 36 #[iv q1, iv 0, rv a_SUCCESS, .unset] [(.int 0), (.int 4), (.ref b58), (.ref b58)])) := fun t q => by
      refine k_76 t ?_
      refine st78 _ ?_
      show Steps _ _ _ (T78.setTop (mkF m 33 #[iv q1, iv 0, rv a_SUCCESS, .unset] [(.ref b58)])) _
      refine XS.dup X78.here hx rfl (hb hby at_33) rfl rfl ?_
      show Steps _ _ _ (T78.setTop (mkF m 34 #[iv q1, iv 0, rv a_SUCCESS, .unset] [(.ref b58), (.ref b58)])) _
      refine XS.iconst X78.here hx rfl (hb hby at_34) ?_
      show Steps _ _ _ (T78.setTop (mkF m 35 #[iv q1, iv 0, rv a_SUCCESS, .unset] [(.int 4), (.ref b58), (.ref b58)])) _
      refine XS.iconst X78.here hx rfl (hb hby at_35) ?_
      show Steps _ _ _ (T78.setTop (mkF m 36 #[iv q1, iv 0, rv a_SUCCESS, .unset] [(.int 0), (.int 4), (.ref b58), (.ref b58)])) _
      exact q
    obtain ⟨cl82, Ar82, q82, S82, M82, H82, G82⟩ := B78
    have hin82 : ¬ ((4 : Int32) < 0 ∨ cl82.slots.size ≤ ((4 : Int32)).toNatClampNeg) := inb_of S82 ⟨by decide, by decide⟩
    obtain ⟨T83, h83, X83, e83, W83, st83⟩ := stZ X78 hx hZ e78 Ar82 (j := (4 : Int32)) hin82 (g := (mkF m 36 #[iv q1, iv 0, rv a_SUCCESS, .unset] [(.int 0), (.int 4), (.ref b58), (.ref b58)])) rfl rfl (hb hby at_36)
    have B83 : Arv Z h83 b58 c58 .boolean (6 : Int32) [(.int 1), (.int 0), (.int 0), (.int 1), (.int 0), (.int 0)] (.int 0) := Arv.set Ar82 q82 S82 M82 H82 G82 (fits_nar_bool _) W83 4 rfl (Nat.le_of_ble_eq_true rfl)
    have N83 := Fr.snoc X83 N78 g_b58
    have O_84 := O_79.wr W83 g_b58
    have K_85 := K_80.wr W83 (Or.inr sz_b58)
    have k_86 : Go p.tables e below (s₁.setTop (entryFrame m #[(.int q1)] maxLocals)) (T83.setTop (mkF m 40 #[iv q1, iv 0, rv a_SUCCESS, .unset] [(.int 1), (.int 5), (.ref b58), (.ref b58)])) := fun t q => by
      refine k_81 t ?_
      refine st83 _ ?_
      show Steps _ _ _ (T83.setTop (mkF m 37 #[iv q1, iv 0, rv a_SUCCESS, .unset] [(.ref b58)])) _
      refine XS.dup X83.here hx rfl (hb hby at_37) rfl rfl ?_
      show Steps _ _ _ (T83.setTop (mkF m 38 #[iv q1, iv 0, rv a_SUCCESS, .unset] [(.ref b58), (.ref b58)])) _
      refine XS.iconst X83.here hx rfl (hb hby at_38) ?_
      show Steps _ _ _ (T83.setTop (mkF m 39 #[iv q1, iv 0, rv a_SUCCESS, .unset] [(.int 5), (.ref b58), (.ref b58)])) _
      refine XS.iconst X83.here hx rfl (hb hby at_39) ?_
      show Steps _ _ _ (T83.setTop (mkF m 40 #[iv q1, iv 0, rv a_SUCCESS, .unset] [(.int 1), (.int 5), (.ref b58), (.ref b58)])) _
      exact q
    obtain ⟨cl87, Ar87, q87, S87, M87, H87, G87⟩ := B83
    have hin87 : ¬ ((5 : Int32) < 0 ∨ cl87.slots.size ≤ ((5 : Int32)).toNatClampNeg) := inb_of S87 ⟨by decide, by decide⟩
    obtain ⟨T88, h88, X88, e88, W88, st88⟩ := stZ X83 hx hZ e83 Ar87 (j := (5 : Int32)) hin87 (g := (mkF m 40 #[iv q1, iv 0, rv a_SUCCESS, .unset] [(.int 1), (.int 5), (.ref b58), (.ref b58)])) rfl rfl (hb hby at_40)
    have B88 : Arv Z h88 b58 c58 .boolean (6 : Int32) [(.int 1), (.int 0), (.int 0), (.int 1), (.int 0), (.int 1)] (.int 0) := Arv.set Ar87 q87 S87 M87 H87 G87 (fits_nar_bool _) W88 5 rfl (Nat.le_of_ble_eq_true rfl)
    have N88 := Fr.snoc X88 N83 g_b58
    have O_89 := O_84.wr W88 g_b58
    have K_90 := K_85.wr W88 (Or.inr sz_b58)
    have k_91 : Go p.tables e below (s₁.setTop (entryFrame m #[(.int q1)] maxLocals)) (T88.setTop (mkF m 43 #[iv q1, iv 0, rv a_SUCCESS, rv b58] [(.ref a_SUCCESS)])) := fun t q => by
      refine k_86 t ?_
      refine st88 _ ?_
      show Steps _ _ _ (T88.setTop (mkF m 41 #[iv q1, iv 0, rv a_SUCCESS, .unset] [(.ref b58)])) _
      refine XS.astoreN X88.here hx rfl (hb hby at_41) rfl rfl (l' := #[iv q1, iv 0, rv a_SUCCESS, rv b58]) rfl ?_
      show Steps _ _ _ (T88.setTop (mkF m 42 #[iv q1, iv 0, rv a_SUCCESS, rv b58] [])) _
      refine XS.aloadN X88.here hx rfl (hb hby at_42) rfl rfl ?_
      show Steps _ _ _ (T88.setTop (mkF m 43 #[iv q1, iv 0, rv a_SUCCESS, rv b58] [(.ref a_SUCCESS)])) _
      exact q
    obtain ⟨cq92, kq92, q92a, q92b, q92c⟩ := isOf hZ e88 (Exa.ext O_89.2 E_SUCCESS)
    obtain ⟨_, _, ⟨T92, L92, k92, n92⟩, -, X92, ⟨Lc92, hQ92, l92, y92, z92⟩, st92⟩ := X88.virtualBack hx (y := y_1) (z := y_1) hown (mvT hZ (hw _ (wd 9 rfl))) (mvT hZ (hw _ (wd 10 rfl))) (notFace_of_selects (args := #[]) (mvT hZ (hw _ (wd 12 rfl)))) (mvT hZ (hw _ (wd 12 rfl))) (mvT hZ (hw _ (wd 11 rfl))) (by decide) (backOf (W := 0) (er_0 l Z a0 hw [] a_SUCCESS a_FAIL a_RETRY a_CANCELLED a_PARTIAL_SUCCESS a_SKIPPED G  h88 n0 O_89 ) hZ (hw _ (wd 13 rfl)) (hw _ (wd 6 rfl)) (by decide) (by decide)) q92a q92c (g := (mkF m 43 #[iv q1, iv 0, rv a_SUCCESS, rv b58] [(.ref a_SUCCESS)])) rfl (by rw [hml]; rfl) (Steps.refl _) (argsL := []) (rest := []) (lenOf pd_1 rfl) rfl (by show 2 * 0 + _ ≤ _; exact Nat.le_of_eq rfl) (hb hby at_43) (fun _ _ => ⟨rfl, e88, (by decide : 1 + 0 ≤ _), (by decide : 6 + 0 ≤ _)⟩)
    dsimp only [Pt.U, Pt.locs, Pt.cells, Pt.slots] at X92 l92 y92 z92 st92 hQ92
    subst l92 y92 z92
    obtain ⟨rfl, N92q, e92⟩ := hQ92
    have N92 := Fr.app N88 N92q
    have k_93 : Go p.tables e below (s₁.setTop (entryFrame m #[(.int q1)] maxLocals)) (T92.setTop (mkF m 48 #[iv q1, iv 0, rv a_SUCCESS, rv b58] [(.int 0), (.ref b58), (.int 1)])) := fun t q => by
      refine k_91 t ?_
      refine st92.trans ?_
      show Steps _ _ _ (T92.setTop (mkF m 46 #[iv q1, iv 0, rv a_SUCCESS, rv b58] [(.int 1)])) _
      refine XS.aloadN X92.here hx rfl (hb hby at_46) rfl rfl ?_
      show Steps _ _ _ (T92.setTop (mkF m 47 #[iv q1, iv 0, rv a_SUCCESS, rv b58] [(.ref b58), (.int 1)])) _
      refine XS.iloadN X92.here hx rfl (hb hby at_47) rfl ?_
      show Steps _ _ _ (T92.setTop (mkF m 48 #[iv q1, iv 0, rv a_SUCCESS, rv b58] [(.int 0), (.ref b58), (.int 1)])) _
      exact q
    obtain ⟨cl94, Ar94, q94, S94, M94, H94, G94⟩ := B88
    have hin94 : ¬ ((0 : Int32) < 0 ∨ cl94.slots.size ≤ ((0 : Int32)).toNatClampNeg) := inb_of S94 ⟨by decide, by decide⟩
    have hat94 : cl94.slots[((0 : Int32)).toNatClampNeg]? = some (.int 1) := Has.at H94 hin94 rfl
    have k_95 : Go p.tables e below (s₁.setTop (entryFrame m #[(.int q1)] maxLocals)) (T92.setTop (mkF m 57 #[iv q1, iv 0, rv a_SUCCESS, rv b58] [(.int 1)])) := fun t q => by
      refine k_93 t ?_
      refine X92.baloadBooleans hx (j := (0 : Int32)) (v := (.int 1)) (by rw [e92]; exact Ar94.1) (State.isArrayOf_alike hZ.alike Ar94.2.1) Ar94.2.2 hin94 hat94 (g := (mkF m 48 #[iv q1, iv 0, rv a_SUCCESS, rv b58] [(.int 0), (.ref b58), (.int 1)])) rfl rfl (hb hby at_48) _ ?_
      show Steps _ _ _ (T92.setTop (mkF m 49 #[iv q1, iv 0, rv a_SUCCESS, rv b58] [(.int 1), (.int 1)])) _
      refine XS.icmpNo X92.here hx rfl (hb hby at_49) rfl (by decide) ?_
      show Steps _ _ _ (T92.setTop (mkF m 52 #[iv q1, iv 0, rv a_SUCCESS, rv b58] [])) _
      refine XS.iconst X92.here hx rfl (hb hby at_52) ?_
      show Steps _ _ _ (T92.setTop (mkF m 53 #[iv q1, iv 0, rv a_SUCCESS, rv b58] [(.int 1)])) _
      refine XS.goto X92.here hx rfl (pc0 := 53) (pc' := 57) rfl (hb hby at_53) (by decide) (by decide) ?_
      show Steps _ _ _ (T92.setTop (mkF m 57 #[iv q1, iv 0, rv a_SUCCESS, rv b58] [(.int 1)])) _
      exact q
    obtain ⟨fs, hr, hrun, hended, hW, hsame⟩ := X92.leave (v := some (.int 1)) (fun h => by rw [Bd.returns] at h; cases h)
    refine ⟨_, _, k_95 _ ?_, hrun, hended, _, _, rfl, ?_, ⟨_, rfl⟩, hW, hsame.mono (by decide) (by decide)⟩
    · exact retN X92 hx (t := .boolean) Bd.returns (by simp) (hb hby at_57) hr
    · show Q0 n0 _ T92.heap _
      rw [e92]
      exact ⟨rfl, N92⟩
  · skip
    have k_96 : Go p.tables e below (s₁.setTop (entryFrame m #[(.int q1)] maxLocals)) (s₁.setTop (mkF m 9 #[iv q1, iv 1, .unset, .unset] [(.int 1)])) := fun t q => by
      refine k0 t ?_
      refine XS.iloadN X0.here hx rfl (hb hby at_0) rfl ?_
      show Steps _ _ _ (s₁.setTop (mkF m 1 #[iv q1, .unset, .unset, .unset] [(.int q1)])) _
      refine X0.ldcInt hx hown (mvT hZ (hw _ (wd 0 rfl))) (g := (mkF m 1 #[iv q1, .unset, .unset, .unset] [(.int q1)])) rfl (hb hby at_1) _ ?_
      show Steps _ _ _ (s₁.setTop (mkF m 3 #[iv q1, .unset, .unset, .unset] [(.int 2147483647), (.int q1)])) _
      refine XS.iand X0.here hx rfl (hb hby at_3) rfl ?_
      show Steps _ _ _ (s₁.setTop (mkF m 4 #[iv q1, .unset, .unset, .unset] [(.int (q1 &&& (2147483647 : Int32)))])) _
      refine XS.bipush X0.here hx rfl (hb hby at_4) ?_
      show Steps _ _ _ (s₁.setTop (mkF m 6 #[iv q1, .unset, .unset, .unset] [(.int 6), (.int (q1 &&& (2147483647 : Int32)))])) _
      refine iremM (g := (mkF m 6 #[iv q1, .unset, .unset, .unset] [(.int 6), (.int (q1 &&& (2147483647 : Int32)))])) X0 hx rfl (hb hby at_6) rfl (by decide) ?_
      show Steps _ _ _ (s₁.setTop (mkF m 7 #[iv q1, .unset, .unset, .unset] [(.int ((q1 &&& (2147483647 : Int32)) % (6 : Int32)))])) _
      rw [hi]
      show Steps _ _ _ (s₁.setTop (mkF m 7 #[iv q1, .unset, .unset, .unset] [(.int 1)])) _
      refine XS.istoreN X0.here hx rfl (hb hby at_7) rfl (l' := #[iv q1, iv 1, .unset, .unset]) rfl ?_
      show Steps _ _ _ (s₁.setTop (mkF m 8 #[iv q1, iv 1, .unset, .unset] [])) _
      refine XS.iloadN X0.here hx rfl (hb hby at_8) rfl ?_
      show Steps _ _ _ (s₁.setTop (mkF m 9 #[iv q1, iv 1, .unset, .unset] [(.int 1)])) _
      exact q
    obtain ⟨_, _, ⟨T97, L97, k97, n97⟩, -, X97, ⟨Lc97, hQ97, l97, y97, z97⟩, st97⟩ := Jvm.LawKit.callS X0 hx (y := y_0) hown (mvT hZ (hw _ (wd 1 rfl))) (mvT hZ (hw _ (wd 2 rfl))) (mvT hZ (hw _ (wd 3 rfl))) (mvT hZ (hw _ (wd 4 rfl))) (by decide) (backOf (W := 0) (pk_1 l Z a0 hw [] a_SUCCESS a_FAIL a_RETRY a_CANCELLED a_PARTIAL_SUCCESS a_SKIPPED G  h0 n0 O0 ) hZ (hw _ (wd 4 rfl)) (hw _ (wd 3 rfl)) (by decide) (by decide)) (g := (mkF m 9 #[iv q1, iv 1, .unset, .unset] [(.int 1)])) rfl (by rw [hml]; rfl) (argsL := [(.int 1)]) (rest := []) (lenOf pd_0 rfl) rfl (by show 2 * 0 + _ ≤ _; exact Nat.le_of_eq rfl) (hb hby at_9) (fun _ _ => ⟨rfl, e0, (by decide : 0 + 0 ≤ _), (by decide : 0 + 0 ≤ _)⟩)
    dsimp only [Pt.U, Pt.locs, Pt.cells, Pt.slots] at X97 l97 y97 z97 st97 hQ97
    subst l97 y97 z97
    obtain ⟨rfl, N97q, e97⟩ := hQ97
    have N97 := Fr.app N0 N97q
    have k_98 : Go p.tables e below (s₁.setTop (entryFrame m #[(.int q1)] maxLocals)) (T97.setTop (mkF m 15 #[iv q1, iv 1, rv a_PARTIAL_SUCCESS, .unset] [(.int 6)])) := fun t q => by
      refine k_96 t ?_
      refine st97 _ ?_
      show Steps _ _ _ (T97.setTop (mkF m 12 #[iv q1, iv 1, .unset, .unset] [(.ref a_PARTIAL_SUCCESS)])) _
      refine XS.astoreN X97.here hx rfl (hb hby at_12) rfl rfl (l' := #[iv q1, iv 1, rv a_PARTIAL_SUCCESS, .unset]) rfl ?_
      show Steps _ _ _ (T97.setTop (mkF m 13 #[iv q1, iv 1, rv a_PARTIAL_SUCCESS, .unset] [])) _
      refine XS.bipush X97.here hx rfl (hb hby at_13) ?_
      show Steps _ _ _ (T97.setTop (mkF m 15 #[iv q1, iv 1, rv a_PARTIAL_SUCCESS, .unset] [(.int 6)])) _
      exact q
    obtain ⟨T99, h99, c99, X99, e99, E99, A99, st99⟩ := newP X97 hx hZ (hw _ (wd 8 rfl)) e97 (g := (mkF m 15 #[iv q1, iv 1, rv a_PARTIAL_SUCCESS, .unset] [(.int 6)])) rfl (hb hby at_15) rfl (by decide) (cap := 6) (by decide) (by decide) (by decide) (by decide)
    obtain ⟨b99, g99⟩ : ∃ z, z = h0.size := ⟨_, rfl⟩
    rw [← g99] at A99 st99
    have g_b99 : n0 ≤ b99 := Nat.le_trans (own_old_le O0) (Nat.le_of_eq g99.symm)
    have sz_b99 : h0.size ≤ b99 := Nat.le_trans K0.1 (Nat.le_of_eq g99.symm)
    have O_100 := O0.ext E99
    have K_101 := K0.ext E99
    have B99 : Arv Z h99 b99 c99 .boolean (6 : Int32) [(.int 0), (.int 0), (.int 0), (.int 0), (.int 0), (.int 0)] (.int 0) := (Arv.new A99 (by decide)).pad (pad_rep [] (.int 0) 6)
    have k_102 : Go p.tables e below (s₁.setTop (entryFrame m #[(.int q1)] maxLocals)) (T99.setTop (mkF m 20 #[iv q1, iv 1, rv a_PARTIAL_SUCCESS, .unset] [(.int 1), (.int 0), (.ref b99), (.ref b99)])) := fun t q => by
      refine k_98 t ?_
      refine st99 _ ?_
      show Steps _ _ _ (T99.setTop (mkF m 17 #[iv q1, iv 1, rv a_PARTIAL_SUCCESS, .unset] [(.ref b99)])) _
      refine XS.dup X99.here hx rfl (hb hby at_17) rfl rfl ?_
      show Steps _ _ _ (T99.setTop (mkF m 18 #[iv q1, iv 1, rv a_PARTIAL_SUCCESS, .unset] [(.ref b99), (.ref b99)])) _
      refine XS.iconst X99.here hx rfl (hb hby at_18) ?_
      show Steps _ _ _ (T99.setTop (mkF m 19 #[iv q1, iv 1, rv a_PARTIAL_SUCCESS, .unset] [(.int 0), (.ref b99), (.ref b99)])) _
      refine XS.iconst X99.here hx rfl (hb hby at_19) ?_
      show Steps _ _ _ (T99.setTop (mkF m 20 #[iv q1, iv 1, rv a_PARTIAL_SUCCESS, .unset] [(.int 1), (.int 0), (.ref b99), (.ref b99)])) _
      exact q
    obtain ⟨cl103, Ar103, q103, S103, M103, H103, G103⟩ := B99
    have hin103 : ¬ ((0 : Int32) < 0 ∨ cl103.slots.size ≤ ((0 : Int32)).toNatClampNeg) := inb_of S103 ⟨by decide, by decide⟩
    obtain ⟨T104, h104, X104, e104, W104, st104⟩ := stZ X99 hx hZ e99 Ar103 (j := (0 : Int32)) hin103 (g := (mkF m 20 #[iv q1, iv 1, rv a_PARTIAL_SUCCESS, .unset] [(.int 1), (.int 0), (.ref b99), (.ref b99)])) rfl rfl (hb hby at_20)
    have B104 : Arv Z h104 b99 c99 .boolean (6 : Int32) [(.int 1), (.int 0), (.int 0), (.int 0), (.int 0), (.int 0)] (.int 0) := Arv.set Ar103 q103 S103 M103 H103 G103 (fits_nar_bool _) W104 0 rfl (Nat.le_of_ble_eq_true rfl)
    have N104 := Fr.snoc X104 N97 g_b99
    have O_105 := O_100.wr W104 g_b99
    have K_106 := K_101.wr W104 (Or.inr sz_b99)
    have k_107 : Go p.tables e below (s₁.setTop (entryFrame m #[(.int q1)] maxLocals)) (T104.setTop (mkF m 24 #[iv q1, iv 1, rv a_PARTIAL_SUCCESS, .unset] [(.int 0), (.int 1), (.ref b99), (.ref b99)])) := fun t q => by
      refine k_102 t ?_
      refine st104 _ ?_
      show Steps _ _ _ (T104.setTop (mkF m 21 #[iv q1, iv 1, rv a_PARTIAL_SUCCESS, .unset] [(.ref b99)])) _
      refine XS.dup X104.here hx rfl (hb hby at_21) rfl rfl ?_
      show Steps _ _ _ (T104.setTop (mkF m 22 #[iv q1, iv 1, rv a_PARTIAL_SUCCESS, .unset] [(.ref b99), (.ref b99)])) _
      refine XS.iconst X104.here hx rfl (hb hby at_22) ?_
      show Steps _ _ _ (T104.setTop (mkF m 23 #[iv q1, iv 1, rv a_PARTIAL_SUCCESS, .unset] [(.int 1), (.ref b99), (.ref b99)])) _
      refine XS.iconst X104.here hx rfl (hb hby at_23) ?_
      show Steps _ _ _ (T104.setTop (mkF m 24 #[iv q1, iv 1, rv a_PARTIAL_SUCCESS, .unset] [(.int 0), (.int 1), (.ref b99), (.ref b99)])) _
      exact q
    obtain ⟨cl108, Ar108, q108, S108, M108, H108, G108⟩ := B104
    have hin108 : ¬ ((1 : Int32) < 0 ∨ cl108.slots.size ≤ ((1 : Int32)).toNatClampNeg) := inb_of S108 ⟨by decide, by decide⟩
    obtain ⟨T109, h109, X109, e109, W109, st109⟩ := stZ X104 hx hZ e104 Ar108 (j := (1 : Int32)) hin108 (g := (mkF m 24 #[iv q1, iv 1, rv a_PARTIAL_SUCCESS, .unset] [(.int 0), (.int 1), (.ref b99), (.ref b99)])) rfl rfl (hb hby at_24)
    have B109 : Arv Z h109 b99 c99 .boolean (6 : Int32) [(.int 1), (.int 0), (.int 0), (.int 0), (.int 0), (.int 0)] (.int 0) := Arv.set Ar108 q108 S108 M108 H108 G108 (fits_nar_bool _) W109 1 rfl (Nat.le_of_ble_eq_true rfl)
    have N109 := Fr.snoc X109 N104 g_b99
    have O_110 := O_105.wr W109 g_b99
    have K_111 := K_106.wr W109 (Or.inr sz_b99)
    have k_112 : Go p.tables e below (s₁.setTop (entryFrame m #[(.int q1)] maxLocals)) (T109.setTop (mkF m 28 #[iv q1, iv 1, rv a_PARTIAL_SUCCESS, .unset] [(.int 0), (.int 2), (.ref b99), (.ref b99)])) := fun t q => by
      refine k_107 t ?_
      refine st109 _ ?_
      show Steps _ _ _ (T109.setTop (mkF m 25 #[iv q1, iv 1, rv a_PARTIAL_SUCCESS, .unset] [(.ref b99)])) _
      refine XS.dup X109.here hx rfl (hb hby at_25) rfl rfl ?_
      show Steps _ _ _ (T109.setTop (mkF m 26 #[iv q1, iv 1, rv a_PARTIAL_SUCCESS, .unset] [(.ref b99), (.ref b99)])) _
      refine XS.iconst X109.here hx rfl (hb hby at_26) ?_
      show Steps _ _ _ (T109.setTop (mkF m 27 #[iv q1, iv 1, rv a_PARTIAL_SUCCESS, .unset] [(.int 2), (.ref b99), (.ref b99)])) _
      refine XS.iconst X109.here hx rfl (hb hby at_27) ?_
      show Steps _ _ _ (T109.setTop (mkF m 28 #[iv q1, iv 1, rv a_PARTIAL_SUCCESS, .unset] [(.int 0), (.int 2), (.ref b99), (.ref b99)])) _
      exact q
    obtain ⟨cl113, Ar113, q113, S113, M113, H113, G113⟩ := B109
    have hin113 : ¬ ((2 : Int32) < 0 ∨ cl113.slots.size ≤ ((2 : Int32)).toNatClampNeg) := inb_of S113 ⟨by decide, by decide⟩
    obtain ⟨T114, h114, X114, e114, W114, st114⟩ := stZ X109 hx hZ e109 Ar113 (j := (2 : Int32)) hin113 (g := (mkF m 28 #[iv q1, iv 1, rv a_PARTIAL_SUCCESS, .unset] [(.int 0), (.int 2), (.ref b99), (.ref b99)])) rfl rfl (hb hby at_28)
    have B114 : Arv Z h114 b99 c99 .boolean (6 : Int32) [(.int 1), (.int 0), (.int 0), (.int 0), (.int 0), (.int 0)] (.int 0) := Arv.set Ar113 q113 S113 M113 H113 G113 (fits_nar_bool _) W114 2 rfl (Nat.le_of_ble_eq_true rfl)
    have N114 := Fr.snoc X114 N109 g_b99
    have O_115 := O_110.wr W114 g_b99
    have K_116 := K_111.wr W114 (Or.inr sz_b99)
    have k_117 : Go p.tables e below (s₁.setTop (entryFrame m #[(.int q1)] maxLocals)) (T114.setTop (mkF m 32 #[iv q1, iv 1, rv a_PARTIAL_SUCCESS, .unset] [(.int 1), (.int 3), (.ref b99), (.ref b99)])) := fun t q => by
      refine k_112 t ?_
      refine st114 _ ?_
      show Steps _ _ _ (T114.setTop (mkF m 29 #[iv q1, iv 1, rv a_PARTIAL_SUCCESS, .unset] [(.ref b99)])) _
      refine XS.dup X114.here hx rfl (hb hby at_29) rfl rfl ?_
      show Steps _ _ _ (T114.setTop (mkF m 30 #[iv q1, iv 1, rv a_PARTIAL_SUCCESS, .unset] [(.ref b99), (.ref b99)])) _
      refine XS.iconst X114.here hx rfl (hb hby at_30) ?_
      show Steps _ _ _ (T114.setTop (mkF m 31 #[iv q1, iv 1, rv a_PARTIAL_SUCCESS, .unset] [(.int 3), (.ref b99), (.ref b99)])) _
      refine XS.iconst X114.here hx rfl (hb hby at_31) ?_
      show Steps _ _ _ (T114.setTop (mkF m 32 #[iv q1, iv 1, rv a_PARTIAL_SUCCESS, .unset] [(.int 1), (.int 3), (.ref b99), (.ref b99)])) _
      exact q
    obtain ⟨cl118, Ar118, q118, S118, M118, H118, G118⟩ := B114
    have hin118 : ¬ ((3 : Int32) < 0 ∨ cl118.slots.size ≤ ((3 : Int32)).toNatClampNeg) := inb_of S118 ⟨by decide, by decide⟩
    obtain ⟨T119, h119, X119, e119, W119, st119⟩ := stZ X114 hx hZ e114 Ar118 (j := (3 : Int32)) hin118 (g := (mkF m 32 #[iv q1, iv 1, rv a_PARTIAL_SUCCESS, .unset] [(.int 1), (.int 3), (.ref b99), (.ref b99)])) rfl rfl (hb hby at_32)
    have B119 : Arv Z h119 b99 c99 .boolean (6 : Int32) [(.int 1), (.int 0), (.int 0), (.int 1), (.int 0), (.int 0)] (.int 0) := Arv.set Ar118 q118 S118 M118 H118 G118 (fits_nar_bool _) W119 3 rfl (Nat.le_of_ble_eq_true rfl)
    have N119 := Fr.snoc X119 N114 g_b99
    have O_120 := O_115.wr W119 g_b99
    have K_121 := K_116.wr W119 (Or.inr sz_b99)
    have k_122 : Go p.tables e below (s₁.setTop (entryFrame m #[(.int q1)] maxLocals)) (T119.setTop (mkF m 36 #[iv q1, iv 1, rv a_PARTIAL_SUCCESS, .unset] [(.int 0), (.int 4), (.ref b99), (.ref b99)])) := fun t q => by
      refine k_117 t ?_
      refine st119 _ ?_
      show Steps _ _ _ (T119.setTop (mkF m 33 #[iv q1, iv 1, rv a_PARTIAL_SUCCESS, .unset] [(.ref b99)])) _
      refine XS.dup X119.here hx rfl (hb hby at_33) rfl rfl ?_
      show Steps _ _ _ (T119.setTop (mkF m 34 #[iv q1, iv 1, rv a_PARTIAL_SUCCESS, .unset] [(.ref b99), (.ref b99)])) _
      refine XS.iconst X119.here hx rfl (hb hby at_34) ?_
      show Steps _ _ _ (T119.setTop (mkF m 35 #[iv q1, iv 1, rv a_PARTIAL_SUCCESS, .unset] [(.int 4), (.ref b99), (.ref b99)])) _
      refine XS.iconst X119.here hx rfl (hb hby at_35) ?_
      show Steps _ _ _ (T119.setTop (mkF m 36 #[iv q1, iv 1, rv a_PARTIAL_SUCCESS, .unset] [(.int 0), (.int 4), (.ref b99), (.ref b99)])) _
      exact q
    obtain ⟨cl123, Ar123, q123, S123, M123, H123, G123⟩ := B119
    have hin123 : ¬ ((4 : Int32) < 0 ∨ cl123.slots.size ≤ ((4 : Int32)).toNatClampNeg) := inb_of S123 ⟨by decide, by decide⟩
    obtain ⟨T124, h124, X124, e124, W124, st124⟩ := stZ X119 hx hZ e119 Ar123 (j := (4 : Int32)) hin123 (g := (mkF m 36 #[iv q1, iv 1, rv a_PARTIAL_SUCCESS, .unset] [(.int 0), (.int 4), (.ref b99), (.ref b99)])) rfl rfl (hb hby at_36)
    have B124 : Arv Z h124 b99 c99 .boolean (6 : Int32) [(.int 1), (.int 0), (.int 0), (.int 1), (.int 0), (.int 0)] (.int 0) := Arv.set Ar123 q123 S123 M123 H123 G123 (fits_nar_bool _) W124 4 rfl (Nat.le_of_ble_eq_true rfl)
    have N124 := Fr.snoc X124 N119 g_b99
    have O_125 := O_120.wr W124 g_b99
    have K_126 := K_121.wr W124 (Or.inr sz_b99)
    have k_127 : Go p.tables e below (s₁.setTop (entryFrame m #[(.int q1)] maxLocals)) (T124.setTop (mkF m 40 #[iv q1, iv 1, rv a_PARTIAL_SUCCESS, .unset] [(.int 1), (.int 5), (.ref b99), (.ref b99)])) := fun t q => by
      refine k_122 t ?_
      refine st124 _ ?_
      show Steps _ _ _ (T124.setTop (mkF m 37 #[iv q1, iv 1, rv a_PARTIAL_SUCCESS, .unset] [(.ref b99)])) _
      refine XS.dup X124.here hx rfl (hb hby at_37) rfl rfl ?_
      show Steps _ _ _ (T124.setTop (mkF m 38 #[iv q1, iv 1, rv a_PARTIAL_SUCCESS, .unset] [(.ref b99), (.ref b99)])) _
      refine XS.iconst X124.here hx rfl (hb hby at_38) ?_
      show Steps _ _ _ (T124.setTop (mkF m 39 #[iv q1, iv 1, rv a_PARTIAL_SUCCESS, .unset] [(.int 5), (.ref b99), (.ref b99)])) _
      refine XS.iconst X124.here hx rfl (hb hby at_39) ?_
      show Steps _ _ _ (T124.setTop (mkF m 40 #[iv q1, iv 1, rv a_PARTIAL_SUCCESS, .unset] [(.int 1), (.int 5), (.ref b99), (.ref b99)])) _
      exact q
    obtain ⟨cl128, Ar128, q128, S128, M128, H128, G128⟩ := B124
    have hin128 : ¬ ((5 : Int32) < 0 ∨ cl128.slots.size ≤ ((5 : Int32)).toNatClampNeg) := inb_of S128 ⟨by decide, by decide⟩
    obtain ⟨T129, h129, X129, e129, W129, st129⟩ := stZ X124 hx hZ e124 Ar128 (j := (5 : Int32)) hin128 (g := (mkF m 40 #[iv q1, iv 1, rv a_PARTIAL_SUCCESS, .unset] [(.int 1), (.int 5), (.ref b99), (.ref b99)])) rfl rfl (hb hby at_40)
    have B129 : Arv Z h129 b99 c99 .boolean (6 : Int32) [(.int 1), (.int 0), (.int 0), (.int 1), (.int 0), (.int 1)] (.int 0) := Arv.set Ar128 q128 S128 M128 H128 G128 (fits_nar_bool _) W129 5 rfl (Nat.le_of_ble_eq_true rfl)
    have N129 := Fr.snoc X129 N124 g_b99
    have O_130 := O_125.wr W129 g_b99
    have K_131 := K_126.wr W129 (Or.inr sz_b99)
    have k_132 : Go p.tables e below (s₁.setTop (entryFrame m #[(.int q1)] maxLocals)) (T129.setTop (mkF m 43 #[iv q1, iv 1, rv a_PARTIAL_SUCCESS, rv b99] [(.ref a_PARTIAL_SUCCESS)])) := fun t q => by
      refine k_127 t ?_
      refine st129 _ ?_
      show Steps _ _ _ (T129.setTop (mkF m 41 #[iv q1, iv 1, rv a_PARTIAL_SUCCESS, .unset] [(.ref b99)])) _
      refine XS.astoreN X129.here hx rfl (hb hby at_41) rfl rfl (l' := #[iv q1, iv 1, rv a_PARTIAL_SUCCESS, rv b99]) rfl ?_
      show Steps _ _ _ (T129.setTop (mkF m 42 #[iv q1, iv 1, rv a_PARTIAL_SUCCESS, rv b99] [])) _
      refine XS.aloadN X129.here hx rfl (hb hby at_42) rfl rfl ?_
      show Steps _ _ _ (T129.setTop (mkF m 43 #[iv q1, iv 1, rv a_PARTIAL_SUCCESS, rv b99] [(.ref a_PARTIAL_SUCCESS)])) _
      exact q
    obtain ⟨cq133, kq133, q133a, q133b, q133c⟩ := isOf hZ e129 (Exa.ext O_130.2 E_PARTIAL_SUCCESS)
    obtain ⟨_, _, ⟨T133, L133, k133, n133⟩, -, X133, ⟨Lc133, hQ133, l133, y133, z133⟩, st133⟩ := X129.virtualBack hx (y := y_1) (z := y_1) hown (mvT hZ (hw _ (wd 9 rfl))) (mvT hZ (hw _ (wd 10 rfl))) (notFace_of_selects (args := #[]) (mvT hZ (hw _ (wd 12 rfl)))) (mvT hZ (hw _ (wd 12 rfl))) (mvT hZ (hw _ (wd 11 rfl))) (by decide) (backOf (W := 0) (er_1 l Z a0 hw [] a_SUCCESS a_FAIL a_RETRY a_CANCELLED a_PARTIAL_SUCCESS a_SKIPPED G  h129 n0 O_130 ) hZ (hw _ (wd 13 rfl)) (hw _ (wd 6 rfl)) (by decide) (by decide)) q133a q133c (g := (mkF m 43 #[iv q1, iv 1, rv a_PARTIAL_SUCCESS, rv b99] [(.ref a_PARTIAL_SUCCESS)])) rfl (by rw [hml]; rfl) (Steps.refl _) (argsL := []) (rest := []) (lenOf pd_1 rfl) rfl (by show 2 * 0 + _ ≤ _; exact Nat.le_of_eq rfl) (hb hby at_43) (fun _ _ => ⟨rfl, e129, (by decide : 1 + 0 ≤ _), (by decide : 6 + 0 ≤ _)⟩)
    dsimp only [Pt.U, Pt.locs, Pt.cells, Pt.slots] at X133 l133 y133 z133 st133 hQ133
    subst l133 y133 z133
    obtain ⟨rfl, N133q, e133⟩ := hQ133
    have N133 := Fr.app N129 N133q
    have k_134 : Go p.tables e below (s₁.setTop (entryFrame m #[(.int q1)] maxLocals)) (T133.setTop (mkF m 48 #[iv q1, iv 1, rv a_PARTIAL_SUCCESS, rv b99] [(.int 1), (.ref b99), (.int 0)])) := fun t q => by
      refine k_132 t ?_
      refine st133.trans ?_
      show Steps _ _ _ (T133.setTop (mkF m 46 #[iv q1, iv 1, rv a_PARTIAL_SUCCESS, rv b99] [(.int 0)])) _
      refine XS.aloadN X133.here hx rfl (hb hby at_46) rfl rfl ?_
      show Steps _ _ _ (T133.setTop (mkF m 47 #[iv q1, iv 1, rv a_PARTIAL_SUCCESS, rv b99] [(.ref b99), (.int 0)])) _
      refine XS.iloadN X133.here hx rfl (hb hby at_47) rfl ?_
      show Steps _ _ _ (T133.setTop (mkF m 48 #[iv q1, iv 1, rv a_PARTIAL_SUCCESS, rv b99] [(.int 1), (.ref b99), (.int 0)])) _
      exact q
    obtain ⟨cl135, Ar135, q135, S135, M135, H135, G135⟩ := B129
    have hin135 : ¬ ((1 : Int32) < 0 ∨ cl135.slots.size ≤ ((1 : Int32)).toNatClampNeg) := inb_of S135 ⟨by decide, by decide⟩
    have hat135 : cl135.slots[((1 : Int32)).toNatClampNeg]? = some (.int 0) := Has.at H135 hin135 rfl
    have k_136 : Go p.tables e below (s₁.setTop (entryFrame m #[(.int q1)] maxLocals)) (T133.setTop (mkF m 57 #[iv q1, iv 1, rv a_PARTIAL_SUCCESS, rv b99] [(.int 1)])) := fun t q => by
      refine k_134 t ?_
      refine X133.baloadBooleans hx (j := (1 : Int32)) (v := (.int 0)) (by rw [e133]; exact Ar135.1) (State.isArrayOf_alike hZ.alike Ar135.2.1) Ar135.2.2 hin135 hat135 (g := (mkF m 48 #[iv q1, iv 1, rv a_PARTIAL_SUCCESS, rv b99] [(.int 1), (.ref b99), (.int 0)])) rfl rfl (hb hby at_48) _ ?_
      show Steps _ _ _ (T133.setTop (mkF m 49 #[iv q1, iv 1, rv a_PARTIAL_SUCCESS, rv b99] [(.int 0), (.int 0)])) _
      refine XS.icmpNo X133.here hx rfl (hb hby at_49) rfl (by decide) ?_
      show Steps _ _ _ (T133.setTop (mkF m 52 #[iv q1, iv 1, rv a_PARTIAL_SUCCESS, rv b99] [])) _
      refine XS.iconst X133.here hx rfl (hb hby at_52) ?_
      show Steps _ _ _ (T133.setTop (mkF m 53 #[iv q1, iv 1, rv a_PARTIAL_SUCCESS, rv b99] [(.int 1)])) _
      refine XS.goto X133.here hx rfl (pc0 := 53) (pc' := 57) rfl (hb hby at_53) (by decide) (by decide) ?_
      show Steps _ _ _ (T133.setTop (mkF m 57 #[iv q1, iv 1, rv a_PARTIAL_SUCCESS, rv b99] [(.int 1)])) _
      exact q
    obtain ⟨fs, hr, hrun, hended, hW, hsame⟩ := X133.leave (v := some (.int 1)) (fun h => by rw [Bd.returns] at h; cases h)
    refine ⟨_, _, k_136 _ ?_, hrun, hended, _, _, rfl, ?_, ⟨_, rfl⟩, hW, hsame.mono (by decide) (by decide)⟩
    · exact retN X133 hx (t := .boolean) Bd.returns (by simp) (hb hby at_57) hr
    · show Q0 n0 _ T133.heap _
      rw [e133]
      exact ⟨rfl, N133⟩
  · skip
    have k_137 : Go p.tables e below (s₁.setTop (entryFrame m #[(.int q1)] maxLocals)) (s₁.setTop (mkF m 9 #[iv q1, iv 2, .unset, .unset] [(.int 2)])) := fun t q => by
      refine k0 t ?_
      refine XS.iloadN X0.here hx rfl (hb hby at_0) rfl ?_
      show Steps _ _ _ (s₁.setTop (mkF m 1 #[iv q1, .unset, .unset, .unset] [(.int q1)])) _
      refine X0.ldcInt hx hown (mvT hZ (hw _ (wd 0 rfl))) (g := (mkF m 1 #[iv q1, .unset, .unset, .unset] [(.int q1)])) rfl (hb hby at_1) _ ?_
      show Steps _ _ _ (s₁.setTop (mkF m 3 #[iv q1, .unset, .unset, .unset] [(.int 2147483647), (.int q1)])) _
      refine XS.iand X0.here hx rfl (hb hby at_3) rfl ?_
      show Steps _ _ _ (s₁.setTop (mkF m 4 #[iv q1, .unset, .unset, .unset] [(.int (q1 &&& (2147483647 : Int32)))])) _
      refine XS.bipush X0.here hx rfl (hb hby at_4) ?_
      show Steps _ _ _ (s₁.setTop (mkF m 6 #[iv q1, .unset, .unset, .unset] [(.int 6), (.int (q1 &&& (2147483647 : Int32)))])) _
      refine iremM (g := (mkF m 6 #[iv q1, .unset, .unset, .unset] [(.int 6), (.int (q1 &&& (2147483647 : Int32)))])) X0 hx rfl (hb hby at_6) rfl (by decide) ?_
      show Steps _ _ _ (s₁.setTop (mkF m 7 #[iv q1, .unset, .unset, .unset] [(.int ((q1 &&& (2147483647 : Int32)) % (6 : Int32)))])) _
      rw [hi]
      show Steps _ _ _ (s₁.setTop (mkF m 7 #[iv q1, .unset, .unset, .unset] [(.int 2)])) _
      refine XS.istoreN X0.here hx rfl (hb hby at_7) rfl (l' := #[iv q1, iv 2, .unset, .unset]) rfl ?_
      show Steps _ _ _ (s₁.setTop (mkF m 8 #[iv q1, iv 2, .unset, .unset] [])) _
      refine XS.iloadN X0.here hx rfl (hb hby at_8) rfl ?_
      show Steps _ _ _ (s₁.setTop (mkF m 9 #[iv q1, iv 2, .unset, .unset] [(.int 2)])) _
      exact q
    obtain ⟨_, _, ⟨T138, L138, k138, n138⟩, -, X138, ⟨Lc138, hQ138, l138, y138, z138⟩, st138⟩ := Jvm.LawKit.callS X0 hx (y := y_0) hown (mvT hZ (hw _ (wd 1 rfl))) (mvT hZ (hw _ (wd 2 rfl))) (mvT hZ (hw _ (wd 3 rfl))) (mvT hZ (hw _ (wd 4 rfl))) (by decide) (backOf (W := 0) (pk_2 l Z a0 hw [] a_SUCCESS a_FAIL a_RETRY a_CANCELLED a_PARTIAL_SUCCESS a_SKIPPED G  h0 n0 O0 ) hZ (hw _ (wd 4 rfl)) (hw _ (wd 3 rfl)) (by decide) (by decide)) (g := (mkF m 9 #[iv q1, iv 2, .unset, .unset] [(.int 2)])) rfl (by rw [hml]; rfl) (argsL := [(.int 2)]) (rest := []) (lenOf pd_0 rfl) rfl (by show 2 * 0 + _ ≤ _; exact Nat.le_of_eq rfl) (hb hby at_9) (fun _ _ => ⟨rfl, e0, (by decide : 0 + 0 ≤ _), (by decide : 0 + 0 ≤ _)⟩)
    dsimp only [Pt.U, Pt.locs, Pt.cells, Pt.slots] at X138 l138 y138 z138 st138 hQ138
    subst l138 y138 z138
    obtain ⟨rfl, N138q, e138⟩ := hQ138
    have N138 := Fr.app N0 N138q
    have k_139 : Go p.tables e below (s₁.setTop (entryFrame m #[(.int q1)] maxLocals)) (T138.setTop (mkF m 15 #[iv q1, iv 2, rv a_RETRY, .unset] [(.int 6)])) := fun t q => by
      refine k_137 t ?_
      refine st138 _ ?_
      show Steps _ _ _ (T138.setTop (mkF m 12 #[iv q1, iv 2, .unset, .unset] [(.ref a_RETRY)])) _
      refine XS.astoreN X138.here hx rfl (hb hby at_12) rfl rfl (l' := #[iv q1, iv 2, rv a_RETRY, .unset]) rfl ?_
      show Steps _ _ _ (T138.setTop (mkF m 13 #[iv q1, iv 2, rv a_RETRY, .unset] [])) _
      refine XS.bipush X138.here hx rfl (hb hby at_13) ?_
      show Steps _ _ _ (T138.setTop (mkF m 15 #[iv q1, iv 2, rv a_RETRY, .unset] [(.int 6)])) _
      exact q
    obtain ⟨T140, h140, c140, X140, e140, E140, A140, st140⟩ := newP X138 hx hZ (hw _ (wd 8 rfl)) e138 (g := (mkF m 15 #[iv q1, iv 2, rv a_RETRY, .unset] [(.int 6)])) rfl (hb hby at_15) rfl (by decide) (cap := 6) (by decide) (by decide) (by decide) (by decide)
    obtain ⟨b140, g140⟩ : ∃ z, z = h0.size := ⟨_, rfl⟩
    rw [← g140] at A140 st140
    have g_b140 : n0 ≤ b140 := Nat.le_trans (own_old_le O0) (Nat.le_of_eq g140.symm)
    have sz_b140 : h0.size ≤ b140 := Nat.le_trans K0.1 (Nat.le_of_eq g140.symm)
    have O_141 := O0.ext E140
    have K_142 := K0.ext E140
    have B140 : Arv Z h140 b140 c140 .boolean (6 : Int32) [(.int 0), (.int 0), (.int 0), (.int 0), (.int 0), (.int 0)] (.int 0) := (Arv.new A140 (by decide)).pad (pad_rep [] (.int 0) 6)
    have k_143 : Go p.tables e below (s₁.setTop (entryFrame m #[(.int q1)] maxLocals)) (T140.setTop (mkF m 20 #[iv q1, iv 2, rv a_RETRY, .unset] [(.int 1), (.int 0), (.ref b140), (.ref b140)])) := fun t q => by
      refine k_139 t ?_
      refine st140 _ ?_
      show Steps _ _ _ (T140.setTop (mkF m 17 #[iv q1, iv 2, rv a_RETRY, .unset] [(.ref b140)])) _
      refine XS.dup X140.here hx rfl (hb hby at_17) rfl rfl ?_
      show Steps _ _ _ (T140.setTop (mkF m 18 #[iv q1, iv 2, rv a_RETRY, .unset] [(.ref b140), (.ref b140)])) _
      refine XS.iconst X140.here hx rfl (hb hby at_18) ?_
      show Steps _ _ _ (T140.setTop (mkF m 19 #[iv q1, iv 2, rv a_RETRY, .unset] [(.int 0), (.ref b140), (.ref b140)])) _
      refine XS.iconst X140.here hx rfl (hb hby at_19) ?_
      show Steps _ _ _ (T140.setTop (mkF m 20 #[iv q1, iv 2, rv a_RETRY, .unset] [(.int 1), (.int 0), (.ref b140), (.ref b140)])) _
      exact q
    obtain ⟨cl144, Ar144, q144, S144, M144, H144, G144⟩ := B140
    have hin144 : ¬ ((0 : Int32) < 0 ∨ cl144.slots.size ≤ ((0 : Int32)).toNatClampNeg) := inb_of S144 ⟨by decide, by decide⟩
    obtain ⟨T145, h145, X145, e145, W145, st145⟩ := stZ X140 hx hZ e140 Ar144 (j := (0 : Int32)) hin144 (g := (mkF m 20 #[iv q1, iv 2, rv a_RETRY, .unset] [(.int 1), (.int 0), (.ref b140), (.ref b140)])) rfl rfl (hb hby at_20)
    have B145 : Arv Z h145 b140 c140 .boolean (6 : Int32) [(.int 1), (.int 0), (.int 0), (.int 0), (.int 0), (.int 0)] (.int 0) := Arv.set Ar144 q144 S144 M144 H144 G144 (fits_nar_bool _) W145 0 rfl (Nat.le_of_ble_eq_true rfl)
    have N145 := Fr.snoc X145 N138 g_b140
    have O_146 := O_141.wr W145 g_b140
    have K_147 := K_142.wr W145 (Or.inr sz_b140)
    have k_148 : Go p.tables e below (s₁.setTop (entryFrame m #[(.int q1)] maxLocals)) (T145.setTop (mkF m 24 #[iv q1, iv 2, rv a_RETRY, .unset] [(.int 0), (.int 1), (.ref b140), (.ref b140)])) := fun t q => by
      refine k_143 t ?_
      refine st145 _ ?_
      show Steps _ _ _ (T145.setTop (mkF m 21 #[iv q1, iv 2, rv a_RETRY, .unset] [(.ref b140)])) _
      refine XS.dup X145.here hx rfl (hb hby at_21) rfl rfl ?_
      show Steps _ _ _ (T145.setTop (mkF m 22 #[iv q1, iv 2, rv a_RETRY, .unset] [(.ref b140), (.ref b140)])) _
      refine XS.iconst X145.here hx rfl (hb hby at_22) ?_
      show Steps _ _ _ (T145.setTop (mkF m 23 #[iv q1, iv 2, rv a_RETRY, .unset] [(.int 1), (.ref b140), (.ref b140)])) _
      refine XS.iconst X145.here hx rfl (hb hby at_23) ?_
      show Steps _ _ _ (T145.setTop (mkF m 24 #[iv q1, iv 2, rv a_RETRY, .unset] [(.int 0), (.int 1), (.ref b140), (.ref b140)])) _
      exact q
    obtain ⟨cl149, Ar149, q149, S149, M149, H149, G149⟩ := B145
    have hin149 : ¬ ((1 : Int32) < 0 ∨ cl149.slots.size ≤ ((1 : Int32)).toNatClampNeg) := inb_of S149 ⟨by decide, by decide⟩
    obtain ⟨T150, h150, X150, e150, W150, st150⟩ := stZ X145 hx hZ e145 Ar149 (j := (1 : Int32)) hin149 (g := (mkF m 24 #[iv q1, iv 2, rv a_RETRY, .unset] [(.int 0), (.int 1), (.ref b140), (.ref b140)])) rfl rfl (hb hby at_24)
    have B150 : Arv Z h150 b140 c140 .boolean (6 : Int32) [(.int 1), (.int 0), (.int 0), (.int 0), (.int 0), (.int 0)] (.int 0) := Arv.set Ar149 q149 S149 M149 H149 G149 (fits_nar_bool _) W150 1 rfl (Nat.le_of_ble_eq_true rfl)
    have N150 := Fr.snoc X150 N145 g_b140
    have O_151 := O_146.wr W150 g_b140
    have K_152 := K_147.wr W150 (Or.inr sz_b140)
    have k_153 : Go p.tables e below (s₁.setTop (entryFrame m #[(.int q1)] maxLocals)) (T150.setTop (mkF m 28 #[iv q1, iv 2, rv a_RETRY, .unset] [(.int 0), (.int 2), (.ref b140), (.ref b140)])) := fun t q => by
      refine k_148 t ?_
      refine st150 _ ?_
      show Steps _ _ _ (T150.setTop (mkF m 25 #[iv q1, iv 2, rv a_RETRY, .unset] [(.ref b140)])) _
      refine XS.dup X150.here hx rfl (hb hby at_25) rfl rfl ?_
      show Steps _ _ _ (T150.setTop (mkF m 26 #[iv q1, iv 2, rv a_RETRY, .unset] [(.ref b140), (.ref b140)])) _
      refine XS.iconst X150.here hx rfl (hb hby at_26) ?_
      show Steps _ _ _ (T150.setTop (mkF m 27 #[iv q1, iv 2, rv a_RETRY, .unset] [(.int 2), (.ref b140), (.ref b140)])) _
      refine XS.iconst X150.here hx rfl (hb hby at_27) ?_
      show Steps _ _ _ (T150.setTop (mkF m 28 #[iv q1, iv 2, rv a_RETRY, .unset] [(.int 0), (.int 2), (.ref b140), (.ref b140)])) _
      exact q
    obtain ⟨cl154, Ar154, q154, S154, M154, H154, G154⟩ := B150
    have hin154 : ¬ ((2 : Int32) < 0 ∨ cl154.slots.size ≤ ((2 : Int32)).toNatClampNeg) := inb_of S154 ⟨by decide, by decide⟩
    obtain ⟨T155, h155, X155, e155, W155, st155⟩ := stZ X150 hx hZ e150 Ar154 (j := (2 : Int32)) hin154 (g := (mkF m 28 #[iv q1, iv 2, rv a_RETRY, .unset] [(.int 0), (.int 2), (.ref b140), (.ref b140)])) rfl rfl (hb hby at_28)
    have B155 : Arv Z h155 b140 c140 .boolean (6 : Int32) [(.int 1), (.int 0), (.int 0), (.int 0), (.int 0), (.int 0)] (.int 0) := Arv.set Ar154 q154 S154 M154 H154 G154 (fits_nar_bool _) W155 2 rfl (Nat.le_of_ble_eq_true rfl)
    have N155 := Fr.snoc X155 N150 g_b140
    have O_156 := O_151.wr W155 g_b140
    have K_157 := K_152.wr W155 (Or.inr sz_b140)
    have k_158 : Go p.tables e below (s₁.setTop (entryFrame m #[(.int q1)] maxLocals)) (T155.setTop (mkF m 32 #[iv q1, iv 2, rv a_RETRY, .unset] [(.int 1), (.int 3), (.ref b140), (.ref b140)])) := fun t q => by
      refine k_153 t ?_
      refine st155 _ ?_
      show Steps _ _ _ (T155.setTop (mkF m 29 #[iv q1, iv 2, rv a_RETRY, .unset] [(.ref b140)])) _
      refine XS.dup X155.here hx rfl (hb hby at_29) rfl rfl ?_
      show Steps _ _ _ (T155.setTop (mkF m 30 #[iv q1, iv 2, rv a_RETRY, .unset] [(.ref b140), (.ref b140)])) _
      refine XS.iconst X155.here hx rfl (hb hby at_30) ?_
      show Steps _ _ _ (T155.setTop (mkF m 31 #[iv q1, iv 2, rv a_RETRY, .unset] [(.int 3), (.ref b140), (.ref b140)])) _
      refine XS.iconst X155.here hx rfl (hb hby at_31) ?_
      show Steps _ _ _ (T155.setTop (mkF m 32 #[iv q1, iv 2, rv a_RETRY, .unset] [(.int 1), (.int 3), (.ref b140), (.ref b140)])) _
      exact q
    obtain ⟨cl159, Ar159, q159, S159, M159, H159, G159⟩ := B155
    have hin159 : ¬ ((3 : Int32) < 0 ∨ cl159.slots.size ≤ ((3 : Int32)).toNatClampNeg) := inb_of S159 ⟨by decide, by decide⟩
    obtain ⟨T160, h160, X160, e160, W160, st160⟩ := stZ X155 hx hZ e155 Ar159 (j := (3 : Int32)) hin159 (g := (mkF m 32 #[iv q1, iv 2, rv a_RETRY, .unset] [(.int 1), (.int 3), (.ref b140), (.ref b140)])) rfl rfl (hb hby at_32)
    have B160 : Arv Z h160 b140 c140 .boolean (6 : Int32) [(.int 1), (.int 0), (.int 0), (.int 1), (.int 0), (.int 0)] (.int 0) := Arv.set Ar159 q159 S159 M159 H159 G159 (fits_nar_bool _) W160 3 rfl (Nat.le_of_ble_eq_true rfl)
    have N160 := Fr.snoc X160 N155 g_b140
    have O_161 := O_156.wr W160 g_b140
    have K_162 := K_157.wr W160 (Or.inr sz_b140)
    have k_163 : Go p.tables e below (s₁.setTop (entryFrame m #[(.int q1)] maxLocals)) (T160.setTop (mkF m 36 #[iv q1, iv 2, rv a_RETRY, .unset] [(.int 0), (.int 4), (.ref b140), (.ref b140)])) := fun t q => by
      refine k_158 t ?_
      refine st160 _ ?_
      show Steps _ _ _ (T160.setTop (mkF m 33 #[iv q1, iv 2, rv a_RETRY, .unset] [(.ref b140)])) _
      refine XS.dup X160.here hx rfl (hb hby at_33) rfl rfl ?_
      show Steps _ _ _ (T160.setTop (mkF m 34 #[iv q1, iv 2, rv a_RETRY, .unset] [(.ref b140), (.ref b140)])) _
      refine XS.iconst X160.here hx rfl (hb hby at_34) ?_
      show Steps _ _ _ (T160.setTop (mkF m 35 #[iv q1, iv 2, rv a_RETRY, .unset] [(.int 4), (.ref b140), (.ref b140)])) _
      refine XS.iconst X160.here hx rfl (hb hby at_35) ?_
      show Steps _ _ _ (T160.setTop (mkF m 36 #[iv q1, iv 2, rv a_RETRY, .unset] [(.int 0), (.int 4), (.ref b140), (.ref b140)])) _
      exact q
    obtain ⟨cl164, Ar164, q164, S164, M164, H164, G164⟩ := B160
    have hin164 : ¬ ((4 : Int32) < 0 ∨ cl164.slots.size ≤ ((4 : Int32)).toNatClampNeg) := inb_of S164 ⟨by decide, by decide⟩
    obtain ⟨T165, h165, X165, e165, W165, st165⟩ := stZ X160 hx hZ e160 Ar164 (j := (4 : Int32)) hin164 (g := (mkF m 36 #[iv q1, iv 2, rv a_RETRY, .unset] [(.int 0), (.int 4), (.ref b140), (.ref b140)])) rfl rfl (hb hby at_36)
    have B165 : Arv Z h165 b140 c140 .boolean (6 : Int32) [(.int 1), (.int 0), (.int 0), (.int 1), (.int 0), (.int 0)] (.int 0) := Arv.set Ar164 q164 S164 M164 H164 G164 (fits_nar_bool _) W165 4 rfl (Nat.le_of_ble_eq_true rfl)
    have N165 := Fr.snoc X165 N160 g_b140
    have O_166 := O_161.wr W165 g_b140
    have K_167 := K_162.wr W165 (Or.inr sz_b140)
    have k_168 : Go p.tables e below (s₁.setTop (entryFrame m #[(.int q1)] maxLocals)) (T165.setTop (mkF m 40 #[iv q1, iv 2, rv a_RETRY, .unset] [(.int 1), (.int 5), (.ref b140), (.ref b140)])) := fun t q => by
      refine k_163 t ?_
      refine st165 _ ?_
      show Steps _ _ _ (T165.setTop (mkF m 37 #[iv q1, iv 2, rv a_RETRY, .unset] [(.ref b140)])) _
      refine XS.dup X165.here hx rfl (hb hby at_37) rfl rfl ?_
      show Steps _ _ _ (T165.setTop (mkF m 38 #[iv q1, iv 2, rv a_RETRY, .unset] [(.ref b140), (.ref b140)])) _
      refine XS.iconst X165.here hx rfl (hb hby at_38) ?_
      show Steps _ _ _ (T165.setTop (mkF m 39 #[iv q1, iv 2, rv a_RETRY, .unset] [(.int 5), (.ref b140), (.ref b140)])) _
      refine XS.iconst X165.here hx rfl (hb hby at_39) ?_
      show Steps _ _ _ (T165.setTop (mkF m 40 #[iv q1, iv 2, rv a_RETRY, .unset] [(.int 1), (.int 5), (.ref b140), (.ref b140)])) _
      exact q
    obtain ⟨cl169, Ar169, q169, S169, M169, H169, G169⟩ := B165
    have hin169 : ¬ ((5 : Int32) < 0 ∨ cl169.slots.size ≤ ((5 : Int32)).toNatClampNeg) := inb_of S169 ⟨by decide, by decide⟩
    obtain ⟨T170, h170, X170, e170, W170, st170⟩ := stZ X165 hx hZ e165 Ar169 (j := (5 : Int32)) hin169 (g := (mkF m 40 #[iv q1, iv 2, rv a_RETRY, .unset] [(.int 1), (.int 5), (.ref b140), (.ref b140)])) rfl rfl (hb hby at_40)
    have B170 : Arv Z h170 b140 c140 .boolean (6 : Int32) [(.int 1), (.int 0), (.int 0), (.int 1), (.int 0), (.int 1)] (.int 0) := Arv.set Ar169 q169 S169 M169 H169 G169 (fits_nar_bool _) W170 5 rfl (Nat.le_of_ble_eq_true rfl)
    have N170 := Fr.snoc X170 N165 g_b140
    have O_171 := O_166.wr W170 g_b140
    have K_172 := K_167.wr W170 (Or.inr sz_b140)
    have k_173 : Go p.tables e below (s₁.setTop (entryFrame m #[(.int q1)] maxLocals)) (T170.setTop (mkF m 43 #[iv q1, iv 2, rv a_RETRY, rv b140] [(.ref a_RETRY)])) := fun t q => by
      refine k_168 t ?_
      refine st170 _ ?_
      show Steps _ _ _ (T170.setTop (mkF m 41 #[iv q1, iv 2, rv a_RETRY, .unset] [(.ref b140)])) _
      refine XS.astoreN X170.here hx rfl (hb hby at_41) rfl rfl (l' := #[iv q1, iv 2, rv a_RETRY, rv b140]) rfl ?_
      show Steps _ _ _ (T170.setTop (mkF m 42 #[iv q1, iv 2, rv a_RETRY, rv b140] [])) _
      refine XS.aloadN X170.here hx rfl (hb hby at_42) rfl rfl ?_
      show Steps _ _ _ (T170.setTop (mkF m 43 #[iv q1, iv 2, rv a_RETRY, rv b140] [(.ref a_RETRY)])) _
      exact q
    obtain ⟨cq174, kq174, q174a, q174b, q174c⟩ := isOf hZ e170 (Exa.ext O_171.2 E_RETRY)
    obtain ⟨_, _, ⟨T174, L174, k174, n174⟩, -, X174, ⟨Lc174, hQ174, l174, y174, z174⟩, st174⟩ := X170.virtualBack hx (y := y_1) (z := y_1) hown (mvT hZ (hw _ (wd 9 rfl))) (mvT hZ (hw _ (wd 10 rfl))) (notFace_of_selects (args := #[]) (mvT hZ (hw _ (wd 12 rfl)))) (mvT hZ (hw _ (wd 12 rfl))) (mvT hZ (hw _ (wd 11 rfl))) (by decide) (backOf (W := 0) (er_2 l Z a0 hw [] a_SUCCESS a_FAIL a_RETRY a_CANCELLED a_PARTIAL_SUCCESS a_SKIPPED G  h170 n0 O_171 ) hZ (hw _ (wd 13 rfl)) (hw _ (wd 6 rfl)) (by decide) (by decide)) q174a q174c (g := (mkF m 43 #[iv q1, iv 2, rv a_RETRY, rv b140] [(.ref a_RETRY)])) rfl (by rw [hml]; rfl) (Steps.refl _) (argsL := []) (rest := []) (lenOf pd_1 rfl) rfl (by show 2 * 0 + _ ≤ _; exact Nat.le_of_eq rfl) (hb hby at_43) (fun _ _ => ⟨rfl, e170, (by decide : 1 + 0 ≤ _), (by decide : 6 + 0 ≤ _)⟩)
    dsimp only [Pt.U, Pt.locs, Pt.cells, Pt.slots] at X174 l174 y174 z174 st174 hQ174
    subst l174 y174 z174
    obtain ⟨rfl, N174q, e174⟩ := hQ174
    have N174 := Fr.app N170 N174q
    have k_175 : Go p.tables e below (s₁.setTop (entryFrame m #[(.int q1)] maxLocals)) (T174.setTop (mkF m 48 #[iv q1, iv 2, rv a_RETRY, rv b140] [(.int 2), (.ref b140), (.int 0)])) := fun t q => by
      refine k_173 t ?_
      refine st174.trans ?_
      show Steps _ _ _ (T174.setTop (mkF m 46 #[iv q1, iv 2, rv a_RETRY, rv b140] [(.int 0)])) _
      refine XS.aloadN X174.here hx rfl (hb hby at_46) rfl rfl ?_
      show Steps _ _ _ (T174.setTop (mkF m 47 #[iv q1, iv 2, rv a_RETRY, rv b140] [(.ref b140), (.int 0)])) _
      refine XS.iloadN X174.here hx rfl (hb hby at_47) rfl ?_
      show Steps _ _ _ (T174.setTop (mkF m 48 #[iv q1, iv 2, rv a_RETRY, rv b140] [(.int 2), (.ref b140), (.int 0)])) _
      exact q
    obtain ⟨cl176, Ar176, q176, S176, M176, H176, G176⟩ := B170
    have hin176 : ¬ ((2 : Int32) < 0 ∨ cl176.slots.size ≤ ((2 : Int32)).toNatClampNeg) := inb_of S176 ⟨by decide, by decide⟩
    have hat176 : cl176.slots[((2 : Int32)).toNatClampNeg]? = some (.int 0) := Has.at H176 hin176 rfl
    have k_177 : Go p.tables e below (s₁.setTop (entryFrame m #[(.int q1)] maxLocals)) (T174.setTop (mkF m 57 #[iv q1, iv 2, rv a_RETRY, rv b140] [(.int 1)])) := fun t q => by
      refine k_175 t ?_
      refine X174.baloadBooleans hx (j := (2 : Int32)) (v := (.int 0)) (by rw [e174]; exact Ar176.1) (State.isArrayOf_alike hZ.alike Ar176.2.1) Ar176.2.2 hin176 hat176 (g := (mkF m 48 #[iv q1, iv 2, rv a_RETRY, rv b140] [(.int 2), (.ref b140), (.int 0)])) rfl rfl (hb hby at_48) _ ?_
      show Steps _ _ _ (T174.setTop (mkF m 49 #[iv q1, iv 2, rv a_RETRY, rv b140] [(.int 0), (.int 0)])) _
      refine XS.icmpNo X174.here hx rfl (hb hby at_49) rfl (by decide) ?_
      show Steps _ _ _ (T174.setTop (mkF m 52 #[iv q1, iv 2, rv a_RETRY, rv b140] [])) _
      refine XS.iconst X174.here hx rfl (hb hby at_52) ?_
      show Steps _ _ _ (T174.setTop (mkF m 53 #[iv q1, iv 2, rv a_RETRY, rv b140] [(.int 1)])) _
      refine XS.goto X174.here hx rfl (pc0 := 53) (pc' := 57) rfl (hb hby at_53) (by decide) (by decide) ?_
      show Steps _ _ _ (T174.setTop (mkF m 57 #[iv q1, iv 2, rv a_RETRY, rv b140] [(.int 1)])) _
      exact q
    obtain ⟨fs, hr, hrun, hended, hW, hsame⟩ := X174.leave (v := some (.int 1)) (fun h => by rw [Bd.returns] at h; cases h)
    refine ⟨_, _, k_177 _ ?_, hrun, hended, _, _, rfl, ?_, ⟨_, rfl⟩, hW, hsame.mono (by decide) (by decide)⟩
    · exact retN X174 hx (t := .boolean) Bd.returns (by simp) (hb hby at_57) hr
    · show Q0 n0 _ T174.heap _
      rw [e174]
      exact ⟨rfl, N174⟩
  · skip
    have k_178 : Go p.tables e below (s₁.setTop (entryFrame m #[(.int q1)] maxLocals)) (s₁.setTop (mkF m 9 #[iv q1, iv 3, .unset, .unset] [(.int 3)])) := fun t q => by
      refine k0 t ?_
      refine XS.iloadN X0.here hx rfl (hb hby at_0) rfl ?_
      show Steps _ _ _ (s₁.setTop (mkF m 1 #[iv q1, .unset, .unset, .unset] [(.int q1)])) _
      refine X0.ldcInt hx hown (mvT hZ (hw _ (wd 0 rfl))) (g := (mkF m 1 #[iv q1, .unset, .unset, .unset] [(.int q1)])) rfl (hb hby at_1) _ ?_
      show Steps _ _ _ (s₁.setTop (mkF m 3 #[iv q1, .unset, .unset, .unset] [(.int 2147483647), (.int q1)])) _
      refine XS.iand X0.here hx rfl (hb hby at_3) rfl ?_
      show Steps _ _ _ (s₁.setTop (mkF m 4 #[iv q1, .unset, .unset, .unset] [(.int (q1 &&& (2147483647 : Int32)))])) _
      refine XS.bipush X0.here hx rfl (hb hby at_4) ?_
      show Steps _ _ _ (s₁.setTop (mkF m 6 #[iv q1, .unset, .unset, .unset] [(.int 6), (.int (q1 &&& (2147483647 : Int32)))])) _
      refine iremM (g := (mkF m 6 #[iv q1, .unset, .unset, .unset] [(.int 6), (.int (q1 &&& (2147483647 : Int32)))])) X0 hx rfl (hb hby at_6) rfl (by decide) ?_
      show Steps _ _ _ (s₁.setTop (mkF m 7 #[iv q1, .unset, .unset, .unset] [(.int ((q1 &&& (2147483647 : Int32)) % (6 : Int32)))])) _
      rw [hi]
      show Steps _ _ _ (s₁.setTop (mkF m 7 #[iv q1, .unset, .unset, .unset] [(.int 3)])) _
      refine XS.istoreN X0.here hx rfl (hb hby at_7) rfl (l' := #[iv q1, iv 3, .unset, .unset]) rfl ?_
      show Steps _ _ _ (s₁.setTop (mkF m 8 #[iv q1, iv 3, .unset, .unset] [])) _
      refine XS.iloadN X0.here hx rfl (hb hby at_8) rfl ?_
      show Steps _ _ _ (s₁.setTop (mkF m 9 #[iv q1, iv 3, .unset, .unset] [(.int 3)])) _
      exact q
    obtain ⟨_, _, ⟨T179, L179, k179, n179⟩, -, X179, ⟨Lc179, hQ179, l179, y179, z179⟩, st179⟩ := Jvm.LawKit.callS X0 hx (y := y_0) hown (mvT hZ (hw _ (wd 1 rfl))) (mvT hZ (hw _ (wd 2 rfl))) (mvT hZ (hw _ (wd 3 rfl))) (mvT hZ (hw _ (wd 4 rfl))) (by decide) (backOf (W := 0) (pk_3 l Z a0 hw [] a_SUCCESS a_FAIL a_RETRY a_CANCELLED a_PARTIAL_SUCCESS a_SKIPPED G  h0 n0 O0 ) hZ (hw _ (wd 4 rfl)) (hw _ (wd 3 rfl)) (by decide) (by decide)) (g := (mkF m 9 #[iv q1, iv 3, .unset, .unset] [(.int 3)])) rfl (by rw [hml]; rfl) (argsL := [(.int 3)]) (rest := []) (lenOf pd_0 rfl) rfl (by show 2 * 0 + _ ≤ _; exact Nat.le_of_eq rfl) (hb hby at_9) (fun _ _ => ⟨rfl, e0, (by decide : 0 + 0 ≤ _), (by decide : 0 + 0 ≤ _)⟩)
    dsimp only [Pt.U, Pt.locs, Pt.cells, Pt.slots] at X179 l179 y179 z179 st179 hQ179
    subst l179 y179 z179
    obtain ⟨rfl, N179q, e179⟩ := hQ179
    have N179 := Fr.app N0 N179q
    have k_180 : Go p.tables e below (s₁.setTop (entryFrame m #[(.int q1)] maxLocals)) (T179.setTop (mkF m 15 #[iv q1, iv 3, rv a_FAIL, .unset] [(.int 6)])) := fun t q => by
      refine k_178 t ?_
      refine st179 _ ?_
      show Steps _ _ _ (T179.setTop (mkF m 12 #[iv q1, iv 3, .unset, .unset] [(.ref a_FAIL)])) _
      refine XS.astoreN X179.here hx rfl (hb hby at_12) rfl rfl (l' := #[iv q1, iv 3, rv a_FAIL, .unset]) rfl ?_
      show Steps _ _ _ (T179.setTop (mkF m 13 #[iv q1, iv 3, rv a_FAIL, .unset] [])) _
      refine XS.bipush X179.here hx rfl (hb hby at_13) ?_
      show Steps _ _ _ (T179.setTop (mkF m 15 #[iv q1, iv 3, rv a_FAIL, .unset] [(.int 6)])) _
      exact q
    obtain ⟨T181, h181, c181, X181, e181, E181, A181, st181⟩ := newP X179 hx hZ (hw _ (wd 8 rfl)) e179 (g := (mkF m 15 #[iv q1, iv 3, rv a_FAIL, .unset] [(.int 6)])) rfl (hb hby at_15) rfl (by decide) (cap := 6) (by decide) (by decide) (by decide) (by decide)
    obtain ⟨b181, g181⟩ : ∃ z, z = h0.size := ⟨_, rfl⟩
    rw [← g181] at A181 st181
    have g_b181 : n0 ≤ b181 := Nat.le_trans (own_old_le O0) (Nat.le_of_eq g181.symm)
    have sz_b181 : h0.size ≤ b181 := Nat.le_trans K0.1 (Nat.le_of_eq g181.symm)
    have O_182 := O0.ext E181
    have K_183 := K0.ext E181
    have B181 : Arv Z h181 b181 c181 .boolean (6 : Int32) [(.int 0), (.int 0), (.int 0), (.int 0), (.int 0), (.int 0)] (.int 0) := (Arv.new A181 (by decide)).pad (pad_rep [] (.int 0) 6)
    have k_184 : Go p.tables e below (s₁.setTop (entryFrame m #[(.int q1)] maxLocals)) (T181.setTop (mkF m 20 #[iv q1, iv 3, rv a_FAIL, .unset] [(.int 1), (.int 0), (.ref b181), (.ref b181)])) := fun t q => by
      refine k_180 t ?_
      refine st181 _ ?_
      show Steps _ _ _ (T181.setTop (mkF m 17 #[iv q1, iv 3, rv a_FAIL, .unset] [(.ref b181)])) _
      refine XS.dup X181.here hx rfl (hb hby at_17) rfl rfl ?_
      show Steps _ _ _ (T181.setTop (mkF m 18 #[iv q1, iv 3, rv a_FAIL, .unset] [(.ref b181), (.ref b181)])) _
      refine XS.iconst X181.here hx rfl (hb hby at_18) ?_
      show Steps _ _ _ (T181.setTop (mkF m 19 #[iv q1, iv 3, rv a_FAIL, .unset] [(.int 0), (.ref b181), (.ref b181)])) _
      refine XS.iconst X181.here hx rfl (hb hby at_19) ?_
      show Steps _ _ _ (T181.setTop (mkF m 20 #[iv q1, iv 3, rv a_FAIL, .unset] [(.int 1), (.int 0), (.ref b181), (.ref b181)])) _
      exact q
    obtain ⟨cl185, Ar185, q185, S185, M185, H185, G185⟩ := B181
    have hin185 : ¬ ((0 : Int32) < 0 ∨ cl185.slots.size ≤ ((0 : Int32)).toNatClampNeg) := inb_of S185 ⟨by decide, by decide⟩
    obtain ⟨T186, h186, X186, e186, W186, st186⟩ := stZ X181 hx hZ e181 Ar185 (j := (0 : Int32)) hin185 (g := (mkF m 20 #[iv q1, iv 3, rv a_FAIL, .unset] [(.int 1), (.int 0), (.ref b181), (.ref b181)])) rfl rfl (hb hby at_20)
    have B186 : Arv Z h186 b181 c181 .boolean (6 : Int32) [(.int 1), (.int 0), (.int 0), (.int 0), (.int 0), (.int 0)] (.int 0) := Arv.set Ar185 q185 S185 M185 H185 G185 (fits_nar_bool _) W186 0 rfl (Nat.le_of_ble_eq_true rfl)
    have N186 := Fr.snoc X186 N179 g_b181
    have O_187 := O_182.wr W186 g_b181
    have K_188 := K_183.wr W186 (Or.inr sz_b181)
    have k_189 : Go p.tables e below (s₁.setTop (entryFrame m #[(.int q1)] maxLocals)) (T186.setTop (mkF m 24 #[iv q1, iv 3, rv a_FAIL, .unset] [(.int 0), (.int 1), (.ref b181), (.ref b181)])) := fun t q => by
      refine k_184 t ?_
      refine st186 _ ?_
      show Steps _ _ _ (T186.setTop (mkF m 21 #[iv q1, iv 3, rv a_FAIL, .unset] [(.ref b181)])) _
      refine XS.dup X186.here hx rfl (hb hby at_21) rfl rfl ?_
      show Steps _ _ _ (T186.setTop (mkF m 22 #[iv q1, iv 3, rv a_FAIL, .unset] [(.ref b181), (.ref b181)])) _
      refine XS.iconst X186.here hx rfl (hb hby at_22) ?_
      show Steps _ _ _ (T186.setTop (mkF m 23 #[iv q1, iv 3, rv a_FAIL, .unset] [(.int 1), (.ref b181), (.ref b181)])) _
      refine XS.iconst X186.here hx rfl (hb hby at_23) ?_
      show Steps _ _ _ (T186.setTop (mkF m 24 #[iv q1, iv 3, rv a_FAIL, .unset] [(.int 0), (.int 1), (.ref b181), (.ref b181)])) _
      exact q
    obtain ⟨cl190, Ar190, q190, S190, M190, H190, G190⟩ := B186
    have hin190 : ¬ ((1 : Int32) < 0 ∨ cl190.slots.size ≤ ((1 : Int32)).toNatClampNeg) := inb_of S190 ⟨by decide, by decide⟩
    obtain ⟨T191, h191, X191, e191, W191, st191⟩ := stZ X186 hx hZ e186 Ar190 (j := (1 : Int32)) hin190 (g := (mkF m 24 #[iv q1, iv 3, rv a_FAIL, .unset] [(.int 0), (.int 1), (.ref b181), (.ref b181)])) rfl rfl (hb hby at_24)
    have B191 : Arv Z h191 b181 c181 .boolean (6 : Int32) [(.int 1), (.int 0), (.int 0), (.int 0), (.int 0), (.int 0)] (.int 0) := Arv.set Ar190 q190 S190 M190 H190 G190 (fits_nar_bool _) W191 1 rfl (Nat.le_of_ble_eq_true rfl)
    have N191 := Fr.snoc X191 N186 g_b181
    have O_192 := O_187.wr W191 g_b181
    have K_193 := K_188.wr W191 (Or.inr sz_b181)
    have k_194 : Go p.tables e below (s₁.setTop (entryFrame m #[(.int q1)] maxLocals)) (T191.setTop (mkF m 28 #[iv q1, iv 3, rv a_FAIL, .unset] [(.int 0), (.int 2), (.ref b181), (.ref b181)])) := fun t q => by
      refine k_189 t ?_
      refine st191 _ ?_
      show Steps _ _ _ (T191.setTop (mkF m 25 #[iv q1, iv 3, rv a_FAIL, .unset] [(.ref b181)])) _
      refine XS.dup X191.here hx rfl (hb hby at_25) rfl rfl ?_
      show Steps _ _ _ (T191.setTop (mkF m 26 #[iv q1, iv 3, rv a_FAIL, .unset] [(.ref b181), (.ref b181)])) _
      refine XS.iconst X191.here hx rfl (hb hby at_26) ?_
      show Steps _ _ _ (T191.setTop (mkF m 27 #[iv q1, iv 3, rv a_FAIL, .unset] [(.int 2), (.ref b181), (.ref b181)])) _
      refine XS.iconst X191.here hx rfl (hb hby at_27) ?_
      show Steps _ _ _ (T191.setTop (mkF m 28 #[iv q1, iv 3, rv a_FAIL, .unset] [(.int 0), (.int 2), (.ref b181), (.ref b181)])) _
      exact q
    obtain ⟨cl195, Ar195, q195, S195, M195, H195, G195⟩ := B191
    have hin195 : ¬ ((2 : Int32) < 0 ∨ cl195.slots.size ≤ ((2 : Int32)).toNatClampNeg) := inb_of S195 ⟨by decide, by decide⟩
    obtain ⟨T196, h196, X196, e196, W196, st196⟩ := stZ X191 hx hZ e191 Ar195 (j := (2 : Int32)) hin195 (g := (mkF m 28 #[iv q1, iv 3, rv a_FAIL, .unset] [(.int 0), (.int 2), (.ref b181), (.ref b181)])) rfl rfl (hb hby at_28)
    have B196 : Arv Z h196 b181 c181 .boolean (6 : Int32) [(.int 1), (.int 0), (.int 0), (.int 0), (.int 0), (.int 0)] (.int 0) := Arv.set Ar195 q195 S195 M195 H195 G195 (fits_nar_bool _) W196 2 rfl (Nat.le_of_ble_eq_true rfl)
    have N196 := Fr.snoc X196 N191 g_b181
    have O_197 := O_192.wr W196 g_b181
    have K_198 := K_193.wr W196 (Or.inr sz_b181)
    have k_199 : Go p.tables e below (s₁.setTop (entryFrame m #[(.int q1)] maxLocals)) (T196.setTop (mkF m 32 #[iv q1, iv 3, rv a_FAIL, .unset] [(.int 1), (.int 3), (.ref b181), (.ref b181)])) := fun t q => by
      refine k_194 t ?_
      refine st196 _ ?_
      show Steps _ _ _ (T196.setTop (mkF m 29 #[iv q1, iv 3, rv a_FAIL, .unset] [(.ref b181)])) _
      refine XS.dup X196.here hx rfl (hb hby at_29) rfl rfl ?_
      show Steps _ _ _ (T196.setTop (mkF m 30 #[iv q1, iv 3, rv a_FAIL, .unset] [(.ref b181), (.ref b181)])) _
      refine XS.iconst X196.here hx rfl (hb hby at_30) ?_
      show Steps _ _ _ (T196.setTop (mkF m 31 #[iv q1, iv 3, rv a_FAIL, .unset] [(.int 3), (.ref b181), (.ref b181)])) _
      refine XS.iconst X196.here hx rfl (hb hby at_31) ?_
      show Steps _ _ _ (T196.setTop (mkF m 32 #[iv q1, iv 3, rv a_FAIL, .unset] [(.int 1), (.int 3), (.ref b181), (.ref b181)])) _
      exact q
    obtain ⟨cl200, Ar200, q200, S200, M200, H200, G200⟩ := B196
    have hin200 : ¬ ((3 : Int32) < 0 ∨ cl200.slots.size ≤ ((3 : Int32)).toNatClampNeg) := inb_of S200 ⟨by decide, by decide⟩
    obtain ⟨T201, h201, X201, e201, W201, st201⟩ := stZ X196 hx hZ e196 Ar200 (j := (3 : Int32)) hin200 (g := (mkF m 32 #[iv q1, iv 3, rv a_FAIL, .unset] [(.int 1), (.int 3), (.ref b181), (.ref b181)])) rfl rfl (hb hby at_32)
    have B201 : Arv Z h201 b181 c181 .boolean (6 : Int32) [(.int 1), (.int 0), (.int 0), (.int 1), (.int 0), (.int 0)] (.int 0) := Arv.set Ar200 q200 S200 M200 H200 G200 (fits_nar_bool _) W201 3 rfl (Nat.le_of_ble_eq_true rfl)
    have N201 := Fr.snoc X201 N196 g_b181
    have O_202 := O_197.wr W201 g_b181
    have K_203 := K_198.wr W201 (Or.inr sz_b181)
    have k_204 : Go p.tables e below (s₁.setTop (entryFrame m #[(.int q1)] maxLocals)) (T201.setTop (mkF m 36 #[iv q1, iv 3, rv a_FAIL, .unset] [(.int 0), (.int 4), (.ref b181), (.ref b181)])) := fun t q => by
      refine k_199 t ?_
      refine st201 _ ?_
      show Steps _ _ _ (T201.setTop (mkF m 33 #[iv q1, iv 3, rv a_FAIL, .unset] [(.ref b181)])) _
      refine XS.dup X201.here hx rfl (hb hby at_33) rfl rfl ?_
      show Steps _ _ _ (T201.setTop (mkF m 34 #[iv q1, iv 3, rv a_FAIL, .unset] [(.ref b181), (.ref b181)])) _
      refine XS.iconst X201.here hx rfl (hb hby at_34) ?_
      show Steps _ _ _ (T201.setTop (mkF m 35 #[iv q1, iv 3, rv a_FAIL, .unset] [(.int 4), (.ref b181), (.ref b181)])) _
      refine XS.iconst X201.here hx rfl (hb hby at_35) ?_
      show Steps _ _ _ (T201.setTop (mkF m 36 #[iv q1, iv 3, rv a_FAIL, .unset] [(.int 0), (.int 4), (.ref b181), (.ref b181)])) _
      exact q
    obtain ⟨cl205, Ar205, q205, S205, M205, H205, G205⟩ := B201
    have hin205 : ¬ ((4 : Int32) < 0 ∨ cl205.slots.size ≤ ((4 : Int32)).toNatClampNeg) := inb_of S205 ⟨by decide, by decide⟩
    obtain ⟨T206, h206, X206, e206, W206, st206⟩ := stZ X201 hx hZ e201 Ar205 (j := (4 : Int32)) hin205 (g := (mkF m 36 #[iv q1, iv 3, rv a_FAIL, .unset] [(.int 0), (.int 4), (.ref b181), (.ref b181)])) rfl rfl (hb hby at_36)
    have B206 : Arv Z h206 b181 c181 .boolean (6 : Int32) [(.int 1), (.int 0), (.int 0), (.int 1), (.int 0), (.int 0)] (.int 0) := Arv.set Ar205 q205 S205 M205 H205 G205 (fits_nar_bool _) W206 4 rfl (Nat.le_of_ble_eq_true rfl)
    have N206 := Fr.snoc X206 N201 g_b181
    have O_207 := O_202.wr W206 g_b181
    have K_208 := K_203.wr W206 (Or.inr sz_b181)
    have k_209 : Go p.tables e below (s₁.setTop (entryFrame m #[(.int q1)] maxLocals)) (T206.setTop (mkF m 40 #[iv q1, iv 3, rv a_FAIL, .unset] [(.int 1), (.int 5), (.ref b181), (.ref b181)])) := fun t q => by
      refine k_204 t ?_
      refine st206 _ ?_
      show Steps _ _ _ (T206.setTop (mkF m 37 #[iv q1, iv 3, rv a_FAIL, .unset] [(.ref b181)])) _
      refine XS.dup X206.here hx rfl (hb hby at_37) rfl rfl ?_
      show Steps _ _ _ (T206.setTop (mkF m 38 #[iv q1, iv 3, rv a_FAIL, .unset] [(.ref b181), (.ref b181)])) _
      refine XS.iconst X206.here hx rfl (hb hby at_38) ?_
      show Steps _ _ _ (T206.setTop (mkF m 39 #[iv q1, iv 3, rv a_FAIL, .unset] [(.int 5), (.ref b181), (.ref b181)])) _
      refine XS.iconst X206.here hx rfl (hb hby at_39) ?_
      show Steps _ _ _ (T206.setTop (mkF m 40 #[iv q1, iv 3, rv a_FAIL, .unset] [(.int 1), (.int 5), (.ref b181), (.ref b181)])) _
      exact q
    obtain ⟨cl210, Ar210, q210, S210, M210, H210, G210⟩ := B206
    have hin210 : ¬ ((5 : Int32) < 0 ∨ cl210.slots.size ≤ ((5 : Int32)).toNatClampNeg) := inb_of S210 ⟨by decide, by decide⟩
    obtain ⟨T211, h211, X211, e211, W211, st211⟩ := stZ X206 hx hZ e206 Ar210 (j := (5 : Int32)) hin210 (g := (mkF m 40 #[iv q1, iv 3, rv a_FAIL, .unset] [(.int 1), (.int 5), (.ref b181), (.ref b181)])) rfl rfl (hb hby at_40)
    have B211 : Arv Z h211 b181 c181 .boolean (6 : Int32) [(.int 1), (.int 0), (.int 0), (.int 1), (.int 0), (.int 1)] (.int 0) := Arv.set Ar210 q210 S210 M210 H210 G210 (fits_nar_bool _) W211 5 rfl (Nat.le_of_ble_eq_true rfl)
    have N211 := Fr.snoc X211 N206 g_b181
    have O_212 := O_207.wr W211 g_b181
    have K_213 := K_208.wr W211 (Or.inr sz_b181)
    have k_214 : Go p.tables e below (s₁.setTop (entryFrame m #[(.int q1)] maxLocals)) (T211.setTop (mkF m 43 #[iv q1, iv 3, rv a_FAIL, rv b181] [(.ref a_FAIL)])) := fun t q => by
      refine k_209 t ?_
      refine st211 _ ?_
      show Steps _ _ _ (T211.setTop (mkF m 41 #[iv q1, iv 3, rv a_FAIL, .unset] [(.ref b181)])) _
      refine XS.astoreN X211.here hx rfl (hb hby at_41) rfl rfl (l' := #[iv q1, iv 3, rv a_FAIL, rv b181]) rfl ?_
      show Steps _ _ _ (T211.setTop (mkF m 42 #[iv q1, iv 3, rv a_FAIL, rv b181] [])) _
      refine XS.aloadN X211.here hx rfl (hb hby at_42) rfl rfl ?_
      show Steps _ _ _ (T211.setTop (mkF m 43 #[iv q1, iv 3, rv a_FAIL, rv b181] [(.ref a_FAIL)])) _
      exact q
    obtain ⟨cq215, kq215, q215a, q215b, q215c⟩ := isOf hZ e211 (Exa.ext O_212.2 E_FAIL)
    obtain ⟨_, _, ⟨T215, L215, k215, n215⟩, -, X215, ⟨Lc215, hQ215, l215, y215, z215⟩, st215⟩ := X211.virtualBack hx (y := y_1) (z := y_1) hown (mvT hZ (hw _ (wd 9 rfl))) (mvT hZ (hw _ (wd 10 rfl))) (notFace_of_selects (args := #[]) (mvT hZ (hw _ (wd 12 rfl)))) (mvT hZ (hw _ (wd 12 rfl))) (mvT hZ (hw _ (wd 11 rfl))) (by decide) (backOf (W := 0) (er_3 l Z a0 hw [] a_SUCCESS a_FAIL a_RETRY a_CANCELLED a_PARTIAL_SUCCESS a_SKIPPED G  h211 n0 O_212 ) hZ (hw _ (wd 13 rfl)) (hw _ (wd 6 rfl)) (by decide) (by decide)) q215a q215c (g := (mkF m 43 #[iv q1, iv 3, rv a_FAIL, rv b181] [(.ref a_FAIL)])) rfl (by rw [hml]; rfl) (Steps.refl _) (argsL := []) (rest := []) (lenOf pd_1 rfl) rfl (by show 2 * 0 + _ ≤ _; exact Nat.le_of_eq rfl) (hb hby at_43) (fun _ _ => ⟨rfl, e211, (by decide : 1 + 0 ≤ _), (by decide : 6 + 0 ≤ _)⟩)
    dsimp only [Pt.U, Pt.locs, Pt.cells, Pt.slots] at X215 l215 y215 z215 st215 hQ215
    subst l215 y215 z215
    obtain ⟨rfl, N215q, e215⟩ := hQ215
    have N215 := Fr.app N211 N215q
    have k_216 : Go p.tables e below (s₁.setTop (entryFrame m #[(.int q1)] maxLocals)) (T215.setTop (mkF m 48 #[iv q1, iv 3, rv a_FAIL, rv b181] [(.int 3), (.ref b181), (.int 1)])) := fun t q => by
      refine k_214 t ?_
      refine st215.trans ?_
      show Steps _ _ _ (T215.setTop (mkF m 46 #[iv q1, iv 3, rv a_FAIL, rv b181] [(.int 1)])) _
      refine XS.aloadN X215.here hx rfl (hb hby at_46) rfl rfl ?_
      show Steps _ _ _ (T215.setTop (mkF m 47 #[iv q1, iv 3, rv a_FAIL, rv b181] [(.ref b181), (.int 1)])) _
      refine XS.iloadN X215.here hx rfl (hb hby at_47) rfl ?_
      show Steps _ _ _ (T215.setTop (mkF m 48 #[iv q1, iv 3, rv a_FAIL, rv b181] [(.int 3), (.ref b181), (.int 1)])) _
      exact q
    obtain ⟨cl217, Ar217, q217, S217, M217, H217, G217⟩ := B211
    have hin217 : ¬ ((3 : Int32) < 0 ∨ cl217.slots.size ≤ ((3 : Int32)).toNatClampNeg) := inb_of S217 ⟨by decide, by decide⟩
    have hat217 : cl217.slots[((3 : Int32)).toNatClampNeg]? = some (.int 1) := Has.at H217 hin217 rfl
    have k_218 : Go p.tables e below (s₁.setTop (entryFrame m #[(.int q1)] maxLocals)) (T215.setTop (mkF m 57 #[iv q1, iv 3, rv a_FAIL, rv b181] [(.int 1)])) := fun t q => by
      refine k_216 t ?_
      refine X215.baloadBooleans hx (j := (3 : Int32)) (v := (.int 1)) (by rw [e215]; exact Ar217.1) (State.isArrayOf_alike hZ.alike Ar217.2.1) Ar217.2.2 hin217 hat217 (g := (mkF m 48 #[iv q1, iv 3, rv a_FAIL, rv b181] [(.int 3), (.ref b181), (.int 1)])) rfl rfl (hb hby at_48) _ ?_
      show Steps _ _ _ (T215.setTop (mkF m 49 #[iv q1, iv 3, rv a_FAIL, rv b181] [(.int 1), (.int 1)])) _
      refine XS.icmpNo X215.here hx rfl (hb hby at_49) rfl (by decide) ?_
      show Steps _ _ _ (T215.setTop (mkF m 52 #[iv q1, iv 3, rv a_FAIL, rv b181] [])) _
      refine XS.iconst X215.here hx rfl (hb hby at_52) ?_
      show Steps _ _ _ (T215.setTop (mkF m 53 #[iv q1, iv 3, rv a_FAIL, rv b181] [(.int 1)])) _
      refine XS.goto X215.here hx rfl (pc0 := 53) (pc' := 57) rfl (hb hby at_53) (by decide) (by decide) ?_
      show Steps _ _ _ (T215.setTop (mkF m 57 #[iv q1, iv 3, rv a_FAIL, rv b181] [(.int 1)])) _
      exact q
    obtain ⟨fs, hr, hrun, hended, hW, hsame⟩ := X215.leave (v := some (.int 1)) (fun h => by rw [Bd.returns] at h; cases h)
    refine ⟨_, _, k_218 _ ?_, hrun, hended, _, _, rfl, ?_, ⟨_, rfl⟩, hW, hsame.mono (by decide) (by decide)⟩
    · exact retN X215 hx (t := .boolean) Bd.returns (by simp) (hb hby at_57) hr
    · show Q0 n0 _ T215.heap _
      rw [e215]
      exact ⟨rfl, N215⟩
  · skip
    have k_219 : Go p.tables e below (s₁.setTop (entryFrame m #[(.int q1)] maxLocals)) (s₁.setTop (mkF m 9 #[iv q1, iv 4, .unset, .unset] [(.int 4)])) := fun t q => by
      refine k0 t ?_
      refine XS.iloadN X0.here hx rfl (hb hby at_0) rfl ?_
      show Steps _ _ _ (s₁.setTop (mkF m 1 #[iv q1, .unset, .unset, .unset] [(.int q1)])) _
      refine X0.ldcInt hx hown (mvT hZ (hw _ (wd 0 rfl))) (g := (mkF m 1 #[iv q1, .unset, .unset, .unset] [(.int q1)])) rfl (hb hby at_1) _ ?_
      show Steps _ _ _ (s₁.setTop (mkF m 3 #[iv q1, .unset, .unset, .unset] [(.int 2147483647), (.int q1)])) _
      refine XS.iand X0.here hx rfl (hb hby at_3) rfl ?_
      show Steps _ _ _ (s₁.setTop (mkF m 4 #[iv q1, .unset, .unset, .unset] [(.int (q1 &&& (2147483647 : Int32)))])) _
      refine XS.bipush X0.here hx rfl (hb hby at_4) ?_
      show Steps _ _ _ (s₁.setTop (mkF m 6 #[iv q1, .unset, .unset, .unset] [(.int 6), (.int (q1 &&& (2147483647 : Int32)))])) _
      refine iremM (g := (mkF m 6 #[iv q1, .unset, .unset, .unset] [(.int 6), (.int (q1 &&& (2147483647 : Int32)))])) X0 hx rfl (hb hby at_6) rfl (by decide) ?_
      show Steps _ _ _ (s₁.setTop (mkF m 7 #[iv q1, .unset, .unset, .unset] [(.int ((q1 &&& (2147483647 : Int32)) % (6 : Int32)))])) _
      rw [hi]
      show Steps _ _ _ (s₁.setTop (mkF m 7 #[iv q1, .unset, .unset, .unset] [(.int 4)])) _
      refine XS.istoreN X0.here hx rfl (hb hby at_7) rfl (l' := #[iv q1, iv 4, .unset, .unset]) rfl ?_
      show Steps _ _ _ (s₁.setTop (mkF m 8 #[iv q1, iv 4, .unset, .unset] [])) _
      refine XS.iloadN X0.here hx rfl (hb hby at_8) rfl ?_
      show Steps _ _ _ (s₁.setTop (mkF m 9 #[iv q1, iv 4, .unset, .unset] [(.int 4)])) _
      exact q
    obtain ⟨_, _, ⟨T220, L220, k220, n220⟩, -, X220, ⟨Lc220, hQ220, l220, y220, z220⟩, st220⟩ := Jvm.LawKit.callS X0 hx (y := y_0) hown (mvT hZ (hw _ (wd 1 rfl))) (mvT hZ (hw _ (wd 2 rfl))) (mvT hZ (hw _ (wd 3 rfl))) (mvT hZ (hw _ (wd 4 rfl))) (by decide) (backOf (W := 0) (pk_4 l Z a0 hw [] a_SUCCESS a_FAIL a_RETRY a_CANCELLED a_PARTIAL_SUCCESS a_SKIPPED G  h0 n0 O0 ) hZ (hw _ (wd 4 rfl)) (hw _ (wd 3 rfl)) (by decide) (by decide)) (g := (mkF m 9 #[iv q1, iv 4, .unset, .unset] [(.int 4)])) rfl (by rw [hml]; rfl) (argsL := [(.int 4)]) (rest := []) (lenOf pd_0 rfl) rfl (by show 2 * 0 + _ ≤ _; exact Nat.le_of_eq rfl) (hb hby at_9) (fun _ _ => ⟨rfl, e0, (by decide : 0 + 0 ≤ _), (by decide : 0 + 0 ≤ _)⟩)
    dsimp only [Pt.U, Pt.locs, Pt.cells, Pt.slots] at X220 l220 y220 z220 st220 hQ220
    subst l220 y220 z220
    obtain ⟨rfl, N220q, e220⟩ := hQ220
    have N220 := Fr.app N0 N220q
    have k_221 : Go p.tables e below (s₁.setTop (entryFrame m #[(.int q1)] maxLocals)) (T220.setTop (mkF m 15 #[iv q1, iv 4, rv a_SKIPPED, .unset] [(.int 6)])) := fun t q => by
      refine k_219 t ?_
      refine st220 _ ?_
      show Steps _ _ _ (T220.setTop (mkF m 12 #[iv q1, iv 4, .unset, .unset] [(.ref a_SKIPPED)])) _
      refine XS.astoreN X220.here hx rfl (hb hby at_12) rfl rfl (l' := #[iv q1, iv 4, rv a_SKIPPED, .unset]) rfl ?_
      show Steps _ _ _ (T220.setTop (mkF m 13 #[iv q1, iv 4, rv a_SKIPPED, .unset] [])) _
      refine XS.bipush X220.here hx rfl (hb hby at_13) ?_
      show Steps _ _ _ (T220.setTop (mkF m 15 #[iv q1, iv 4, rv a_SKIPPED, .unset] [(.int 6)])) _
      exact q
    obtain ⟨T222, h222, c222, X222, e222, E222, A222, st222⟩ := newP X220 hx hZ (hw _ (wd 8 rfl)) e220 (g := (mkF m 15 #[iv q1, iv 4, rv a_SKIPPED, .unset] [(.int 6)])) rfl (hb hby at_15) rfl (by decide) (cap := 6) (by decide) (by decide) (by decide) (by decide)
    obtain ⟨b222, g222⟩ : ∃ z, z = h0.size := ⟨_, rfl⟩
    rw [← g222] at A222 st222
    have g_b222 : n0 ≤ b222 := Nat.le_trans (own_old_le O0) (Nat.le_of_eq g222.symm)
    have sz_b222 : h0.size ≤ b222 := Nat.le_trans K0.1 (Nat.le_of_eq g222.symm)
    have O_223 := O0.ext E222
    have K_224 := K0.ext E222
    have B222 : Arv Z h222 b222 c222 .boolean (6 : Int32) [(.int 0), (.int 0), (.int 0), (.int 0), (.int 0), (.int 0)] (.int 0) := (Arv.new A222 (by decide)).pad (pad_rep [] (.int 0) 6)
    have k_225 : Go p.tables e below (s₁.setTop (entryFrame m #[(.int q1)] maxLocals)) (T222.setTop (mkF m 20 #[iv q1, iv 4, rv a_SKIPPED, .unset] [(.int 1), (.int 0), (.ref b222), (.ref b222)])) := fun t q => by
      refine k_221 t ?_
      refine st222 _ ?_
      show Steps _ _ _ (T222.setTop (mkF m 17 #[iv q1, iv 4, rv a_SKIPPED, .unset] [(.ref b222)])) _
      refine XS.dup X222.here hx rfl (hb hby at_17) rfl rfl ?_
      show Steps _ _ _ (T222.setTop (mkF m 18 #[iv q1, iv 4, rv a_SKIPPED, .unset] [(.ref b222), (.ref b222)])) _
      refine XS.iconst X222.here hx rfl (hb hby at_18) ?_
      show Steps _ _ _ (T222.setTop (mkF m 19 #[iv q1, iv 4, rv a_SKIPPED, .unset] [(.int 0), (.ref b222), (.ref b222)])) _
      refine XS.iconst X222.here hx rfl (hb hby at_19) ?_
      show Steps _ _ _ (T222.setTop (mkF m 20 #[iv q1, iv 4, rv a_SKIPPED, .unset] [(.int 1), (.int 0), (.ref b222), (.ref b222)])) _
      exact q
    obtain ⟨cl226, Ar226, q226, S226, M226, H226, G226⟩ := B222
    have hin226 : ¬ ((0 : Int32) < 0 ∨ cl226.slots.size ≤ ((0 : Int32)).toNatClampNeg) := inb_of S226 ⟨by decide, by decide⟩
    obtain ⟨T227, h227, X227, e227, W227, st227⟩ := stZ X222 hx hZ e222 Ar226 (j := (0 : Int32)) hin226 (g := (mkF m 20 #[iv q1, iv 4, rv a_SKIPPED, .unset] [(.int 1), (.int 0), (.ref b222), (.ref b222)])) rfl rfl (hb hby at_20)
    have B227 : Arv Z h227 b222 c222 .boolean (6 : Int32) [(.int 1), (.int 0), (.int 0), (.int 0), (.int 0), (.int 0)] (.int 0) := Arv.set Ar226 q226 S226 M226 H226 G226 (fits_nar_bool _) W227 0 rfl (Nat.le_of_ble_eq_true rfl)
    have N227 := Fr.snoc X227 N220 g_b222
    have O_228 := O_223.wr W227 g_b222
    have K_229 := K_224.wr W227 (Or.inr sz_b222)
    have k_230 : Go p.tables e below (s₁.setTop (entryFrame m #[(.int q1)] maxLocals)) (T227.setTop (mkF m 24 #[iv q1, iv 4, rv a_SKIPPED, .unset] [(.int 0), (.int 1), (.ref b222), (.ref b222)])) := fun t q => by
      refine k_225 t ?_
      refine st227 _ ?_
      show Steps _ _ _ (T227.setTop (mkF m 21 #[iv q1, iv 4, rv a_SKIPPED, .unset] [(.ref b222)])) _
      refine XS.dup X227.here hx rfl (hb hby at_21) rfl rfl ?_
      show Steps _ _ _ (T227.setTop (mkF m 22 #[iv q1, iv 4, rv a_SKIPPED, .unset] [(.ref b222), (.ref b222)])) _
      refine XS.iconst X227.here hx rfl (hb hby at_22) ?_
      show Steps _ _ _ (T227.setTop (mkF m 23 #[iv q1, iv 4, rv a_SKIPPED, .unset] [(.int 1), (.ref b222), (.ref b222)])) _
      refine XS.iconst X227.here hx rfl (hb hby at_23) ?_
      show Steps _ _ _ (T227.setTop (mkF m 24 #[iv q1, iv 4, rv a_SKIPPED, .unset] [(.int 0), (.int 1), (.ref b222), (.ref b222)])) _
      exact q
    obtain ⟨cl231, Ar231, q231, S231, M231, H231, G231⟩ := B227
    have hin231 : ¬ ((1 : Int32) < 0 ∨ cl231.slots.size ≤ ((1 : Int32)).toNatClampNeg) := inb_of S231 ⟨by decide, by decide⟩
    obtain ⟨T232, h232, X232, e232, W232, st232⟩ := stZ X227 hx hZ e227 Ar231 (j := (1 : Int32)) hin231 (g := (mkF m 24 #[iv q1, iv 4, rv a_SKIPPED, .unset] [(.int 0), (.int 1), (.ref b222), (.ref b222)])) rfl rfl (hb hby at_24)
    have B232 : Arv Z h232 b222 c222 .boolean (6 : Int32) [(.int 1), (.int 0), (.int 0), (.int 0), (.int 0), (.int 0)] (.int 0) := Arv.set Ar231 q231 S231 M231 H231 G231 (fits_nar_bool _) W232 1 rfl (Nat.le_of_ble_eq_true rfl)
    have N232 := Fr.snoc X232 N227 g_b222
    have O_233 := O_228.wr W232 g_b222
    have K_234 := K_229.wr W232 (Or.inr sz_b222)
    have k_235 : Go p.tables e below (s₁.setTop (entryFrame m #[(.int q1)] maxLocals)) (T232.setTop (mkF m 28 #[iv q1, iv 4, rv a_SKIPPED, .unset] [(.int 0), (.int 2), (.ref b222), (.ref b222)])) := fun t q => by
      refine k_230 t ?_
      refine st232 _ ?_
      show Steps _ _ _ (T232.setTop (mkF m 25 #[iv q1, iv 4, rv a_SKIPPED, .unset] [(.ref b222)])) _
      refine XS.dup X232.here hx rfl (hb hby at_25) rfl rfl ?_
      show Steps _ _ _ (T232.setTop (mkF m 26 #[iv q1, iv 4, rv a_SKIPPED, .unset] [(.ref b222), (.ref b222)])) _
      refine XS.iconst X232.here hx rfl (hb hby at_26) ?_
      show Steps _ _ _ (T232.setTop (mkF m 27 #[iv q1, iv 4, rv a_SKIPPED, .unset] [(.int 2), (.ref b222), (.ref b222)])) _
      refine XS.iconst X232.here hx rfl (hb hby at_27) ?_
      show Steps _ _ _ (T232.setTop (mkF m 28 #[iv q1, iv 4, rv a_SKIPPED, .unset] [(.int 0), (.int 2), (.ref b222), (.ref b222)])) _
      exact q
    obtain ⟨cl236, Ar236, q236, S236, M236, H236, G236⟩ := B232
    have hin236 : ¬ ((2 : Int32) < 0 ∨ cl236.slots.size ≤ ((2 : Int32)).toNatClampNeg) := inb_of S236 ⟨by decide, by decide⟩
    obtain ⟨T237, h237, X237, e237, W237, st237⟩ := stZ X232 hx hZ e232 Ar236 (j := (2 : Int32)) hin236 (g := (mkF m 28 #[iv q1, iv 4, rv a_SKIPPED, .unset] [(.int 0), (.int 2), (.ref b222), (.ref b222)])) rfl rfl (hb hby at_28)
    have B237 : Arv Z h237 b222 c222 .boolean (6 : Int32) [(.int 1), (.int 0), (.int 0), (.int 0), (.int 0), (.int 0)] (.int 0) := Arv.set Ar236 q236 S236 M236 H236 G236 (fits_nar_bool _) W237 2 rfl (Nat.le_of_ble_eq_true rfl)
    have N237 := Fr.snoc X237 N232 g_b222
    have O_238 := O_233.wr W237 g_b222
    have K_239 := K_234.wr W237 (Or.inr sz_b222)
    have k_240 : Go p.tables e below (s₁.setTop (entryFrame m #[(.int q1)] maxLocals)) (T237.setTop (mkF m 32 #[iv q1, iv 4, rv a_SKIPPED, .unset] [(.int 1), (.int 3), (.ref b222), (.ref b222)])) := fun t q => by
      refine k_235 t ?_
      refine st237 _ ?_
      show Steps _ _ _ (T237.setTop (mkF m 29 #[iv q1, iv 4, rv a_SKIPPED, .unset] [(.ref b222)])) _
      refine XS.dup X237.here hx rfl (hb hby at_29) rfl rfl ?_
      show Steps _ _ _ (T237.setTop (mkF m 30 #[iv q1, iv 4, rv a_SKIPPED, .unset] [(.ref b222), (.ref b222)])) _
      refine XS.iconst X237.here hx rfl (hb hby at_30) ?_
      show Steps _ _ _ (T237.setTop (mkF m 31 #[iv q1, iv 4, rv a_SKIPPED, .unset] [(.int 3), (.ref b222), (.ref b222)])) _
      refine XS.iconst X237.here hx rfl (hb hby at_31) ?_
      show Steps _ _ _ (T237.setTop (mkF m 32 #[iv q1, iv 4, rv a_SKIPPED, .unset] [(.int 1), (.int 3), (.ref b222), (.ref b222)])) _
      exact q
    obtain ⟨cl241, Ar241, q241, S241, M241, H241, G241⟩ := B237
    have hin241 : ¬ ((3 : Int32) < 0 ∨ cl241.slots.size ≤ ((3 : Int32)).toNatClampNeg) := inb_of S241 ⟨by decide, by decide⟩
    obtain ⟨T242, h242, X242, e242, W242, st242⟩ := stZ X237 hx hZ e237 Ar241 (j := (3 : Int32)) hin241 (g := (mkF m 32 #[iv q1, iv 4, rv a_SKIPPED, .unset] [(.int 1), (.int 3), (.ref b222), (.ref b222)])) rfl rfl (hb hby at_32)
    have B242 : Arv Z h242 b222 c222 .boolean (6 : Int32) [(.int 1), (.int 0), (.int 0), (.int 1), (.int 0), (.int 0)] (.int 0) := Arv.set Ar241 q241 S241 M241 H241 G241 (fits_nar_bool _) W242 3 rfl (Nat.le_of_ble_eq_true rfl)
    have N242 := Fr.snoc X242 N237 g_b222
    have O_243 := O_238.wr W242 g_b222
    have K_244 := K_239.wr W242 (Or.inr sz_b222)
    have k_245 : Go p.tables e below (s₁.setTop (entryFrame m #[(.int q1)] maxLocals)) (T242.setTop (mkF m 36 #[iv q1, iv 4, rv a_SKIPPED, .unset] [(.int 0), (.int 4), (.ref b222), (.ref b222)])) := fun t q => by
      refine k_240 t ?_
      refine st242 _ ?_
      show Steps _ _ _ (T242.setTop (mkF m 33 #[iv q1, iv 4, rv a_SKIPPED, .unset] [(.ref b222)])) _
      refine XS.dup X242.here hx rfl (hb hby at_33) rfl rfl ?_
      show Steps _ _ _ (T242.setTop (mkF m 34 #[iv q1, iv 4, rv a_SKIPPED, .unset] [(.ref b222), (.ref b222)])) _
      refine XS.iconst X242.here hx rfl (hb hby at_34) ?_
      show Steps _ _ _ (T242.setTop (mkF m 35 #[iv q1, iv 4, rv a_SKIPPED, .unset] [(.int 4), (.ref b222), (.ref b222)])) _
      refine XS.iconst X242.here hx rfl (hb hby at_35) ?_
      show Steps _ _ _ (T242.setTop (mkF m 36 #[iv q1, iv 4, rv a_SKIPPED, .unset] [(.int 0), (.int 4), (.ref b222), (.ref b222)])) _
      exact q
    obtain ⟨cl246, Ar246, q246, S246, M246, H246, G246⟩ := B242
    have hin246 : ¬ ((4 : Int32) < 0 ∨ cl246.slots.size ≤ ((4 : Int32)).toNatClampNeg) := inb_of S246 ⟨by decide, by decide⟩
    obtain ⟨T247, h247, X247, e247, W247, st247⟩ := stZ X242 hx hZ e242 Ar246 (j := (4 : Int32)) hin246 (g := (mkF m 36 #[iv q1, iv 4, rv a_SKIPPED, .unset] [(.int 0), (.int 4), (.ref b222), (.ref b222)])) rfl rfl (hb hby at_36)
    have B247 : Arv Z h247 b222 c222 .boolean (6 : Int32) [(.int 1), (.int 0), (.int 0), (.int 1), (.int 0), (.int 0)] (.int 0) := Arv.set Ar246 q246 S246 M246 H246 G246 (fits_nar_bool _) W247 4 rfl (Nat.le_of_ble_eq_true rfl)
    have N247 := Fr.snoc X247 N242 g_b222
    have O_248 := O_243.wr W247 g_b222
    have K_249 := K_244.wr W247 (Or.inr sz_b222)
    have k_250 : Go p.tables e below (s₁.setTop (entryFrame m #[(.int q1)] maxLocals)) (T247.setTop (mkF m 40 #[iv q1, iv 4, rv a_SKIPPED, .unset] [(.int 1), (.int 5), (.ref b222), (.ref b222)])) := fun t q => by
      refine k_245 t ?_
      refine st247 _ ?_
      show Steps _ _ _ (T247.setTop (mkF m 37 #[iv q1, iv 4, rv a_SKIPPED, .unset] [(.ref b222)])) _
      refine XS.dup X247.here hx rfl (hb hby at_37) rfl rfl ?_
      show Steps _ _ _ (T247.setTop (mkF m 38 #[iv q1, iv 4, rv a_SKIPPED, .unset] [(.ref b222), (.ref b222)])) _
      refine XS.iconst X247.here hx rfl (hb hby at_38) ?_
      show Steps _ _ _ (T247.setTop (mkF m 39 #[iv q1, iv 4, rv a_SKIPPED, .unset] [(.int 5), (.ref b222), (.ref b222)])) _
      refine XS.iconst X247.here hx rfl (hb hby at_39) ?_
      show Steps _ _ _ (T247.setTop (mkF m 40 #[iv q1, iv 4, rv a_SKIPPED, .unset] [(.int 1), (.int 5), (.ref b222), (.ref b222)])) _
      exact q
    obtain ⟨cl251, Ar251, q251, S251, M251, H251, G251⟩ := B247
    have hin251 : ¬ ((5 : Int32) < 0 ∨ cl251.slots.size ≤ ((5 : Int32)).toNatClampNeg) := inb_of S251 ⟨by decide, by decide⟩
    obtain ⟨T252, h252, X252, e252, W252, st252⟩ := stZ X247 hx hZ e247 Ar251 (j := (5 : Int32)) hin251 (g := (mkF m 40 #[iv q1, iv 4, rv a_SKIPPED, .unset] [(.int 1), (.int 5), (.ref b222), (.ref b222)])) rfl rfl (hb hby at_40)
    have B252 : Arv Z h252 b222 c222 .boolean (6 : Int32) [(.int 1), (.int 0), (.int 0), (.int 1), (.int 0), (.int 1)] (.int 0) := Arv.set Ar251 q251 S251 M251 H251 G251 (fits_nar_bool _) W252 5 rfl (Nat.le_of_ble_eq_true rfl)
    have N252 := Fr.snoc X252 N247 g_b222
    have O_253 := O_248.wr W252 g_b222
    have K_254 := K_249.wr W252 (Or.inr sz_b222)
    have k_255 : Go p.tables e below (s₁.setTop (entryFrame m #[(.int q1)] maxLocals)) (T252.setTop (mkF m 43 #[iv q1, iv 4, rv a_SKIPPED, rv b222] [(.ref a_SKIPPED)])) := fun t q => by
      refine k_250 t ?_
      refine st252 _ ?_
      show Steps _ _ _ (T252.setTop (mkF m 41 #[iv q1, iv 4, rv a_SKIPPED, .unset] [(.ref b222)])) _
      refine XS.astoreN X252.here hx rfl (hb hby at_41) rfl rfl (l' := #[iv q1, iv 4, rv a_SKIPPED, rv b222]) rfl ?_
      show Steps _ _ _ (T252.setTop (mkF m 42 #[iv q1, iv 4, rv a_SKIPPED, rv b222] [])) _
      refine XS.aloadN X252.here hx rfl (hb hby at_42) rfl rfl ?_
      show Steps _ _ _ (T252.setTop (mkF m 43 #[iv q1, iv 4, rv a_SKIPPED, rv b222] [(.ref a_SKIPPED)])) _
      exact q
    obtain ⟨cq256, kq256, q256a, q256b, q256c⟩ := isOf hZ e252 (Exa.ext O_253.2 E_SKIPPED)
    obtain ⟨_, _, ⟨T256, L256, k256, n256⟩, -, X256, ⟨Lc256, hQ256, l256, y256, z256⟩, st256⟩ := X252.virtualBack hx (y := y_1) (z := y_1) hown (mvT hZ (hw _ (wd 9 rfl))) (mvT hZ (hw _ (wd 10 rfl))) (notFace_of_selects (args := #[]) (mvT hZ (hw _ (wd 12 rfl)))) (mvT hZ (hw _ (wd 12 rfl))) (mvT hZ (hw _ (wd 11 rfl))) (by decide) (backOf (W := 0) (er_4 l Z a0 hw [] a_SUCCESS a_FAIL a_RETRY a_CANCELLED a_PARTIAL_SUCCESS a_SKIPPED G  h252 n0 O_253 ) hZ (hw _ (wd 13 rfl)) (hw _ (wd 6 rfl)) (by decide) (by decide)) q256a q256c (g := (mkF m 43 #[iv q1, iv 4, rv a_SKIPPED, rv b222] [(.ref a_SKIPPED)])) rfl (by rw [hml]; rfl) (Steps.refl _) (argsL := []) (rest := []) (lenOf pd_1 rfl) rfl (by show 2 * 0 + _ ≤ _; exact Nat.le_of_eq rfl) (hb hby at_43) (fun _ _ => ⟨rfl, e252, (by decide : 1 + 0 ≤ _), (by decide : 6 + 0 ≤ _)⟩)
    dsimp only [Pt.U, Pt.locs, Pt.cells, Pt.slots] at X256 l256 y256 z256 st256 hQ256
    subst l256 y256 z256
    obtain ⟨rfl, N256q, e256⟩ := hQ256
    have N256 := Fr.app N252 N256q
    have k_257 : Go p.tables e below (s₁.setTop (entryFrame m #[(.int q1)] maxLocals)) (T256.setTop (mkF m 48 #[iv q1, iv 4, rv a_SKIPPED, rv b222] [(.int 4), (.ref b222), (.int 0)])) := fun t q => by
      refine k_255 t ?_
      refine st256.trans ?_
      show Steps _ _ _ (T256.setTop (mkF m 46 #[iv q1, iv 4, rv a_SKIPPED, rv b222] [(.int 0)])) _
      refine XS.aloadN X256.here hx rfl (hb hby at_46) rfl rfl ?_
      show Steps _ _ _ (T256.setTop (mkF m 47 #[iv q1, iv 4, rv a_SKIPPED, rv b222] [(.ref b222), (.int 0)])) _
      refine XS.iloadN X256.here hx rfl (hb hby at_47) rfl ?_
      show Steps _ _ _ (T256.setTop (mkF m 48 #[iv q1, iv 4, rv a_SKIPPED, rv b222] [(.int 4), (.ref b222), (.int 0)])) _
      exact q
    obtain ⟨cl258, Ar258, q258, S258, M258, H258, G258⟩ := B252
    have hin258 : ¬ ((4 : Int32) < 0 ∨ cl258.slots.size ≤ ((4 : Int32)).toNatClampNeg) := inb_of S258 ⟨by decide, by decide⟩
    have hat258 : cl258.slots[((4 : Int32)).toNatClampNeg]? = some (.int 0) := Has.at H258 hin258 rfl
    have k_259 : Go p.tables e below (s₁.setTop (entryFrame m #[(.int q1)] maxLocals)) (T256.setTop (mkF m 57 #[iv q1, iv 4, rv a_SKIPPED, rv b222] [(.int 1)])) := fun t q => by
      refine k_257 t ?_
      refine X256.baloadBooleans hx (j := (4 : Int32)) (v := (.int 0)) (by rw [e256]; exact Ar258.1) (State.isArrayOf_alike hZ.alike Ar258.2.1) Ar258.2.2 hin258 hat258 (g := (mkF m 48 #[iv q1, iv 4, rv a_SKIPPED, rv b222] [(.int 4), (.ref b222), (.int 0)])) rfl rfl (hb hby at_48) _ ?_
      show Steps _ _ _ (T256.setTop (mkF m 49 #[iv q1, iv 4, rv a_SKIPPED, rv b222] [(.int 0), (.int 0)])) _
      refine XS.icmpNo X256.here hx rfl (hb hby at_49) rfl (by decide) ?_
      show Steps _ _ _ (T256.setTop (mkF m 52 #[iv q1, iv 4, rv a_SKIPPED, rv b222] [])) _
      refine XS.iconst X256.here hx rfl (hb hby at_52) ?_
      show Steps _ _ _ (T256.setTop (mkF m 53 #[iv q1, iv 4, rv a_SKIPPED, rv b222] [(.int 1)])) _
      refine XS.goto X256.here hx rfl (pc0 := 53) (pc' := 57) rfl (hb hby at_53) (by decide) (by decide) ?_
      show Steps _ _ _ (T256.setTop (mkF m 57 #[iv q1, iv 4, rv a_SKIPPED, rv b222] [(.int 1)])) _
      exact q
    obtain ⟨fs, hr, hrun, hended, hW, hsame⟩ := X256.leave (v := some (.int 1)) (fun h => by rw [Bd.returns] at h; cases h)
    refine ⟨_, _, k_259 _ ?_, hrun, hended, _, _, rfl, ?_, ⟨_, rfl⟩, hW, hsame.mono (by decide) (by decide)⟩
    · exact retN X256 hx (t := .boolean) Bd.returns (by simp) (hb hby at_57) hr
    · show Q0 n0 _ T256.heap _
      rw [e256]
      exact ⟨rfl, N256⟩
  · skip
    have k_260 : Go p.tables e below (s₁.setTop (entryFrame m #[(.int q1)] maxLocals)) (s₁.setTop (mkF m 9 #[iv q1, iv 5, .unset, .unset] [(.int 5)])) := fun t q => by
      refine k0 t ?_
      refine XS.iloadN X0.here hx rfl (hb hby at_0) rfl ?_
      show Steps _ _ _ (s₁.setTop (mkF m 1 #[iv q1, .unset, .unset, .unset] [(.int q1)])) _
      refine X0.ldcInt hx hown (mvT hZ (hw _ (wd 0 rfl))) (g := (mkF m 1 #[iv q1, .unset, .unset, .unset] [(.int q1)])) rfl (hb hby at_1) _ ?_
      show Steps _ _ _ (s₁.setTop (mkF m 3 #[iv q1, .unset, .unset, .unset] [(.int 2147483647), (.int q1)])) _
      refine XS.iand X0.here hx rfl (hb hby at_3) rfl ?_
      show Steps _ _ _ (s₁.setTop (mkF m 4 #[iv q1, .unset, .unset, .unset] [(.int (q1 &&& (2147483647 : Int32)))])) _
      refine XS.bipush X0.here hx rfl (hb hby at_4) ?_
      show Steps _ _ _ (s₁.setTop (mkF m 6 #[iv q1, .unset, .unset, .unset] [(.int 6), (.int (q1 &&& (2147483647 : Int32)))])) _
      refine iremM (g := (mkF m 6 #[iv q1, .unset, .unset, .unset] [(.int 6), (.int (q1 &&& (2147483647 : Int32)))])) X0 hx rfl (hb hby at_6) rfl (by decide) ?_
      show Steps _ _ _ (s₁.setTop (mkF m 7 #[iv q1, .unset, .unset, .unset] [(.int ((q1 &&& (2147483647 : Int32)) % (6 : Int32)))])) _
      rw [hi]
      show Steps _ _ _ (s₁.setTop (mkF m 7 #[iv q1, .unset, .unset, .unset] [(.int 5)])) _
      refine XS.istoreN X0.here hx rfl (hb hby at_7) rfl (l' := #[iv q1, iv 5, .unset, .unset]) rfl ?_
      show Steps _ _ _ (s₁.setTop (mkF m 8 #[iv q1, iv 5, .unset, .unset] [])) _
      refine XS.iloadN X0.here hx rfl (hb hby at_8) rfl ?_
      show Steps _ _ _ (s₁.setTop (mkF m 9 #[iv q1, iv 5, .unset, .unset] [(.int 5)])) _
      exact q
    obtain ⟨_, _, ⟨T261, L261, k261, n261⟩, -, X261, ⟨Lc261, hQ261, l261, y261, z261⟩, st261⟩ := Jvm.LawKit.callS X0 hx (y := y_0) hown (mvT hZ (hw _ (wd 1 rfl))) (mvT hZ (hw _ (wd 2 rfl))) (mvT hZ (hw _ (wd 3 rfl))) (mvT hZ (hw _ (wd 4 rfl))) (by decide) (backOf (W := 0) (pk_5 l Z a0 hw [] a_SUCCESS a_FAIL a_RETRY a_CANCELLED a_PARTIAL_SUCCESS a_SKIPPED G  h0 n0 O0 ) hZ (hw _ (wd 4 rfl)) (hw _ (wd 3 rfl)) (by decide) (by decide)) (g := (mkF m 9 #[iv q1, iv 5, .unset, .unset] [(.int 5)])) rfl (by rw [hml]; rfl) (argsL := [(.int 5)]) (rest := []) (lenOf pd_0 rfl) rfl (by show 2 * 0 + _ ≤ _; exact Nat.le_of_eq rfl) (hb hby at_9) (fun _ _ => ⟨rfl, e0, (by decide : 0 + 0 ≤ _), (by decide : 0 + 0 ≤ _)⟩)
    dsimp only [Pt.U, Pt.locs, Pt.cells, Pt.slots] at X261 l261 y261 z261 st261 hQ261
    subst l261 y261 z261
    obtain ⟨rfl, N261q, e261⟩ := hQ261
    have N261 := Fr.app N0 N261q
    have k_262 : Go p.tables e below (s₁.setTop (entryFrame m #[(.int q1)] maxLocals)) (T261.setTop (mkF m 15 #[iv q1, iv 5, rv a_CANCELLED, .unset] [(.int 6)])) := fun t q => by
      refine k_260 t ?_
      refine st261 _ ?_
      show Steps _ _ _ (T261.setTop (mkF m 12 #[iv q1, iv 5, .unset, .unset] [(.ref a_CANCELLED)])) _
      refine XS.astoreN X261.here hx rfl (hb hby at_12) rfl rfl (l' := #[iv q1, iv 5, rv a_CANCELLED, .unset]) rfl ?_
      show Steps _ _ _ (T261.setTop (mkF m 13 #[iv q1, iv 5, rv a_CANCELLED, .unset] [])) _
      refine XS.bipush X261.here hx rfl (hb hby at_13) ?_
      show Steps _ _ _ (T261.setTop (mkF m 15 #[iv q1, iv 5, rv a_CANCELLED, .unset] [(.int 6)])) _
      exact q
    obtain ⟨T263, h263, c263, X263, e263, E263, A263, st263⟩ := newP X261 hx hZ (hw _ (wd 8 rfl)) e261 (g := (mkF m 15 #[iv q1, iv 5, rv a_CANCELLED, .unset] [(.int 6)])) rfl (hb hby at_15) rfl (by decide) (cap := 6) (by decide) (by decide) (by decide) (by decide)
    obtain ⟨b263, g263⟩ : ∃ z, z = h0.size := ⟨_, rfl⟩
    rw [← g263] at A263 st263
    have g_b263 : n0 ≤ b263 := Nat.le_trans (own_old_le O0) (Nat.le_of_eq g263.symm)
    have sz_b263 : h0.size ≤ b263 := Nat.le_trans K0.1 (Nat.le_of_eq g263.symm)
    have O_264 := O0.ext E263
    have K_265 := K0.ext E263
    have B263 : Arv Z h263 b263 c263 .boolean (6 : Int32) [(.int 0), (.int 0), (.int 0), (.int 0), (.int 0), (.int 0)] (.int 0) := (Arv.new A263 (by decide)).pad (pad_rep [] (.int 0) 6)
    have k_266 : Go p.tables e below (s₁.setTop (entryFrame m #[(.int q1)] maxLocals)) (T263.setTop (mkF m 20 #[iv q1, iv 5, rv a_CANCELLED, .unset] [(.int 1), (.int 0), (.ref b263), (.ref b263)])) := fun t q => by
      refine k_262 t ?_
      refine st263 _ ?_
      show Steps _ _ _ (T263.setTop (mkF m 17 #[iv q1, iv 5, rv a_CANCELLED, .unset] [(.ref b263)])) _
      refine XS.dup X263.here hx rfl (hb hby at_17) rfl rfl ?_
      show Steps _ _ _ (T263.setTop (mkF m 18 #[iv q1, iv 5, rv a_CANCELLED, .unset] [(.ref b263), (.ref b263)])) _
      refine XS.iconst X263.here hx rfl (hb hby at_18) ?_
      show Steps _ _ _ (T263.setTop (mkF m 19 #[iv q1, iv 5, rv a_CANCELLED, .unset] [(.int 0), (.ref b263), (.ref b263)])) _
      refine XS.iconst X263.here hx rfl (hb hby at_19) ?_
      show Steps _ _ _ (T263.setTop (mkF m 20 #[iv q1, iv 5, rv a_CANCELLED, .unset] [(.int 1), (.int 0), (.ref b263), (.ref b263)])) _
      exact q
    obtain ⟨cl267, Ar267, q267, S267, M267, H267, G267⟩ := B263
    have hin267 : ¬ ((0 : Int32) < 0 ∨ cl267.slots.size ≤ ((0 : Int32)).toNatClampNeg) := inb_of S267 ⟨by decide, by decide⟩
    obtain ⟨T268, h268, X268, e268, W268, st268⟩ := stZ X263 hx hZ e263 Ar267 (j := (0 : Int32)) hin267 (g := (mkF m 20 #[iv q1, iv 5, rv a_CANCELLED, .unset] [(.int 1), (.int 0), (.ref b263), (.ref b263)])) rfl rfl (hb hby at_20)
    have B268 : Arv Z h268 b263 c263 .boolean (6 : Int32) [(.int 1), (.int 0), (.int 0), (.int 0), (.int 0), (.int 0)] (.int 0) := Arv.set Ar267 q267 S267 M267 H267 G267 (fits_nar_bool _) W268 0 rfl (Nat.le_of_ble_eq_true rfl)
    have N268 := Fr.snoc X268 N261 g_b263
    have O_269 := O_264.wr W268 g_b263
    have K_270 := K_265.wr W268 (Or.inr sz_b263)
    have k_271 : Go p.tables e below (s₁.setTop (entryFrame m #[(.int q1)] maxLocals)) (T268.setTop (mkF m 24 #[iv q1, iv 5, rv a_CANCELLED, .unset] [(.int 0), (.int 1), (.ref b263), (.ref b263)])) := fun t q => by
      refine k_266 t ?_
      refine st268 _ ?_
      show Steps _ _ _ (T268.setTop (mkF m 21 #[iv q1, iv 5, rv a_CANCELLED, .unset] [(.ref b263)])) _
      refine XS.dup X268.here hx rfl (hb hby at_21) rfl rfl ?_
      show Steps _ _ _ (T268.setTop (mkF m 22 #[iv q1, iv 5, rv a_CANCELLED, .unset] [(.ref b263), (.ref b263)])) _
      refine XS.iconst X268.here hx rfl (hb hby at_22) ?_
      show Steps _ _ _ (T268.setTop (mkF m 23 #[iv q1, iv 5, rv a_CANCELLED, .unset] [(.int 1), (.ref b263), (.ref b263)])) _
      refine XS.iconst X268.here hx rfl (hb hby at_23) ?_
      show Steps _ _ _ (T268.setTop (mkF m 24 #[iv q1, iv 5, rv a_CANCELLED, .unset] [(.int 0), (.int 1), (.ref b263), (.ref b263)])) _
      exact q
    obtain ⟨cl272, Ar272, q272, S272, M272, H272, G272⟩ := B268
    have hin272 : ¬ ((1 : Int32) < 0 ∨ cl272.slots.size ≤ ((1 : Int32)).toNatClampNeg) := inb_of S272 ⟨by decide, by decide⟩
    obtain ⟨T273, h273, X273, e273, W273, st273⟩ := stZ X268 hx hZ e268 Ar272 (j := (1 : Int32)) hin272 (g := (mkF m 24 #[iv q1, iv 5, rv a_CANCELLED, .unset] [(.int 0), (.int 1), (.ref b263), (.ref b263)])) rfl rfl (hb hby at_24)
    have B273 : Arv Z h273 b263 c263 .boolean (6 : Int32) [(.int 1), (.int 0), (.int 0), (.int 0), (.int 0), (.int 0)] (.int 0) := Arv.set Ar272 q272 S272 M272 H272 G272 (fits_nar_bool _) W273 1 rfl (Nat.le_of_ble_eq_true rfl)
    have N273 := Fr.snoc X273 N268 g_b263
    have O_274 := O_269.wr W273 g_b263
    have K_275 := K_270.wr W273 (Or.inr sz_b263)
    have k_276 : Go p.tables e below (s₁.setTop (entryFrame m #[(.int q1)] maxLocals)) (T273.setTop (mkF m 28 #[iv q1, iv 5, rv a_CANCELLED, .unset] [(.int 0), (.int 2), (.ref b263), (.ref b263)])) := fun t q => by
      refine k_271 t ?_
      refine st273 _ ?_
      show Steps _ _ _ (T273.setTop (mkF m 25 #[iv q1, iv 5, rv a_CANCELLED, .unset] [(.ref b263)])) _
      refine XS.dup X273.here hx rfl (hb hby at_25) rfl rfl ?_
      show Steps _ _ _ (T273.setTop (mkF m 26 #[iv q1, iv 5, rv a_CANCELLED, .unset] [(.ref b263), (.ref b263)])) _
      refine XS.iconst X273.here hx rfl (hb hby at_26) ?_
      show Steps _ _ _ (T273.setTop (mkF m 27 #[iv q1, iv 5, rv a_CANCELLED, .unset] [(.int 2), (.ref b263), (.ref b263)])) _
      refine XS.iconst X273.here hx rfl (hb hby at_27) ?_
      show Steps _ _ _ (T273.setTop (mkF m 28 #[iv q1, iv 5, rv a_CANCELLED, .unset] [(.int 0), (.int 2), (.ref b263), (.ref b263)])) _
      exact q
    obtain ⟨cl277, Ar277, q277, S277, M277, H277, G277⟩ := B273
    have hin277 : ¬ ((2 : Int32) < 0 ∨ cl277.slots.size ≤ ((2 : Int32)).toNatClampNeg) := inb_of S277 ⟨by decide, by decide⟩
    obtain ⟨T278, h278, X278, e278, W278, st278⟩ := stZ X273 hx hZ e273 Ar277 (j := (2 : Int32)) hin277 (g := (mkF m 28 #[iv q1, iv 5, rv a_CANCELLED, .unset] [(.int 0), (.int 2), (.ref b263), (.ref b263)])) rfl rfl (hb hby at_28)
    have B278 : Arv Z h278 b263 c263 .boolean (6 : Int32) [(.int 1), (.int 0), (.int 0), (.int 0), (.int 0), (.int 0)] (.int 0) := Arv.set Ar277 q277 S277 M277 H277 G277 (fits_nar_bool _) W278 2 rfl (Nat.le_of_ble_eq_true rfl)
    have N278 := Fr.snoc X278 N273 g_b263
    have O_279 := O_274.wr W278 g_b263
    have K_280 := K_275.wr W278 (Or.inr sz_b263)
    have k_281 : Go p.tables e below (s₁.setTop (entryFrame m #[(.int q1)] maxLocals)) (T278.setTop (mkF m 32 #[iv q1, iv 5, rv a_CANCELLED, .unset] [(.int 1), (.int 3), (.ref b263), (.ref b263)])) := fun t q => by
      refine k_276 t ?_
      refine st278 _ ?_
      show Steps _ _ _ (T278.setTop (mkF m 29 #[iv q1, iv 5, rv a_CANCELLED, .unset] [(.ref b263)])) _
      refine XS.dup X278.here hx rfl (hb hby at_29) rfl rfl ?_
      show Steps _ _ _ (T278.setTop (mkF m 30 #[iv q1, iv 5, rv a_CANCELLED, .unset] [(.ref b263), (.ref b263)])) _
      refine XS.iconst X278.here hx rfl (hb hby at_30) ?_
      show Steps _ _ _ (T278.setTop (mkF m 31 #[iv q1, iv 5, rv a_CANCELLED, .unset] [(.int 3), (.ref b263), (.ref b263)])) _
      refine XS.iconst X278.here hx rfl (hb hby at_31) ?_
      show Steps _ _ _ (T278.setTop (mkF m 32 #[iv q1, iv 5, rv a_CANCELLED, .unset] [(.int 1), (.int 3), (.ref b263), (.ref b263)])) _
      exact q
    obtain ⟨cl282, Ar282, q282, S282, M282, H282, G282⟩ := B278
    have hin282 : ¬ ((3 : Int32) < 0 ∨ cl282.slots.size ≤ ((3 : Int32)).toNatClampNeg) := inb_of S282 ⟨by decide, by decide⟩
    obtain ⟨T283, h283, X283, e283, W283, st283⟩ := stZ X278 hx hZ e278 Ar282 (j := (3 : Int32)) hin282 (g := (mkF m 32 #[iv q1, iv 5, rv a_CANCELLED, .unset] [(.int 1), (.int 3), (.ref b263), (.ref b263)])) rfl rfl (hb hby at_32)
    have B283 : Arv Z h283 b263 c263 .boolean (6 : Int32) [(.int 1), (.int 0), (.int 0), (.int 1), (.int 0), (.int 0)] (.int 0) := Arv.set Ar282 q282 S282 M282 H282 G282 (fits_nar_bool _) W283 3 rfl (Nat.le_of_ble_eq_true rfl)
    have N283 := Fr.snoc X283 N278 g_b263
    have O_284 := O_279.wr W283 g_b263
    have K_285 := K_280.wr W283 (Or.inr sz_b263)
    have k_286 : Go p.tables e below (s₁.setTop (entryFrame m #[(.int q1)] maxLocals)) (T283.setTop (mkF m 36 #[iv q1, iv 5, rv a_CANCELLED, .unset] [(.int 0), (.int 4), (.ref b263), (.ref b263)])) := fun t q => by
      refine k_281 t ?_
      refine st283 _ ?_
      show Steps _ _ _ (T283.setTop (mkF m 33 #[iv q1, iv 5, rv a_CANCELLED, .unset] [(.ref b263)])) _
      refine XS.dup X283.here hx rfl (hb hby at_33) rfl rfl ?_
      show Steps _ _ _ (T283.setTop (mkF m 34 #[iv q1, iv 5, rv a_CANCELLED, .unset] [(.ref b263), (.ref b263)])) _
      refine XS.iconst X283.here hx rfl (hb hby at_34) ?_
      show Steps _ _ _ (T283.setTop (mkF m 35 #[iv q1, iv 5, rv a_CANCELLED, .unset] [(.int 4), (.ref b263), (.ref b263)])) _
      refine XS.iconst X283.here hx rfl (hb hby at_35) ?_
      show Steps _ _ _ (T283.setTop (mkF m 36 #[iv q1, iv 5, rv a_CANCELLED, .unset] [(.int 0), (.int 4), (.ref b263), (.ref b263)])) _
      exact q
    obtain ⟨cl287, Ar287, q287, S287, M287, H287, G287⟩ := B283
    have hin287 : ¬ ((4 : Int32) < 0 ∨ cl287.slots.size ≤ ((4 : Int32)).toNatClampNeg) := inb_of S287 ⟨by decide, by decide⟩
    obtain ⟨T288, h288, X288, e288, W288, st288⟩ := stZ X283 hx hZ e283 Ar287 (j := (4 : Int32)) hin287 (g := (mkF m 36 #[iv q1, iv 5, rv a_CANCELLED, .unset] [(.int 0), (.int 4), (.ref b263), (.ref b263)])) rfl rfl (hb hby at_36)
    have B288 : Arv Z h288 b263 c263 .boolean (6 : Int32) [(.int 1), (.int 0), (.int 0), (.int 1), (.int 0), (.int 0)] (.int 0) := Arv.set Ar287 q287 S287 M287 H287 G287 (fits_nar_bool _) W288 4 rfl (Nat.le_of_ble_eq_true rfl)
    have N288 := Fr.snoc X288 N283 g_b263
    have O_289 := O_284.wr W288 g_b263
    have K_290 := K_285.wr W288 (Or.inr sz_b263)
    have k_291 : Go p.tables e below (s₁.setTop (entryFrame m #[(.int q1)] maxLocals)) (T288.setTop (mkF m 40 #[iv q1, iv 5, rv a_CANCELLED, .unset] [(.int 1), (.int 5), (.ref b263), (.ref b263)])) := fun t q => by
      refine k_286 t ?_
      refine st288 _ ?_
      show Steps _ _ _ (T288.setTop (mkF m 37 #[iv q1, iv 5, rv a_CANCELLED, .unset] [(.ref b263)])) _
      refine XS.dup X288.here hx rfl (hb hby at_37) rfl rfl ?_
      show Steps _ _ _ (T288.setTop (mkF m 38 #[iv q1, iv 5, rv a_CANCELLED, .unset] [(.ref b263), (.ref b263)])) _
      refine XS.iconst X288.here hx rfl (hb hby at_38) ?_
      show Steps _ _ _ (T288.setTop (mkF m 39 #[iv q1, iv 5, rv a_CANCELLED, .unset] [(.int 5), (.ref b263), (.ref b263)])) _
      refine XS.iconst X288.here hx rfl (hb hby at_39) ?_
      show Steps _ _ _ (T288.setTop (mkF m 40 #[iv q1, iv 5, rv a_CANCELLED, .unset] [(.int 1), (.int 5), (.ref b263), (.ref b263)])) _
      exact q
    obtain ⟨cl292, Ar292, q292, S292, M292, H292, G292⟩ := B288
    have hin292 : ¬ ((5 : Int32) < 0 ∨ cl292.slots.size ≤ ((5 : Int32)).toNatClampNeg) := inb_of S292 ⟨by decide, by decide⟩
    obtain ⟨T293, h293, X293, e293, W293, st293⟩ := stZ X288 hx hZ e288 Ar292 (j := (5 : Int32)) hin292 (g := (mkF m 40 #[iv q1, iv 5, rv a_CANCELLED, .unset] [(.int 1), (.int 5), (.ref b263), (.ref b263)])) rfl rfl (hb hby at_40)
    have B293 : Arv Z h293 b263 c263 .boolean (6 : Int32) [(.int 1), (.int 0), (.int 0), (.int 1), (.int 0), (.int 1)] (.int 0) := Arv.set Ar292 q292 S292 M292 H292 G292 (fits_nar_bool _) W293 5 rfl (Nat.le_of_ble_eq_true rfl)
    have N293 := Fr.snoc X293 N288 g_b263
    have O_294 := O_289.wr W293 g_b263
    have K_295 := K_290.wr W293 (Or.inr sz_b263)
    have k_296 : Go p.tables e below (s₁.setTop (entryFrame m #[(.int q1)] maxLocals)) (T293.setTop (mkF m 43 #[iv q1, iv 5, rv a_CANCELLED, rv b263] [(.ref a_CANCELLED)])) := fun t q => by
      refine k_291 t ?_
      refine st293 _ ?_
      show Steps _ _ _ (T293.setTop (mkF m 41 #[iv q1, iv 5, rv a_CANCELLED, .unset] [(.ref b263)])) _
      refine XS.astoreN X293.here hx rfl (hb hby at_41) rfl rfl (l' := #[iv q1, iv 5, rv a_CANCELLED, rv b263]) rfl ?_
      show Steps _ _ _ (T293.setTop (mkF m 42 #[iv q1, iv 5, rv a_CANCELLED, rv b263] [])) _
      refine XS.aloadN X293.here hx rfl (hb hby at_42) rfl rfl ?_
      show Steps _ _ _ (T293.setTop (mkF m 43 #[iv q1, iv 5, rv a_CANCELLED, rv b263] [(.ref a_CANCELLED)])) _
      exact q
    obtain ⟨cq297, kq297, q297a, q297b, q297c⟩ := isOf hZ e293 (Exa.ext O_294.2 E_CANCELLED)
    obtain ⟨_, _, ⟨T297, L297, k297, n297⟩, -, X297, ⟨Lc297, hQ297, l297, y297, z297⟩, st297⟩ := X293.virtualBack hx (y := y_1) (z := y_1) hown (mvT hZ (hw _ (wd 9 rfl))) (mvT hZ (hw _ (wd 10 rfl))) (notFace_of_selects (args := #[]) (mvT hZ (hw _ (wd 12 rfl)))) (mvT hZ (hw _ (wd 12 rfl))) (mvT hZ (hw _ (wd 11 rfl))) (by decide) (backOf (W := 0) (er_5 l Z a0 hw [] a_SUCCESS a_FAIL a_RETRY a_CANCELLED a_PARTIAL_SUCCESS a_SKIPPED G  h293 n0 O_294 ) hZ (hw _ (wd 13 rfl)) (hw _ (wd 6 rfl)) (by decide) (by decide)) q297a q297c (g := (mkF m 43 #[iv q1, iv 5, rv a_CANCELLED, rv b263] [(.ref a_CANCELLED)])) rfl (by rw [hml]; rfl) (Steps.refl _) (argsL := []) (rest := []) (lenOf pd_1 rfl) rfl (by show 2 * 0 + _ ≤ _; exact Nat.le_of_eq rfl) (hb hby at_43) (fun _ _ => ⟨rfl, e293, (by decide : 1 + 0 ≤ _), (by decide : 6 + 0 ≤ _)⟩)
    dsimp only [Pt.U, Pt.locs, Pt.cells, Pt.slots] at X297 l297 y297 z297 st297 hQ297
    subst l297 y297 z297
    obtain ⟨rfl, N297q, e297⟩ := hQ297
    have N297 := Fr.app N293 N297q
    have k_298 : Go p.tables e below (s₁.setTop (entryFrame m #[(.int q1)] maxLocals)) (T297.setTop (mkF m 48 #[iv q1, iv 5, rv a_CANCELLED, rv b263] [(.int 5), (.ref b263), (.int 1)])) := fun t q => by
      refine k_296 t ?_
      refine st297.trans ?_
      show Steps _ _ _ (T297.setTop (mkF m 46 #[iv q1, iv 5, rv a_CANCELLED, rv b263] [(.int 1)])) _
      refine XS.aloadN X297.here hx rfl (hb hby at_46) rfl rfl ?_
      show Steps _ _ _ (T297.setTop (mkF m 47 #[iv q1, iv 5, rv a_CANCELLED, rv b263] [(.ref b263), (.int 1)])) _
      refine XS.iloadN X297.here hx rfl (hb hby at_47) rfl ?_
      show Steps _ _ _ (T297.setTop (mkF m 48 #[iv q1, iv 5, rv a_CANCELLED, rv b263] [(.int 5), (.ref b263), (.int 1)])) _
      exact q
    obtain ⟨cl299, Ar299, q299, S299, M299, H299, G299⟩ := B293
    have hin299 : ¬ ((5 : Int32) < 0 ∨ cl299.slots.size ≤ ((5 : Int32)).toNatClampNeg) := inb_of S299 ⟨by decide, by decide⟩
    have hat299 : cl299.slots[((5 : Int32)).toNatClampNeg]? = some (.int 1) := Has.at H299 hin299 rfl
    have k_300 : Go p.tables e below (s₁.setTop (entryFrame m #[(.int q1)] maxLocals)) (T297.setTop (mkF m 57 #[iv q1, iv 5, rv a_CANCELLED, rv b263] [(.int 1)])) := fun t q => by
      refine k_298 t ?_
      refine X297.baloadBooleans hx (j := (5 : Int32)) (v := (.int 1)) (by rw [e297]; exact Ar299.1) (State.isArrayOf_alike hZ.alike Ar299.2.1) Ar299.2.2 hin299 hat299 (g := (mkF m 48 #[iv q1, iv 5, rv a_CANCELLED, rv b263] [(.int 5), (.ref b263), (.int 1)])) rfl rfl (hb hby at_48) _ ?_
      show Steps _ _ _ (T297.setTop (mkF m 49 #[iv q1, iv 5, rv a_CANCELLED, rv b263] [(.int 1), (.int 1)])) _
      refine XS.icmpNo X297.here hx rfl (hb hby at_49) rfl (by decide) ?_
      show Steps _ _ _ (T297.setTop (mkF m 52 #[iv q1, iv 5, rv a_CANCELLED, rv b263] [])) _
      refine XS.iconst X297.here hx rfl (hb hby at_52) ?_
      show Steps _ _ _ (T297.setTop (mkF m 53 #[iv q1, iv 5, rv a_CANCELLED, rv b263] [(.int 1)])) _
      refine XS.goto X297.here hx rfl (pc0 := 53) (pc' := 57) rfl (hb hby at_53) (by decide) (by decide) ?_
      show Steps _ _ _ (T297.setTop (mkF m 57 #[iv q1, iv 5, rv a_CANCELLED, rv b263] [(.int 1)])) _
      exact q
    obtain ⟨fs, hr, hrun, hended, hW, hsame⟩ := X297.leave (v := some (.int 1)) (fun h => by rw [Bd.returns] at h; cases h)
    refine ⟨_, _, k_300 _ ?_, hrun, hended, _, _, rfl, ?_, ⟨_, rfl⟩, hW, hsame.mono (by decide) (by decide)⟩
    · exact retN X297 hx (t := .boolean) Bd.returns (by simp) (hb hby at_57) hr
    · show Q0 n0 _ T297.heap _
      rw [e297]
      exact ⟨rfl, N297⟩
set_option maxRecDepth 65536 in
set_option maxHeartbeats 40000000 in
theorem comes_1 {Post : Tables → Env → Array Value → State → Outcome → State → Prop} (hpost : ∀ tb e args s v u, (limb_1_1.after args s (.returned v) u = true ∧ limb_1_2.after args s (.returned v) u = true ∧ True) → FrameEnd s (.returned v) u (Jvm.fieldLocs frame_1_writes args s ++ Jvm.arrayLocs frame_1_arrays args s ++ Jvm.staticLocs frame_1_statics s) 16 128 → Post tb e args s (.returned v) u) :
    ArmFor flags0 classFile x code maxLocals ret World_1 tables_1 room_1 Calls_1 rest_1 Pre_1 Post := by
  intro l hfl _ _ p e ha hc hk s m args below hf hA hF happ hP
  obtain ⟨hcalls, hrest, hpre⟩ := hP
  obtain ⟨-, -, -, hnamed, -, -, -, hat⟩ := (Spec.applies_iff hf).mp happ
  obtain ⟨hg, hn⟩ := and_e (Cond.before_iff.mp (show (Jvm.Cond.and given_1 narrow_1).before args s = true from hpre))
  obtain ⟨g0, c0⟩ := and_e hg
  obtain ⟨w0, rfl⟩ : ∃ w0 : Value, args = #[w0] := by
    have hs : args.size = 1 := by simpa [Cond.value, given_1] using g0
    obtain ⟨L⟩ := args
    match L, hs with
    | [w0], _ => exact ⟨w0, rfl⟩
  have hw := fun d (hd : d ∈ tables_1) => atoms_spec (ws := Jvm.Cond.code x code maxLocals ret :: tables_1) hat d (List.mem_cons_of_mem _ hd)
  obtain ⟨i0, ei0⟩ := is_v c0
  obtain rfl : w0 = (.int i0) := Option.some.inj ei0
  obtain ⟨n0, r0⟩ := and_e hn
  obtain ⟨n1, r1⟩ := and_e r0
  obtain ⟨n2, r2⟩ := and_e r1
  obtain ⟨n3, r3⟩ := and_e r2
  obtain ⟨n4, r4⟩ := and_e r3
  obtain ⟨n5, r5⟩ := and_e r4
  obtain ⟨n6, r6⟩ := and_e r5
  obtain ⟨n7, r7⟩ := and_e r6
  obtain ⟨n8, r8⟩ := and_e r7
  obtain ⟨n9, r9⟩ := and_e r8
  obtain ⟨n10, r10⟩ := and_e r9
  obtain ⟨a_SUCCESS, v_SUCCESS⟩ := exa_v n0
  have E_SUCCESS := Exa.start v_SUCCESS n0
  have S_SUCCESS := Sta.start v_SUCCESS (Or.inr ⟨(hw _ (wd 6 rfl)), (hw _ (wd 7 rfl))⟩)
  obtain ⟨a_FAIL, v_FAIL⟩ := exa_v n1
  have E_FAIL := Exa.start v_FAIL n1
  have S_FAIL := Sta.start v_FAIL (Or.inr ⟨(hw _ (wd 6 rfl)), (hw _ (wd 16 rfl))⟩)
  obtain ⟨a_RETRY, v_RETRY⟩ := exa_v n4
  have E_RETRY := Exa.start v_RETRY n4
  have S_RETRY := Sta.start v_RETRY (Or.inr ⟨(hw _ (wd 6 rfl)), (hw _ (wd 19 rfl))⟩)
  obtain ⟨a_CANCELLED, v_CANCELLED⟩ := exa_v n6
  have E_CANCELLED := Exa.start v_CANCELLED n6
  have S_CANCELLED := Sta.start v_CANCELLED (Or.inr ⟨(hw _ (wd 6 rfl)), (hw _ (wd 21 rfl))⟩)
  obtain ⟨a_PARTIAL_SUCCESS, v_PARTIAL_SUCCESS⟩ := exa_v n8
  have E_PARTIAL_SUCCESS := Exa.start v_PARTIAL_SUCCESS n8
  have S_PARTIAL_SUCCESS := Sta.start v_PARTIAL_SUCCESS (Or.inr ⟨(hw _ (wd 6 rfl)), (hw _ (wd 23 rfl))⟩)
  obtain ⟨a_SKIPPED, v_SKIPPED⟩ := exa_v n10
  have E_SKIPPED := Exa.start v_SKIPPED n10
  have S_SKIPPED := Sta.start v_SKIPPED (Or.inr ⟨(hw _ (wd 6 rfl)), (hw _ (wd 26 rfl))⟩)
  have R_FAIL_ordinal := own_fld v_FAIL n2
  have R_SUCCESS_ordinal := own_fld v_SUCCESS n3
  have R_RETRY_ordinal := own_fld v_RETRY n5
  have R_CANCELLED_ordinal := own_fld v_CANCELLED n7
  have R_PARTIAL_SUCCESS_ordinal := own_fld v_PARTIAL_SUCCESS n9
  have R_SKIPPED_ordinal := own_fld v_SKIPPED r10
  have G : Own s a_SUCCESS a_FAIL a_RETRY a_CANCELLED a_PARTIAL_SUCCESS a_SKIPPED := ⟨S_SUCCESS, E_SUCCESS, S_FAIL, E_FAIL, S_RETRY, E_RETRY, S_CANCELLED, E_CANCELLED, S_PARTIAL_SUCCESS, E_PARTIAL_SUCCESS, S_SKIPPED, E_SKIPPED, R_FAIL_ordinal, R_SUCCESS_ordinal, R_RETRY_ordinal, R_CANCELLED_ordinal, R_PARTIAL_SUCCESS_ordinal, R_SKIPPED_ordinal⟩
  obtain ⟨n, o, h1, h2, h3, _, L, rfl, ⟨rfl, N⟩, hq⟩ := rm0 l s _ hw tables_1 a_SUCCESS a_FAIL a_RETRY a_CANCELLED a_PARTIAL_SUCCESS a_SKIPPED G i0 s.heap s.heap.size (Old.start s) p e ha hc hk s m _ below hf ((Spec.applies_iff_loose hf).mp happ).1 ⟨rfl, State.Warmed39.refl s, rfl⟩ trivial
  refine ⟨n, _, h1, h2, h3, hpost _ _ _ _ _ _ ⟨Cond.after_iff.mpr rfl, Cond.after_iff.mpr (eq_i res_at (Term.int_eval (1)) rfl), trivial⟩ ⟨hq.1, hq.2.1, (hq.2.2.sift fun y hy => Or.inr (N y hy)).mono (by decide) (by decide)⟩⟩
theorem main_1_1 : Claimed_1_1 := comes_1 fun _ _ _ _ _ _ h hF => ⟨h.1, hF⟩
theorem main_1_2 : Claimed_1_2 := comes_1 fun _ _ _ _ _ _ h hF => ⟨h.2.1, hF⟩
end Jvm.Pilot.@@N@@
namespace Jvm.Pilot.@@N@@
open Jvm Jvm.ClassFile Sem Op Lib Jvm.Free Jvm.Stand Jvm.Pilot.@@N@@.Jvm.D
/-! MADE BY PROGRAM (witnessworld.py) out of the Statement's table words and the real class files: 14 classes; the members and pool entries that the words name. The judged class is class 1, her method 2. -/
namespace start1
open Jvm.ClassFile
def u (s : String) : CpInfo := .utf8 (stringToUtf16 s)
/-- a pool by its gaps: so many unusable entries, then the entry; so many at the end -/
def gap : Nat → List CpInfo → List CpInfo
  | 0, r => r
  | n + 1, r => .unusable :: gap n r
def poolList (es : List (Nat × CpInfo)) (last : Nat) : List CpInfo := es.foldr (fun e r => gap e.1 (e.2 :: r)) (gap last [])
def pool (es : List (Nat × CpInfo)) (last : Nat) : Array CpInfo := ⟨poolList es last⟩
def fileOf (pool : Array CpInfo) (this : Nat) (attrs : Array Attribute := #[]) (ms : Array MethodInfo := #[]) (fl : Nat := 33) (sup : Nat := 0) (ifs : Array Nat := #[]) (fds : Array FieldInfo := #[]) : ClassFile where
  minorVersion := 0
  majorVersion := 65
  constantPool := pool
  accessFlags := fl
  thisClass := this
  superClass := sup
  interfaces := ifs
  fields := fds
  methods := ms
  attributes := attrs
def plain (name : String) (sup : Option ClassId) : Class where
  name := name
  kind := .ordinary
  loader := none
  accessFlags := 33
  super := sup
  interfaces := #[]
  cf := none
  fields := #[]
  methods := #[]
  instanceTypes := #[]
  staticTypes := #[]
  resolved := #[]
  callSites := []
  init := .initialized
  statics := none
  mirror := none

def pool0 : Array CpInfo := pool [(5, u "<init>"), (0, u "()V"), (1, .class_ 10), (1, u "java/lang/Object")] 113

def k0m0 : Method := { name := "<init>", desc := "()V", sig := { parameters := [], returnType := none }, accessFlags := 1, code := none }
/-- java/lang/Object -/
def k0 : Class := { plain "java/lang/Object" none with
  accessFlags := 33
  interfaces := #[]
  cf := some (fileOf pool0 8 #[] #[{ accessFlags := 1, nameIndex := 5, descriptorIndex := 6, attributes := #[] }] 33 0 #[] #[])
  fields := #[]
  methods := #[k0m0]
  instanceTypes := #[]
  staticTypes := #[]
  resolved := Array.replicate 124 none
  statics := none }

def pool1 : Array CpInfo := pool [(2, .class_ 4), (1, u "java/lang/Object"), (0, u "<init>"), (0, u "()V"), (0, .fieldref 8 9), (0, .class_ 10), (0, .nameAndType 11 12), (0, u "com/example/theseus/theseus/engine/Outcome"), (0, u "SUCCESS"), (0, u "Lcom/example/theseus/theseus/engine/Outcome;"), (0, .fieldref 8 14), (0, .nameAndType 15 12), (0, u "PARTIAL_SUCCESS"), (0, .fieldref 8 17), (0, .nameAndType 18 12), (0, u "RETRY"), (0, .fieldref 8 20), (0, .nameAndType 21 12), (0, u "FAIL"), (0, .fieldref 8 23), (0, .nameAndType 24 12), (0, u "SKIPPED"), (0, .fieldref 8 26), (0, .nameAndType 27 12), (0, u "CANCELLED"), (0, .integer 2147483647), (0, .methodref 30 31), (0, .class_ 32), (0, .nameAndType 33 34), (0, u "com/example/theseus/theseus/engine/OutcomeEndsARunPinLaw"), (0, u "pick"), (0, u "(I)Lcom/example/theseus/theseus/engine/Outcome;"), (0, .methodref 8 36), (0, .nameAndType 37 38), (0, u "endsARun"), (0, u "()Z"), (3, u "law"), (0, u "(I)Z")] 4

def k1m0 : Method := { name := "<init>", desc := "()V", sig := { parameters := [], returnType := none }, accessFlags := 2, code := none }
def k1c1 : Code := { maxStack := 2, maxLocals := 1, code := method_2_code, exceptionTable := #[], attributes := #[] }
def k1m1 : Method := { name := "pick", desc := "(I)Lcom/example/theseus/theseus/engine/Outcome;", sig := { parameters := [.int], returnType := some (.object "com/example/theseus/theseus/engine/Outcome") }, accessFlags := 10, code := some k1c1 }
def k1c2 : Code := { maxStack := 4, maxLocals := 4, code := code, exceptionTable := #[], attributes := #[] }
def k1m2 : Method := { name := "law", desc := "(I)Z", sig := { parameters := [.int], returnType := some .boolean }, accessFlags := 9, code := some k1c2 }
/-- com/example/theseus/theseus/engine/OutcomeEndsARunPinLaw -/
def k1 : Class := { plain "com/example/theseus/theseus/engine/OutcomeEndsARunPinLaw" (some 0) with
  accessFlags := 49
  interfaces := #[]
  cf := some (fileOf pool1 30 #[] #[{ accessFlags := 2, nameIndex := 5, descriptorIndex := 6, attributes := #[] }, { accessFlags := 10, nameIndex := 33, descriptorIndex := 34, attributes := #[] }, { accessFlags := 9, nameIndex := 42, descriptorIndex := 43, attributes := #[] }] 49 2 #[] #[])
  fields := #[]
  methods := #[k1m0, k1m1, k1m2]
  instanceTypes := #[]
  staticTypes := #[]
  resolved := Array.replicate 48 none
  statics := none }

def pool2 : Array CpInfo := pool [(1, .class_ 2), (0, u "java/lang/constant/Constable"), (0, .class_ 4), (0, u "java/lang/Object")] 6

/-- java/lang/constant/Constable -/
def k2 : Class := { plain "java/lang/constant/Constable" (some 0) with
  accessFlags := 1537
  interfaces := #[]
  cf := some (fileOf pool2 1 #[] #[] 1537 3 #[] #[])
  fields := #[]
  methods := #[]
  instanceTypes := #[]
  staticTypes := #[]
  resolved := Array.replicate 11 none
  statics := none }

def pool3 : Array CpInfo := pool [(1, .class_ 2), (0, u "java/lang/Comparable"), (0, .class_ 4), (0, u "java/lang/Object")] 7

/-- java/lang/Comparable -/
def k3 : Class := { plain "java/lang/Comparable" (some 0) with
  accessFlags := 1537
  interfaces := #[]
  cf := some (fileOf pool3 1 #[] #[] 1537 3 #[] #[])
  fields := #[]
  methods := #[]
  instanceTypes := #[]
  staticTypes := #[]
  resolved := Array.replicate 12 none
  statics := none }

def pool4 : Array CpInfo := pool [(1, .class_ 2), (0, u "java/io/Serializable"), (0, .class_ 4), (0, u "java/lang/Object")] 2

/-- java/io/Serializable -/
def k4 : Class := { plain "java/io/Serializable" (some 0) with
  accessFlags := 1537
  interfaces := #[]
  cf := some (fileOf pool4 1 #[] #[] 1537 3 #[] #[])
  fields := #[]
  methods := #[]
  instanceTypes := #[]
  staticTypes := #[]
  resolved := Array.replicate 7 none
  statics := none }

def pool5 : Array CpInfo := pool [(2, .class_ 4), (1, u "java/lang/Enum"), (0, u "name"), (0, u "Ljava/lang/String;"), (2, u "ordinal"), (0, u "I"), (1, .class_ 14), (1, u "java/lang/Object"), (4, u "hash"), (86, .class_ 108), (1, u "java/lang/Enum$EnumDesc"), (2, .class_ 112), (0, u "java/lang/constant/Constable"), (0, .class_ 114), (0, u "java/lang/Comparable"), (0, .class_ 116), (0, u "java/io/Serializable")] 87

/-- java/lang/Enum -/
def k5 : Class := { plain "java/lang/Enum" (some 0) with
  accessFlags := 1057
  interfaces := #[2, 3, 4]
  cf := some (fileOf pool5 2 #[.nestMembers #[106]] #[] 1057 12 #[111, 113, 115] #[{ accessFlags := 18, nameIndex := 5, descriptorIndex := 6, attributes := #[] }, { accessFlags := 18, nameIndex := 9, descriptorIndex := 10, attributes := #[] }, { accessFlags := 2, nameIndex := 19, descriptorIndex := 10, attributes := #[] }])
  fields := #[{ name := "name", type := (.object "java/lang/String"), accessFlags := 18, slot := 0, constantValue := 0 }, { name := "ordinal", type := .int, accessFlags := 18, slot := 1, constantValue := 0 }, { name := "hash", type := .int, accessFlags := 2, slot := 2, constantValue := 0 }]
  methods := #[]
  instanceTypes := #[(.object "java/lang/String"), .int, .int]
  staticTypes := #[]
  resolved := Array.replicate 204 none
  statics := none }

def pool6 : Array CpInfo := pool [(1, .class_ 2), (0, u "com/example/theseus/theseus/engine/Outcome"), (0, .fieldref 1 4), (0, .nameAndType 5 6), (0, u "SUCCESS"), (0, u "Lcom/example/theseus/theseus/engine/Outcome;"), (2, u "PARTIAL_SUCCESS"), (2, u "RETRY"), (0, .fieldref 1 14), (0, .nameAndType 15 6), (0, u "FAIL"), (2, u "SKIPPED"), (0, .fieldref 1 20), (0, .nameAndType 21 6), (0, u "CANCELLED"), (2, u "$VALUES"), (0, u "[Lcom/example/theseus/theseus/engine/Outcome;"), (6, .class_ 34), (1, u "java/lang/Enum"), (24, u "label"), (0, u "Ljava/lang/String;"), (23, u "()Z"), (38, u "endsARun")] 27

def k6c0 : Code := { maxStack := 2, maxLocals := 1, code := prog_41_method_6_code, exceptionTable := #[], attributes := #[] }
def k6m0 : Method := { name := "endsARun", desc := "()Z", sig := { parameters := [], returnType := some .boolean }, accessFlags := 1, code := some k6c0 }
/-- com/example/theseus/theseus/engine/Outcome -/
def k6 : Class := { plain "com/example/theseus/theseus/engine/Outcome" (some 5) with
  accessFlags := 16433
  interfaces := #[]
  cf := some (fileOf pool6 1 #[] #[{ accessFlags := 1, nameIndex := 123, descriptorIndex := 84, attributes := #[] }] 16433 32 #[] #[{ accessFlags := 16409, nameIndex := 5, descriptorIndex := 6, attributes := #[] }, { accessFlags := 16409, nameIndex := 9, descriptorIndex := 6, attributes := #[] }, { accessFlags := 16409, nameIndex := 12, descriptorIndex := 6, attributes := #[] }, { accessFlags := 16409, nameIndex := 15, descriptorIndex := 6, attributes := #[] }, { accessFlags := 16409, nameIndex := 18, descriptorIndex := 6, attributes := #[] }, { accessFlags := 16409, nameIndex := 21, descriptorIndex := 6, attributes := #[] }, { accessFlags := 18, nameIndex := 59, descriptorIndex := 60, attributes := #[] }, { accessFlags := 4122, nameIndex := 24, descriptorIndex := 25, attributes := #[] }])
  fields := #[{ name := "SUCCESS", type := (.object "com/example/theseus/theseus/engine/Outcome"), accessFlags := 16409, slot := 0, constantValue := 0 }, { name := "PARTIAL_SUCCESS", type := (.object "com/example/theseus/theseus/engine/Outcome"), accessFlags := 16409, slot := 1, constantValue := 0 }, { name := "RETRY", type := (.object "com/example/theseus/theseus/engine/Outcome"), accessFlags := 16409, slot := 2, constantValue := 0 }, { name := "FAIL", type := (.object "com/example/theseus/theseus/engine/Outcome"), accessFlags := 16409, slot := 3, constantValue := 0 }, { name := "SKIPPED", type := (.object "com/example/theseus/theseus/engine/Outcome"), accessFlags := 16409, slot := 4, constantValue := 0 }, { name := "CANCELLED", type := (.object "com/example/theseus/theseus/engine/Outcome"), accessFlags := 16409, slot := 5, constantValue := 0 }, { name := "label", type := (.object "java/lang/String"), accessFlags := 18, slot := 3, constantValue := 0 }, { name := "$VALUES", type := (.array (.object "com/example/theseus/theseus/engine/Outcome")), accessFlags := 4122, slot := 6, constantValue := 0 }]
  methods := #[k6m0]
  instanceTypes := #[(.object "java/lang/String"), .int, .int, (.object "java/lang/String")]
  staticTypes := #[(.object "com/example/theseus/theseus/engine/Outcome"), (.object "com/example/theseus/theseus/engine/Outcome"), (.object "com/example/theseus/theseus/engine/Outcome"), (.object "com/example/theseus/theseus/engine/Outcome"), (.object "com/example/theseus/theseus/engine/Outcome"), (.object "com/example/theseus/theseus/engine/Outcome"), (.array (.object "com/example/theseus/theseus/engine/Outcome"))]
  resolved := Array.replicate 151 none
  statics := some 0 }

def pool7 : Array CpInfo := pool [(1, u "java/lang/Cloneable"), (0, .class_ 1), (0, u "java/lang/Object"), (0, .class_ 3)] 3

/-- java/lang/Cloneable -/
def k7 : Class := { plain "java/lang/Cloneable" (some 0) with
  accessFlags := 1537
  interfaces := #[]
  cf := some (fileOf pool7 2 #[] #[] 1537 4 #[] #[])
  fields := #[]
  methods := #[]
  instanceTypes := #[]
  staticTypes := #[]
  resolved := Array.replicate 8 none
  statics := none }

/-- the primitive boolean -/
def k8 : Class := { plain "boolean" none with kind := .primitive 'Z', accessFlags := 0x411 }
/-- [Z -/
def k9 : Class := { plain "[Z" (some 0) with kind := .array 8 .boolean, interfaces := #[7, 4], accessFlags := 1041 }

/-- the primitive byte -/
def k10 : Class := { plain "byte" none with kind := .primitive 'B', accessFlags := 0x411 }
/-- [B -/
def k11 : Class := { plain "[B" (some 0) with kind := .array 10 .byte, interfaces := #[7, 4], accessFlags := 1041 }

/-- the primitive int -/
def k12 : Class := { plain "int" none with kind := .primitive 'I', accessFlags := 0x411 }
/-- [I -/
def k13 : Class := { plain "[I" (some 0) with kind := .array 12 .int, interfaces := #[7, 4], accessFlags := 1041 }

def heap : Heap := #[{ cls := 6, slots := #[.ref 1, .ref 5, .ref 3, .ref 2, .ref 6, .ref 4, .null], vm := .statics 6 },
  { cls := 6, slots := #[.null, .int 0, .int 0, .null], vm := .none },
  { cls := 6, slots := #[.null, .int 3, .int 0, .null], vm := .none },
  { cls := 6, slots := #[.null, .int 2, .int 0, .null], vm := .none },
  { cls := 6, slots := #[.null, .int 5, .int 0, .null], vm := .none },
  { cls := 6, slots := #[.null, .int 1, .int 0, .null], vm := .none },
  { cls := 6, slots := #[.null, .int 4, .int 0, .null], vm := .none }]
def classes : Array Class := #[k0, k1, k2, k3, k4, k5, k6, k7, k8, k9, k10, k11, k12, k13]
def interned : List (Array UInt16 × Addr) := []
def slotsUsed : Nat := 31
def theMethod : MethodId := ⟨1, 2⟩
def args0 : Array Value := #[.int 5]
def aboutOver (below : List Frame) : State where
  vm := { classes := classes, interned := interned.toArray }
  heap := heap
  slotsUsed := slotsUsed
  threads := #[{ frames := .invoking theMethod args0 :: below }]
def below0 : List Frame := [.native { method := ⟨0, 0⟩, args := #[] }]
def about1 : State := aboutOver below0
def p0 : Program := .bare "" "" ""
def e0 : Env := launch0.env 0 0 0
theorem w_frames : about1.frames = Frame.invoking theMethod args0 :: below0 := rfl
set_option maxRecDepth 65536 in
theorem w_args : argsFit about1.vm theMethod args0 = true := by decide +kernel
set_option maxRecDepth 65536 in
theorem w_heap : heapFits about1 = true := by decide +kernel
set_option maxRecDepth 65536 in
theorem w_runnable : about1.curStatus? = some .runnable := by decide +kernel
set_option maxRecDepth 65536 in
theorem w_alone : about1.alone = true := by decide +kernel
set_option maxRecDepth 65536 in
theorem w_named : about1.methodNamed? x = some theMethod := by decide +kernel
set_option maxRecDepth 65536 in
theorem w_hears : about1.hears theMethod below0 = true := by decide +kernel
set_option maxRecDepth 65536 in
theorem w_ripe : about1.ripe theMethod args0 below0 = true := by decide +kernel
theorem w_running : about1.status = .running := rfl
set_option maxRecDepth 65536 in
theorem w_room : about1.hasRoom e0.platform room_1 = true :=
  launch0.hasRoom_least _ room_1 (by decide +kernel) (by decide +kernel) (by decide +kernel) (by decide +kernel) (by decide +kernel) (by decide +kernel)
theorem allAtoms_all (ts : List Jvm.Cond) (a : Array Jvm.Value) (st : Jvm.State) : (allAtoms ts).before a st = ts.all (fun c => c.before a st) := by
  induction ts with
  | nil => rfl
  | cons c t ih =>
    show (Jvm.Cond.and c (allAtoms t)).before a st = _
    rw [Jvm.Cond.before_and, ih, List.all_cons]
def words1 : List Jvm.Cond := Jvm.Cond.code x code maxLocals ret :: tables_1
/-- a 'code' word, met by the world's own term for the bytes: nothing is compared byte by byte -/
theorem code_word {y : MethodName} {bytes : ByteArray} {mx : Nat} {rt : Option FieldType} {a : Array Value} {s : State} {m : MethodId} {meth : Method} {c : Code} (h1 : s.methodNamed? y = some m) (h2 : s.vm.method? m = some meth) (h3 : meth.code = some c) (h4 : c.code = bytes)
    (h5 : (c.maxLocals == mx && c.exceptionTable.isEmpty && decide (c.maxStack ≤ mostOperands) && decide (meth.sig.returnType = rt) && !meth.locks && decide (parseMethodDescriptor y.desc = some meth.sig)) = true) : (Jvm.Cond.code y bytes mx rt).before a s = true := by
  simp only [Bool.and_eq_true, beq_iff_eq, Bool.not_eq_true', decide_eq_true_eq] at h5
  obtain ⟨⟨⟨⟨⟨g1, g2⟩, g3⟩, g4⟩, g5⟩, g6⟩ := h5
  simp [Cond.before, Cond.holds, Cond.value, h1, h2, h3, h4, g1, g2, g3, g4, g5, g6]
def isCode : Jvm.Cond → Bool
  | .code _ _ _ _ => true
  | _ => false
theorem all_split {L : List Jvm.Cond} {P : Jvm.Cond → Bool} (h1 : L.all (fun c => isCode c || P c) = true) (h2 : ∀ c ∈ L.filter isCode, P c = true) : L.all P = true := by
  refine List.all_eq_true.mpr fun c hc => ?_
  have h := List.all_eq_true.mp h1 c hc
  rcases Bool.eq_false_or_eq_true (isCode c) with hi | hi
  · exact h2 c (List.mem_filter.mpr ⟨hc, hi⟩)
  · simpa [hi] using h
set_option maxRecDepth 65536 in
theorem w_c0 : (Jvm.Cond.code x code maxLocals ret).before args0 about1 = true := code_word (m := ⟨1, 2⟩) (meth := k1m2) (c := k1c2) (by decide +kernel) rfl rfl rfl (by decide +kernel)
set_option maxRecDepth 65536 in
theorem w_c1 : (Jvm.Cond.code ({ cls := "com/example/theseus/theseus/engine/OutcomeEndsARunPinLaw", name := "pick", desc := "(I)Lcom/example/theseus/theseus/engine/Outcome;" } : Jvm.MethodName) method_2_code (1 : Nat) (Option.some (Jvm.ClassFile.FieldType.object "com/example/theseus/theseus/engine/Outcome"))).before args0 about1 = true := code_word (m := ⟨1, 1⟩) (meth := k1m1) (c := k1c1) (by decide +kernel) rfl rfl rfl (by decide +kernel)
set_option maxRecDepth 65536 in
theorem w_c2 : (Jvm.Cond.code ({ cls := "com/example/theseus/theseus/engine/Outcome", name := "endsARun", desc := "()Z" } : Jvm.MethodName) prog_41_method_6_code (1 : Nat) (Option.some Jvm.ClassFile.FieldType.boolean)).before args0 about1 = true := code_word (m := ⟨6, 0⟩) (meth := k6m0) (c := k6c0) (by decide +kernel) rfl rfl rfl (by decide +kernel)
def codes1 : List Jvm.Cond := [Jvm.Cond.code x code maxLocals ret, Jvm.Cond.code ({ cls := "com/example/theseus/theseus/engine/OutcomeEndsARunPinLaw", name := "pick", desc := "(I)Lcom/example/theseus/theseus/engine/Outcome;" } : Jvm.MethodName) method_2_code (1 : Nat) (Option.some (Jvm.ClassFile.FieldType.object "com/example/theseus/theseus/engine/Outcome")), Jvm.Cond.code ({ cls := "com/example/theseus/theseus/engine/Outcome", name := "endsARun", desc := "()Z" } : Jvm.MethodName) prog_41_method_6_code (1 : Nat) (Option.some Jvm.ClassFile.FieldType.boolean)]
set_option maxRecDepth 65536 in
theorem codes_eq : words1.filter isCode = codes1 := rfl
theorem w_codes : ∀ c ∈ words1.filter isCode, c.before args0 about1 = true := by
  rw [codes_eq]
  intro c hc
  simp only [codes1, List.mem_cons, List.not_mem_nil, or_false] at hc
  rcases hc with rfl | rfl | rfl
  · exact w_c0
  · exact w_c1
  · exact w_c2
set_option maxRecDepth 65536 in
theorem w_t1 : (words1.take 24).all (fun c => isCode c || c.before args0 about1) = true := by decide +kernel
set_option maxRecDepth 65536 in
theorem w_t2 : (words1.drop 24).all (fun c => isCode c || c.before args0 about1) = true := by decide +kernel
theorem w_tables : (allAtoms (Jvm.Cond.code x code maxLocals ret :: tables_1)).before args0 about1 = true := by
  rw [allAtoms_all]
  show words1.all (fun c => c.before args0 about1) = true
  refine all_split ?_ w_codes
  rw [← List.take_append_drop 24 words1, List.all_append, w_t1, w_t2]
  rfl
set_option maxRecDepth 65536 in
theorem w_case : (Jvm.Cond.and given_1 narrow_1).before args0 about1 = true := by decide +kernel
theorem w_applies : (headSpec (Jvm.Cond.code x code maxLocals ret :: tables_1) room_1).applies x e0.platform about1 = true :=
  (Spec.applies_iff w_frames).mpr ⟨w_running, w_runnable, w_alone, w_named, w_hears, w_ripe, w_room, w_tables⟩
theorem atStart : AtStart classFile x code maxLocals ret World_1 tables_1 room_1 Calls_1 rest_1 Pre_1 launch0 p0 e0 about1 theMethod args0 below0 :=
  ⟨lists_1, trivial, launch0.admits_env _ _ _, launch0.least_env, fairChoices_fair.cas, fairChoices_fair.clock, w_frames, w_args, w_heap, w_applies, trivial, trivial, w_case⟩
end start1
theorem witness_1 : WitnessClaimed_1 := ⟨start1.p0, start1.e0, start1.about1, start1.theMethod, start1.args0, start1.below0, start1.atStart⟩
end Jvm.Pilot.@@N@@
