import JvmDerived
import JvmDerived.Pilot.@@N@@Statement
import JvmDerived.Pilot.@@N@@Code
set_option linter.unusedVariables false
set_option linter.unusedSimpArgs false
namespace Jvm.Pilot.@@N@@
open Jvm Jvm.ClassFile Sem Op Lib Jvm.Free Jvm.Stand Jvm.LawKit Jvm.RoadKit Bundle Jvm.Pilot.@@N@@.Jvm.D
theorem wd {d : Jvm.Cond} (i : Nat) (h : tables_1[i]? = some d) : d ∈ tables_1 := List.mem_of_getElem? h
def Go (tb : Tables) (e : Env) (below : List Frame) (S0 S : State) : Prop := ∀ t, Steps tb e below S t → Steps tb e below S0 t
theorem own_old_le {Z : State} {n0 : Nat} {h : Heap} (O : Old Z n0 h) : n0 ≤ h.size := O.1 ▸ O.2.1
theorem own_lcmp_self (x : Int64) : lcmpW x x = 0 := by rw [lcW, lc_eq]
theorem own_ne {Z : State} {h : Heap} {a b : Addr} {C n d : String} {i j : Int32} (F : Fld Z h a C n d (.int i)) (G : Fld Z h b C n d (.int j)) (q : i ≠ j) : a ≠ b := F.ne G fun e => q (Value.int.inj e)
theorem own_narrow_ref {v : Value} {n : String} (h : v.isRef = true) : narrow (.object n) v = v := by rcases ref_cases h with rfl | ⟨_, rfl⟩ <;> rfl
theorem own_fits_ref {v : Value} {n : String} (h : v.isRef = true) : fits (.object n) v = true := by rcases ref_cases h with rfl | ⟨_, rfl⟩ <;> rfl
theorem own_narrow_bool {z : Int32} (h : z = 0 ∨ z = 1) : narrow .boolean (.int z) = .int z := by rcases h with rfl | rfl <;> rfl
theorem own_fits_bool {z : Int32} (h : z = 0 ∨ z = 1) : fits .boolean (.int z) = true := by rcases h with rfl | rfl <;> rfl
def QV (w : Option Value) (h0 : Heap) (n0 : Nat) (v : Option Value) (h : Heap) (L : List Loc) : Prop := v = w ∧ Fr n0 L ∧ h = h0
def Q0 (n0 : Nat) (v : Option Value) (h : Heap) (L : List Loc) : Prop := v = some (.int (1 : Int32)) ∧ Fr n0 L
abbrev y_0 : MethodName := ⟨"java/util/Objects", "requireNonNull", "(Ljava/lang/Object;Ljava/lang/String;)Ljava/lang/Object;"⟩
abbrev y_1 : MethodName := ⟨"java/lang/Record", "<init>", "()V"⟩
abbrev y_2 : MethodName := ⟨"com/example/dosewright/dosewright/RenderOptions", "<init>", "(Lcom/example/dosewright/dosewright/FhirVersion;Lcom/example/dosewright/dosewright/DateStyle;Lcom/example/dosewright/dosewright/LineKind;)V"⟩
abbrev y_3 : MethodName := ⟨"com/example/dosewright/dosewright/RenderOptionsWithFhirVersionPinLaw", "version", "(I)Lcom/example/dosewright/dosewright/FhirVersion;"⟩
abbrev y_4 : MethodName := ⟨"com/example/dosewright/dosewright/RenderOptionsWithFhirVersionPinLaw", "style", "(I)Lcom/example/dosewright/dosewright/DateStyle;"⟩
abbrev y_5 : MethodName := ⟨"com/example/dosewright/dosewright/RenderOptionsWithFhirVersionPinLaw", "kind", "(I)Lcom/example/dosewright/dosewright/LineKind;"⟩
abbrev y_6 : MethodName := ⟨"com/example/dosewright/dosewright/RenderOptions", "withFhirVersion", "(Lcom/example/dosewright/dosewright/FhirVersion;)Lcom/example/dosewright/dosewright/RenderOptions;"⟩
abbrev y_7 : MethodName := ⟨"com/example/dosewright/dosewright/RenderOptions", "fhirVersion", "()Lcom/example/dosewright/dosewright/FhirVersion;"⟩
abbrev y_8 : MethodName := ⟨"com/example/dosewright/dosewright/RenderOptions", "dateStyle", "()Lcom/example/dosewright/dosewright/DateStyle;"⟩
abbrev y_9 : MethodName := ⟨"com/example/dosewright/dosewright/RenderOptions", "lineKind", "()Lcom/example/dosewright/dosewright/LineKind;"⟩
theorem d1_0 : decode method_2_code 0 = .ok (.iload_n 0, 1) := by decide +kernel
theorem d1_1 : decode method_2_code 1 = .ok (.iconst 1, 1) := by decide +kernel
theorem d1_2 : decode method_2_code 2 = .ok (.iand, 1) := by decide +kernel
theorem d1_3 : decode method_2_code 3 = .ok (.ifCond .ne 7, 3) := by decide +kernel
theorem d1_6 : decode method_2_code 6 = .ok (.getstatic 7, 3) := by decide +kernel
theorem d1_9 : decode method_2_code 9 = .ok (.areturn, 1) := by decide +kernel
theorem d1_10 : decode method_2_code 10 = .ok (.getstatic 13, 3) := by decide +kernel
theorem d1_13 : decode method_2_code 13 = .ok (.areturn, 1) := by decide +kernel
theorem d2_0 : decode method_3_code 0 = .ok (.iload_n 0, 1) := by decide +kernel
theorem d2_1 : decode method_3_code 1 = .ok (.ldc 16, 2) := by decide +kernel
theorem d2_3 : decode method_3_code 3 = .ok (.iand, 1) := by decide +kernel
theorem d2_4 : decode method_3_code 4 = .ok (.iconst 3, 1) := by decide +kernel
theorem d2_5 : decode method_3_code 5 = .ok (.irem, 1) := by decide +kernel
theorem d2_6 : decode method_3_code 6 = .ok (.istore_n 1, 1) := by decide +kernel
theorem d2_7 : decode method_3_code 7 = .ok (.iload_n 1, 1) := by decide +kernel
theorem d2_8 : decode method_3_code 8 = .ok (.ifCond .ne 7, 3) := by decide +kernel
theorem d2_11 : decode method_3_code 11 = .ok (.getstatic 17, 3) := by decide +kernel
theorem d2_14 : decode method_3_code 14 = .ok (.areturn, 1) := by decide +kernel
theorem d2_15 : decode method_3_code 15 = .ok (.iload_n 1, 1) := by decide +kernel
theorem d2_16 : decode method_3_code 16 = .ok (.iconst 1, 1) := by decide +kernel
theorem d2_17 : decode method_3_code 17 = .ok (.if_icmp .ne 7, 3) := by decide +kernel
theorem d2_20 : decode method_3_code 20 = .ok (.getstatic 23, 3) := by decide +kernel
theorem d2_23 : decode method_3_code 23 = .ok (.areturn, 1) := by decide +kernel
theorem d2_24 : decode method_3_code 24 = .ok (.getstatic 26, 3) := by decide +kernel
theorem d2_27 : decode method_3_code 27 = .ok (.areturn, 1) := by decide +kernel
theorem d3_0 : decode method_4_code 0 = .ok (.iload_n 0, 1) := by decide +kernel
theorem d3_1 : decode method_4_code 1 = .ok (.iconst 1, 1) := by decide +kernel
theorem d3_2 : decode method_4_code 2 = .ok (.iand, 1) := by decide +kernel
theorem d3_3 : decode method_4_code 3 = .ok (.ifCond .ne 7, 3) := by decide +kernel
theorem d3_6 : decode method_4_code 6 = .ok (.getstatic 29, 3) := by decide +kernel
theorem d3_9 : decode method_4_code 9 = .ok (.areturn, 1) := by decide +kernel
theorem d3_10 : decode method_4_code 10 = .ok (.getstatic 35, 3) := by decide +kernel
theorem d3_13 : decode method_4_code 13 = .ok (.areturn, 1) := by decide +kernel
theorem d4_0 : decode prog_24_method_1_code 0 = .ok (.aload_n 0, 1) := by decide +kernel
theorem d4_1 : decode prog_24_method_1_code 1 = .ok (.invokespecial 1, 3) := by decide +kernel
theorem d4_4 : decode prog_24_method_1_code 4 = .ok (.aload_n 1, 1) := by decide +kernel
theorem d4_5 : decode prog_24_method_1_code 5 = .ok (.ldc 7, 2) := by decide +kernel
theorem d4_7 : decode prog_24_method_1_code 7 = .ok (.invokestatic 9, 3) := by decide +kernel
theorem d4_10 : decode prog_24_method_1_code 10 = .ok (.pop, 1) := by decide +kernel
theorem d4_11 : decode prog_24_method_1_code 11 = .ok (.aload_n 2, 1) := by decide +kernel
theorem d4_12 : decode prog_24_method_1_code 12 = .ok (.ldc 15, 2) := by decide +kernel
theorem d4_14 : decode prog_24_method_1_code 14 = .ok (.invokestatic 9, 3) := by decide +kernel
theorem d4_17 : decode prog_24_method_1_code 17 = .ok (.pop, 1) := by decide +kernel
theorem d4_18 : decode prog_24_method_1_code 18 = .ok (.aload_n 3, 1) := by decide +kernel
theorem d4_19 : decode prog_24_method_1_code 19 = .ok (.ldc 17, 2) := by decide +kernel
theorem d4_21 : decode prog_24_method_1_code 21 = .ok (.invokestatic 9, 3) := by decide +kernel
theorem d4_24 : decode prog_24_method_1_code 24 = .ok (.pop, 1) := by decide +kernel
theorem d4_25 : decode prog_24_method_1_code 25 = .ok (.aload_n 0, 1) := by decide +kernel
theorem d4_26 : decode prog_24_method_1_code 26 = .ok (.aload_n 1, 1) := by decide +kernel
theorem d4_27 : decode prog_24_method_1_code 27 = .ok (.putfield 19, 3) := by decide +kernel
theorem d4_30 : decode prog_24_method_1_code 30 = .ok (.aload_n 0, 1) := by decide +kernel
theorem d4_31 : decode prog_24_method_1_code 31 = .ok (.aload_n 2, 1) := by decide +kernel
theorem d4_32 : decode prog_24_method_1_code 32 = .ok (.putfield 24, 3) := by decide +kernel
theorem d4_35 : decode prog_24_method_1_code 35 = .ok (.aload_n 0, 1) := by decide +kernel
theorem d4_36 : decode prog_24_method_1_code 36 = .ok (.aload_n 3, 1) := by decide +kernel
theorem d4_37 : decode prog_24_method_1_code 37 = .ok (.putfield 27, 3) := by decide +kernel
theorem d4_40 : decode prog_24_method_1_code 40 = .ok (.return_, 1) := by decide +kernel
theorem d5_0 : decode jdk_30_method_1_code 0 = .ok (.aload_n 0, 1) := by decide +kernel
theorem d5_1 : decode jdk_30_method_1_code 1 = .ok (.invokespecial 1, 3) := by decide +kernel
theorem d5_4 : decode jdk_30_method_1_code 4 = .ok (.return_, 1) := by decide +kernel
theorem d7_0 : decode jdk_31_method_11_code 0 = .ok (.aload_n 0, 1) := by decide +kernel
theorem d7_1 : decode jdk_31_method_11_code 1 = .ok (.ifnonnull 12, 3) := by decide +kernel
theorem d7_13 : decode jdk_31_method_11_code 13 = .ok (.aload_n 0, 1) := by decide +kernel
theorem d7_14 : decode jdk_31_method_11_code 14 = .ok (.areturn, 1) := by decide +kernel
theorem d8_0 : decode prog_24_method_2_code 0 = .ok (.new 20, 3) := by decide +kernel
theorem d8_3 : decode prog_24_method_2_code 3 = .ok (.dup, 1) := by decide +kernel
theorem d8_4 : decode prog_24_method_2_code 4 = .ok (.aload_n 1, 1) := by decide +kernel
theorem d8_5 : decode prog_24_method_2_code 5 = .ok (.aload_n 0, 1) := by decide +kernel
theorem d8_6 : decode prog_24_method_2_code 6 = .ok (.getfield 24, 3) := by decide +kernel
theorem d8_9 : decode prog_24_method_2_code 9 = .ok (.aload_n 0, 1) := by decide +kernel
theorem d8_10 : decode prog_24_method_2_code 10 = .ok (.getfield 27, 3) := by decide +kernel
theorem d8_13 : decode prog_24_method_2_code 13 = .ok (.invokespecial 30, 3) := by decide +kernel
theorem d8_16 : decode prog_24_method_2_code 16 = .ok (.areturn, 1) := by decide +kernel
theorem d9_0 : decode prog_24_method_8_code 0 = .ok (.aload_n 0, 1) := by decide +kernel
theorem d9_1 : decode prog_24_method_8_code 1 = .ok (.getfield 19, 3) := by decide +kernel
theorem d9_4 : decode prog_24_method_8_code 4 = .ok (.areturn, 1) := by decide +kernel
theorem d10_0 : decode prog_24_method_9_code 0 = .ok (.aload_n 0, 1) := by decide +kernel
theorem d10_1 : decode prog_24_method_9_code 1 = .ok (.getfield 24, 3) := by decide +kernel
theorem d10_4 : decode prog_24_method_9_code 4 = .ok (.areturn, 1) := by decide +kernel
theorem d11_0 : decode prog_24_method_10_code 0 = .ok (.aload_n 0, 1) := by decide +kernel
theorem d11_1 : decode prog_24_method_10_code 1 = .ok (.getfield 27, 3) := by decide +kernel
theorem d11_4 : decode prog_24_method_10_code 4 = .ok (.areturn, 1) := by decide +kernel
theorem pn_0 : plainName "java/util/Objects" = true := by first | (simp [plainName, overriddenIn]; done) | decide +kernel
theorem pn_1 : plainName "java/lang/Record" = true := by first | (simp [plainName, overriddenIn]; done) | decide +kernel
theorem pn_2 : plainName "com/example/dosewright/dosewright/RenderOptions" = true := by first | (simp [plainName, overriddenIn]; done) | decide +kernel
theorem pn_3 : plainName "com/example/dosewright/dosewright/RenderOptionsWithFhirVersionPinLaw" = true := by first | (simp [plainName, overriddenIn]; done) | decide +kernel
theorem pd_0 : parseMethodDescriptor "()V" = some ⟨[], none⟩ := by decide +kernel
theorem pd_1 : parseMethodDescriptor "(Ljava/lang/Object;Ljava/lang/String;)Ljava/lang/Object;" = some ⟨[(.object "java/lang/Object"), (.object "java/lang/String")], some (.object "java/lang/Object")⟩ := by decide +kernel
theorem pd_2 : parseMethodDescriptor "(Lcom/example/dosewright/dosewright/FhirVersion;Lcom/example/dosewright/dosewright/DateStyle;Lcom/example/dosewright/dosewright/LineKind;)V" = some ⟨[(.object "com/example/dosewright/dosewright/FhirVersion"), (.object "com/example/dosewright/dosewright/DateStyle"), (.object "com/example/dosewright/dosewright/LineKind")], none⟩ := by decide +kernel
theorem pd_3 : parseMethodDescriptor "(I)Lcom/example/dosewright/dosewright/FhirVersion;" = some ⟨[.int], some (.object "com/example/dosewright/dosewright/FhirVersion")⟩ := by decide +kernel
theorem pd_4 : parseMethodDescriptor "(I)Lcom/example/dosewright/dosewright/DateStyle;" = some ⟨[.int], some (.object "com/example/dosewright/dosewright/DateStyle")⟩ := by decide +kernel
theorem pd_5 : parseMethodDescriptor "(I)Lcom/example/dosewright/dosewright/LineKind;" = some ⟨[.int], some (.object "com/example/dosewright/dosewright/LineKind")⟩ := by decide +kernel
theorem pd_6 : parseMethodDescriptor "(Lcom/example/dosewright/dosewright/FhirVersion;)Lcom/example/dosewright/dosewright/RenderOptions;" = some ⟨[(.object "com/example/dosewright/dosewright/FhirVersion")], some (.object "com/example/dosewright/dosewright/RenderOptions")⟩ := by decide +kernel
theorem pd_7 : parseMethodDescriptor "()Lcom/example/dosewright/dosewright/FhirVersion;" = some ⟨[], some (.object "com/example/dosewright/dosewright/FhirVersion")⟩ := by decide +kernel
theorem pd_8 : parseMethodDescriptor "()Lcom/example/dosewright/dosewright/DateStyle;" = some ⟨[], some (.object "com/example/dosewright/dosewright/DateStyle")⟩ := by decide +kernel
theorem pd_9 : parseMethodDescriptor "()Lcom/example/dosewright/dosewright/LineKind;" = some ⟨[], some (.object "com/example/dosewright/dosewright/LineKind")⟩ := by decide +kernel
theorem own_strs {Z : State} {a0 : Array Value} (hw : ∀ d ∈ tables_1, d.before a0 Z = true) : ∀ a ∈ Bundle.stringAtoms, a.before a0 Z = true := by
  intro a ha
  simp only [Bundle.stringAtoms, List.mem_cons, List.not_mem_nil, or_false] at ha
  rcases ha with rfl | rfl | rfl | rfl | rfl | rfl | rfl
  · exact (hw _ (wd 37 rfl))
  · exact (hw _ (wd 38 rfl))
  · exact (hw _ (wd 39 rfl))
  · exact (hw _ (wd 40 rfl))
  · exact (hw _ (wd 41 rfl))
  · exact (hw _ (wd 42 rfl))
  · exact (hw _ (wd 43 rfl))
theorem own_cases_3 {y : Int32} (h0 : 0 ≤ y.toInt) (h1 : y.toInt < 3) : y = 0 ∨ y = 1 ∨ y = 2 := by
  have h : y.toInt = 0 ∨ y.toInt = 1 ∨ y.toInt = 2 := by omega
  rcases h with h | h | h
  · exact (Or.inl (Int32.toInt_inj.mp (h.trans (show (0 : Int) = (0 : Int32).toInt from by decide))))
  · exact (Or.inr (Or.inl (Int32.toInt_inj.mp (h.trans (show (1 : Int) = (1 : Int32).toInt from by decide)))))
  · exact (Or.inr (Or.inr (Int32.toInt_inj.mp (h.trans (show (2 : Int) = (2 : Int32).toInt from by decide)))))
theorem own_rem_3 (x : Int32) : (x &&& 2147483647) % 3 = 0 ∨ (x &&& 2147483647) % 3 = 1 ∨ (x &&& 2147483647) % 3 = 2 := by
  have h := c_and x 2147483647 (by decide)
  have e : (3 : Int32).toInt = 3 := by decide
  have q := (c_iremV (x &&& 2147483647) 3).1 h.1 (by omega)
  exact own_cases_3 q.1 (by omega)
def Own (Z : State) (a_STU3 a_DMY a_DOSAGE a_R4 a_ISO a_MEDICATION a_DMMMY : Addr) : Prop := Sta Z Z.heap "com/example/dosewright/dosewright/FhirVersion" "STU3" "Lcom/example/dosewright/dosewright/FhirVersion;" (.ref a_STU3) ∧ Exa Z Z.heap a_STU3 "com/example/dosewright/dosewright/FhirVersion" ∧ Sta Z Z.heap "com/example/dosewright/dosewright/DateStyle" "DMY" "Lcom/example/dosewright/dosewright/DateStyle;" (.ref a_DMY) ∧ Exa Z Z.heap a_DMY "com/example/dosewright/dosewright/DateStyle" ∧ Sta Z Z.heap "com/example/dosewright/dosewright/LineKind" "DOSAGE" "Lcom/example/dosewright/dosewright/LineKind;" (.ref a_DOSAGE) ∧ Exa Z Z.heap a_DOSAGE "com/example/dosewright/dosewright/LineKind" ∧ Sta Z Z.heap "com/example/dosewright/dosewright/FhirVersion" "R4" "Lcom/example/dosewright/dosewright/FhirVersion;" (.ref a_R4) ∧ Exa Z Z.heap a_R4 "com/example/dosewright/dosewright/FhirVersion" ∧ Sta Z Z.heap "com/example/dosewright/dosewright/DateStyle" "ISO" "Lcom/example/dosewright/dosewright/DateStyle;" (.ref a_ISO) ∧ Exa Z Z.heap a_ISO "com/example/dosewright/dosewright/DateStyle" ∧ Sta Z Z.heap "com/example/dosewright/dosewright/LineKind" "MEDICATION" "Lcom/example/dosewright/dosewright/LineKind;" (.ref a_MEDICATION) ∧ Exa Z Z.heap a_MEDICATION "com/example/dosewright/dosewright/LineKind" ∧ Sta Z Z.heap "com/example/dosewright/dosewright/DateStyle" "DMMMY" "Lcom/example/dosewright/dosewright/DateStyle;" (.ref a_DMMMY) ∧ Exa Z Z.heap a_DMMMY "com/example/dosewright/dosewright/DateStyle"
theorem own_fld {args : Array Value} {s : State} {t : Term} {C n d : String} {a : Addr} {k : Int32} (ev : t.eval args s none [] s = some (.ref a)) (h : (Jvm.Cond.eq (.field t C n d) (.int k)).value args s none s [] = some true) : Fld s s.heap a C n d (.int k) := by
  refine Fld.start ?_
  obtain ⟨u, w, h1, h2, h3, h4⟩ := cmp_v (Or.inl h)
  have e2 : w = .int k := (Option.some.inj h2).symm
  subst e2
  obtain ⟨z, rfl⟩ := h4
  rw [fld_at ev] at h1
  rw [h1]
  have q : (Jvm.Cond.eq (.field t C n d) (.int k)).value args s none s [] = some (decide (z = k)) := by simp [Cond.value, Term.eval, ev, h1]
  have := gotT q h
  rw [this]
def QR (h0 : Heap) (n0 : Nat) (v : Option Value) (h : Heap) (L : List Loc) : Prop := ∃ a : Addr, v = some (.ref a) ∧ Fr n0 L ∧ h = h0
def QI_r (Z : State) (a : Addr) (x0 : Addr) (x1 : Addr) (x2 : Addr) (h0 : Heap) (n0 : Nat) (v : Option Value) (h : Heap) (L : List Loc) : Prop := v = none ∧ Fr n0 L ∧ Keep h0 h [a] ∧ Fld Z h a "com/example/dosewright/dosewright/RenderOptions" "fhirVersion" "Lcom/example/dosewright/dosewright/FhirVersion;" (.ref x0) ∧ Fld Z h a "com/example/dosewright/dosewright/RenderOptions" "dateStyle" "Lcom/example/dosewright/dosewright/DateStyle;" (.ref x1) ∧ Fld Z h a "com/example/dosewright/dosewright/RenderOptions" "lineKind" "Lcom/example/dosewright/dosewright/LineKind;" (.ref x2)
def QM_r (Z : State) (x0 : Addr) (x1 : Addr) (x2 : Addr) (h0 : Heap) (n0 : Nat) (v : Option Value) (h : Heap) (L : List Loc) : Prop := ∃ b : Addr, v = some (.ref b) ∧ Fr n0 L ∧ Keep h0 h [] ∧ n0 ≤ b ∧ h0.size ≤ b ∧ Exa Z h b "com/example/dosewright/dosewright/RenderOptions" ∧ Fld Z h b "com/example/dosewright/dosewright/RenderOptions" "fhirVersion" "Lcom/example/dosewright/dosewright/FhirVersion;" (.ref x0) ∧ Fld Z h b "com/example/dosewright/dosewright/RenderOptions" "dateStyle" "Lcom/example/dosewright/dosewright/DateStyle;" (.ref x1) ∧ Fld Z h b "com/example/dosewright/dosewright/RenderOptions" "lineKind" "Lcom/example/dosewright/dosewright/LineKind;" (.ref x2)
set_option maxRecDepth 65536 in
set_option maxHeartbeats 40000000 in
theorem rnn (l : Launch) (Z : State) (a0 : Array Value) (hw : ∀ d ∈ tables_1, d.before a0 Z = true) (ws : List Jvm.Cond) (a_STU3 a_DMY a_DOSAGE a_R4 a_ISO a_MEDICATION a_DMMMY : Addr) (G : Own Z a_STU3 a_DMY a_DOSAGE a_R4 a_ISO a_MEDICATION a_DMMMY) (a1 a2 : Addr) (h0 : Heap) (n0 : Nat) (O0 : Old Z n0 h0)  :
    MetFree l y_0 (head1 (Jvm.Cond.code y_0 jdk_31_method_11_code 2 (some (.object "java/lang/Object")) :: ws) ({ frames := 0, cells := 0, slots := 0, locals := 0 } : Room)) (fun a U => a = #[(.ref a1), (.ref a2)] ∧ Z.Warmed39 U.vm ∧ U.heap = h0) (fun _ _ _ _ _ => True) (fun _ U o U' => ∃ v L, o = .returned v ∧ QV (some (.ref a1)) h0 n0 v U'.heap L ∧ FrameEnd U o U' L ({ frames := 0, cells := 0, slots := 0, locals := 0 } : Room).cells ({ frames := 0, cells := 0, slots := 0, locals := 0 } : Room).slots) := by
  refine MetFree.of_bodySF (plainFor_of_name pn_0) hisR ?_
  intro p e s m args below meth c s₁ Bd hml0 hP hK
  obtain ⟨rfl, hZ, hh⟩ := hP
  have hx := Bd.exec
  have hby := Bd.bytes
  have hml : c.maxLocals = 2 := hml0
  have hown : s.vm.findClass "java/util/Objects" = some m.cls := findClass_of_methodNamed Bd.named
  have hnm := (name_of_methodNamed Bd.named Bd.method).1
  have X0 : Stand p l e ({ frames := 0, cells := 0, slots := 0, locals := 0 } : Room) s m #[(.ref a1), (.ref a2)] below meth c s₁ [] 0 0 := Stand.of_body Bd
  have e0 : s₁.heap = h0 := by rw [← hh, Bd.state]; rfl
  have N0 := Fr.nil n0
  have K0 := Keep.refl h0 []
  have k0 : Go p.tables e below (s₁.setTop (entryFrame m #[(.ref a1), (.ref a2)] 2)) (s₁.setTop (mkF m 0 #[rv a1, rv a2] [])) := fun t k => castTop (by first | rfl | (simp [entryFrame, mkF, argsToLocals, Value.category]; done)) k
  have ⟨S_STU3, E_STU3, S_DMY, E_DMY, S_DOSAGE, E_DOSAGE, S_R4, E_R4, S_ISO, E_ISO, S_MEDICATION, E_MEDICATION, S_DMMMY, E_DMMMY⟩ := G
  have k_1 : Go p.tables e below (s₁.setTop (entryFrame m #[(.ref a1), (.ref a2)] 2)) (s₁.setTop (mkF m 14 #[rv a1, rv a2] [(.ref a1)])) := fun t q => by
    refine k0 t ?_
    refine XS.aloadN X0.here hx rfl (hb hby d7_0) rfl rfl ?_
    show Steps _ _ _ (s₁.setTop (mkF m 1 #[rv a1, rv a2] [(.ref a1)])) _
    refine XS.ifnonnullYes X0.here hx rfl (pc0 := 1) (pc' := 13) rfl (hb hby d7_1) rfl (by decide) (by decide) ?_
    show Steps _ _ _ (s₁.setTop (mkF m 13 #[rv a1, rv a2] [])) _
    refine XS.aloadN X0.here hx rfl (hb hby d7_13) rfl rfl ?_
    show Steps _ _ _ (s₁.setTop (mkF m 14 #[rv a1, rv a2] [(.ref a1)])) _
    exact q
  obtain ⟨fs, hr, hrun, hended, hW, hsame⟩ := X0.leave (v := some (.ref a1)) (fun h => by rw [Bd.returns] at h; cases h)
  refine ⟨_, _, k_1 _ ?_, hrun, hended, _, _, rfl, ?_, ⟨_, rfl⟩, hW, hsame.mono (by decide) (by decide)⟩
  · exact retOut X0 hx Bd.returns rfl (Or.inr (Or.inr (Or.inr (Or.inr ⟨rfl, rfl, rfl⟩)))) (hb hby d7_14) hr
  · show QV (some (.ref a1)) h0 n0 _ s₁.heap _
    rw [e0]
    exact ⟨rfl, N0, rfl⟩
set_option maxRecDepth 65536 in
set_option maxHeartbeats 40000000 in
theorem ve (l : Launch) (Z : State) (a0 : Array Value) (hw : ∀ d ∈ tables_1, d.before a0 Z = true) (ws : List Jvm.Cond) (a_STU3 a_DMY a_DOSAGE a_R4 a_ISO a_MEDICATION a_DMMMY : Addr) (G : Own Z a_STU3 a_DMY a_DOSAGE a_R4 a_ISO a_MEDICATION a_DMMMY) (q1 : Int32) (h0 : Heap) (n0 : Nat) (O0 : Old Z n0 h0)  :
    MetFree l y_3 (head1 (Jvm.Cond.code y_3 method_2_code 1 (some (.object "com/example/dosewright/dosewright/FhirVersion")) :: ws) ({ frames := 0, cells := 0, slots := 0, locals := 0 } : Room)) (fun a U => a = #[(.int q1)] ∧ Z.Warmed39 U.vm ∧ U.heap = h0) (fun _ _ _ _ _ => True) (fun _ U o U' => ∃ v L, o = .returned v ∧ QR h0 n0 v U'.heap L ∧ FrameEnd U o U' L ({ frames := 0, cells := 0, slots := 0, locals := 0 } : Room).cells ({ frames := 0, cells := 0, slots := 0, locals := 0 } : Room).slots) := by
  refine MetFree.of_bodySF (plainFor_of_name pn_3) hisR ?_
  intro p e s m args below meth c s₁ Bd hml0 hP hK
  obtain ⟨rfl, hZ, hh⟩ := hP
  have hx := Bd.exec
  have hby := Bd.bytes
  have hml : c.maxLocals = 1 := hml0
  have hown : s.vm.findClass "com/example/dosewright/dosewright/RenderOptionsWithFhirVersionPinLaw" = some m.cls := findClass_of_methodNamed Bd.named
  have hnm := (name_of_methodNamed Bd.named Bd.method).1
  have X0 : Stand p l e ({ frames := 0, cells := 0, slots := 0, locals := 0 } : Room) s m #[(.int q1)] below meth c s₁ [] 0 0 := Stand.of_body Bd
  have e0 : s₁.heap = h0 := by rw [← hh, Bd.state]; rfl
  have N0 := Fr.nil n0
  have K0 := Keep.refl h0 []
  have k0 : Go p.tables e below (s₁.setTop (entryFrame m #[(.int q1)] 1)) (s₁.setTop (mkF m 0 #[iv q1] [])) := fun t k => castTop (by first | rfl | (simp [entryFrame, mkF, argsToLocals, Value.category]; done)) k
  have ⟨S_STU3, E_STU3, S_DMY, E_DMY, S_DOSAGE, E_DOSAGE, S_R4, E_R4, S_ISO, E_ISO, S_MEDICATION, E_MEDICATION, S_DMMMY, E_DMMMY⟩ := G
  rcases and_one q1 with hi | hi
  · skip
    have k_68 : Go p.tables e below (s₁.setTop (entryFrame m #[(.int q1)] 1)) (s₁.setTop (mkF m 6 #[iv q1] [])) := fun t q => by
      refine k0 t ?_
      refine XS.iloadN X0.here hx rfl (hb hby d1_0) rfl ?_
      show Steps _ _ _ (s₁.setTop (mkF m 1 #[iv q1] [(.int q1)])) _
      refine XS.iconst X0.here hx rfl (hb hby d1_1) ?_
      show Steps _ _ _ (s₁.setTop (mkF m 2 #[iv q1] [(.int 1), (.int q1)])) _
      refine XS.iand X0.here hx rfl (hb hby d1_2) rfl ?_
      show Steps _ _ _ (s₁.setTop (mkF m 3 #[iv q1] [(.int (q1 &&& (1 : Int32)))])) _
      rw [hi]
      show Steps _ _ _ (s₁.setTop (mkF m 3 #[iv q1] [(.int 0)])) _
      refine XS.ifNo X0.here hx rfl (hb hby d1_3) rfl (by decide) ?_
      show Steps _ _ _ (s₁.setTop (mkF m 6 #[iv q1] [])) _
      exact q
    obtain ⟨T69, X69, e69, st69⟩ := getS2 X0 hx hZ hown (host := "") (Or.inl (hw _ (wd 4 rfl))) Via.refl e0 (S_STU3.ext O0.2) (g := (mkF m 6 #[iv q1] [])) rfl (hb hby d1_6)
    have k_70 : Go p.tables e below (s₁.setTop (entryFrame m #[(.int q1)] 1)) (T69.setTop (mkF m 9 #[iv q1] [(.ref a_STU3)])) := fun t q => by
      refine k_68 t ?_
      refine st69 _ ?_
      show Steps _ _ _ (T69.setTop (mkF m 9 #[iv q1] [(.ref a_STU3)])) _
      exact q
    obtain ⟨fs, hr, hrun, hended, hW, hsame⟩ := X69.leave (v := some (.ref a_STU3)) (fun h => by rw [Bd.returns] at h; cases h)
    refine ⟨_, _, k_70 _ ?_, hrun, hended, _, _, rfl, ?_, ⟨_, rfl⟩, hW, hsame.mono (by decide) (by decide)⟩
    · exact retOut X69 hx Bd.returns rfl (Or.inr (Or.inr (Or.inr (Or.inr ⟨rfl, rfl, rfl⟩)))) (hb hby d1_9) hr
    · show QR h0 n0 _ T69.heap _
      rw [e69]
      exact ⟨_, rfl, N0, rfl⟩
  · skip
    have k_71 : Go p.tables e below (s₁.setTop (entryFrame m #[(.int q1)] 1)) (s₁.setTop (mkF m 10 #[iv q1] [])) := fun t q => by
      refine k0 t ?_
      refine XS.iloadN X0.here hx rfl (hb hby d1_0) rfl ?_
      show Steps _ _ _ (s₁.setTop (mkF m 1 #[iv q1] [(.int q1)])) _
      refine XS.iconst X0.here hx rfl (hb hby d1_1) ?_
      show Steps _ _ _ (s₁.setTop (mkF m 2 #[iv q1] [(.int 1), (.int q1)])) _
      refine XS.iand X0.here hx rfl (hb hby d1_2) rfl ?_
      show Steps _ _ _ (s₁.setTop (mkF m 3 #[iv q1] [(.int (q1 &&& (1 : Int32)))])) _
      rw [hi]
      show Steps _ _ _ (s₁.setTop (mkF m 3 #[iv q1] [(.int 1)])) _
      refine XS.ifYes X0.here hx rfl (pc0 := 3) (pc' := 10) rfl (hb hby d1_3) rfl (by decide) (by decide) (by decide) ?_
      show Steps _ _ _ (s₁.setTop (mkF m 10 #[iv q1] [])) _
      exact q
    obtain ⟨T72, X72, e72, st72⟩ := getS2 X0 hx hZ hown (host := "") (Or.inl (hw _ (wd 20 rfl))) Via.refl e0 (S_R4.ext O0.2) (g := (mkF m 10 #[iv q1] [])) rfl (hb hby d1_10)
    have k_73 : Go p.tables e below (s₁.setTop (entryFrame m #[(.int q1)] 1)) (T72.setTop (mkF m 13 #[iv q1] [(.ref a_R4)])) := fun t q => by
      refine k_71 t ?_
      refine st72 _ ?_
      show Steps _ _ _ (T72.setTop (mkF m 13 #[iv q1] [(.ref a_R4)])) _
      exact q
    obtain ⟨fs, hr, hrun, hended, hW, hsame⟩ := X72.leave (v := some (.ref a_R4)) (fun h => by rw [Bd.returns] at h; cases h)
    refine ⟨_, _, k_73 _ ?_, hrun, hended, _, _, rfl, ?_, ⟨_, rfl⟩, hW, hsame.mono (by decide) (by decide)⟩
    · exact retOut X72 hx Bd.returns rfl (Or.inr (Or.inr (Or.inr (Or.inr ⟨rfl, rfl, rfl⟩)))) (hb hby d1_13) hr
    · show QR h0 n0 _ T72.heap _
      rw [e72]
      exact ⟨_, rfl, N0, rfl⟩
set_option maxRecDepth 65536 in
set_option maxHeartbeats 40000000 in
theorem sy (l : Launch) (Z : State) (a0 : Array Value) (hw : ∀ d ∈ tables_1, d.before a0 Z = true) (ws : List Jvm.Cond) (a_STU3 a_DMY a_DOSAGE a_R4 a_ISO a_MEDICATION a_DMMMY : Addr) (G : Own Z a_STU3 a_DMY a_DOSAGE a_R4 a_ISO a_MEDICATION a_DMMMY) (q1 : Int32) (h0 : Heap) (n0 : Nat) (O0 : Old Z n0 h0)  :
    MetFree l y_4 (head1 (Jvm.Cond.code y_4 method_3_code 2 (some (.object "com/example/dosewright/dosewright/DateStyle")) :: ws) ({ frames := 0, cells := 0, slots := 0, locals := 0 } : Room)) (fun a U => a = #[(.int q1)] ∧ Z.Warmed39 U.vm ∧ U.heap = h0) (fun _ _ _ _ _ => True) (fun _ U o U' => ∃ v L, o = .returned v ∧ QR h0 n0 v U'.heap L ∧ FrameEnd U o U' L ({ frames := 0, cells := 0, slots := 0, locals := 0 } : Room).cells ({ frames := 0, cells := 0, slots := 0, locals := 0 } : Room).slots) := by
  refine MetFree.of_bodySF (plainFor_of_name pn_3) hisR ?_
  intro p e s m args below meth c s₁ Bd hml0 hP hK
  obtain ⟨rfl, hZ, hh⟩ := hP
  have hx := Bd.exec
  have hby := Bd.bytes
  have hml : c.maxLocals = 2 := hml0
  have hown : s.vm.findClass "com/example/dosewright/dosewright/RenderOptionsWithFhirVersionPinLaw" = some m.cls := findClass_of_methodNamed Bd.named
  have hnm := (name_of_methodNamed Bd.named Bd.method).1
  have X0 : Stand p l e ({ frames := 0, cells := 0, slots := 0, locals := 0 } : Room) s m #[(.int q1)] below meth c s₁ [] 0 0 := Stand.of_body Bd
  have e0 : s₁.heap = h0 := by rw [← hh, Bd.state]; rfl
  have N0 := Fr.nil n0
  have K0 := Keep.refl h0 []
  have k0 : Go p.tables e below (s₁.setTop (entryFrame m #[(.int q1)] 2)) (s₁.setTop (mkF m 0 #[iv q1, .unset] [])) := fun t k => castTop (by first | rfl | (simp [entryFrame, mkF, argsToLocals, Value.category]; done)) k
  have ⟨S_STU3, E_STU3, S_DMY, E_DMY, S_DOSAGE, E_DOSAGE, S_R4, E_R4, S_ISO, E_ISO, S_MEDICATION, E_MEDICATION, S_DMMMY, E_DMMMY⟩ := G
  rcases own_rem_3 q1 with hi | hi | hi
  · skip
    have k_74 : Go p.tables e below (s₁.setTop (entryFrame m #[(.int q1)] 2)) (s₁.setTop (mkF m 11 #[iv q1, iv 0] [])) := fun t q => by
      refine k0 t ?_
      refine XS.iloadN X0.here hx rfl (hb hby d2_0) rfl ?_
      show Steps _ _ _ (s₁.setTop (mkF m 1 #[iv q1, .unset] [(.int q1)])) _
      refine X0.ldcInt hx hown (mvT hZ (hw _ (wd 10 rfl))) (g := (mkF m 1 #[iv q1, .unset] [(.int q1)])) rfl (hb hby d2_1) _ ?_
      show Steps _ _ _ (s₁.setTop (mkF m 3 #[iv q1, .unset] [(.int 2147483647), (.int q1)])) _
      refine XS.iand X0.here hx rfl (hb hby d2_3) rfl ?_
      show Steps _ _ _ (s₁.setTop (mkF m 4 #[iv q1, .unset] [(.int (q1 &&& (2147483647 : Int32)))])) _
      refine XS.iconst X0.here hx rfl (hb hby d2_4) ?_
      show Steps _ _ _ (s₁.setTop (mkF m 5 #[iv q1, .unset] [(.int 3), (.int (q1 &&& (2147483647 : Int32)))])) _
      refine iremM (g := (mkF m 5 #[iv q1, .unset] [(.int 3), (.int (q1 &&& (2147483647 : Int32)))])) X0 hx rfl (hb hby d2_5) rfl (by decide) ?_
      show Steps _ _ _ (s₁.setTop (mkF m 6 #[iv q1, .unset] [(.int ((q1 &&& (2147483647 : Int32)) % (3 : Int32)))])) _
      rw [hi]
      show Steps _ _ _ (s₁.setTop (mkF m 6 #[iv q1, .unset] [(.int 0)])) _
      refine XS.istoreN X0.here hx rfl (hb hby d2_6) rfl (l' := #[iv q1, iv 0]) rfl ?_
      show Steps _ _ _ (s₁.setTop (mkF m 7 #[iv q1, iv 0] [])) _
      refine XS.iloadN X0.here hx rfl (hb hby d2_7) rfl ?_
      show Steps _ _ _ (s₁.setTop (mkF m 8 #[iv q1, iv 0] [(.int 0)])) _
      refine XS.ifNo X0.here hx rfl (hb hby d2_8) rfl (by decide) ?_
      show Steps _ _ _ (s₁.setTop (mkF m 11 #[iv q1, iv 0] [])) _
      exact q
    obtain ⟨T75, X75, e75, st75⟩ := getS2 X0 hx hZ hown (host := "") (Or.inl (hw _ (wd 11 rfl))) Via.refl e0 (S_DMY.ext O0.2) (g := (mkF m 11 #[iv q1, iv 0] [])) rfl (hb hby d2_11)
    have k_76 : Go p.tables e below (s₁.setTop (entryFrame m #[(.int q1)] 2)) (T75.setTop (mkF m 14 #[iv q1, iv 0] [(.ref a_DMY)])) := fun t q => by
      refine k_74 t ?_
      refine st75 _ ?_
      show Steps _ _ _ (T75.setTop (mkF m 14 #[iv q1, iv 0] [(.ref a_DMY)])) _
      exact q
    obtain ⟨fs, hr, hrun, hended, hW, hsame⟩ := X75.leave (v := some (.ref a_DMY)) (fun h => by rw [Bd.returns] at h; cases h)
    refine ⟨_, _, k_76 _ ?_, hrun, hended, _, _, rfl, ?_, ⟨_, rfl⟩, hW, hsame.mono (by decide) (by decide)⟩
    · exact retOut X75 hx Bd.returns rfl (Or.inr (Or.inr (Or.inr (Or.inr ⟨rfl, rfl, rfl⟩)))) (hb hby d2_14) hr
    · show QR h0 n0 _ T75.heap _
      rw [e75]
      exact ⟨_, rfl, N0, rfl⟩
  · skip
    have k_77 : Go p.tables e below (s₁.setTop (entryFrame m #[(.int q1)] 2)) (s₁.setTop (mkF m 20 #[iv q1, iv 1] [])) := fun t q => by
      refine k0 t ?_
      refine XS.iloadN X0.here hx rfl (hb hby d2_0) rfl ?_
      show Steps _ _ _ (s₁.setTop (mkF m 1 #[iv q1, .unset] [(.int q1)])) _
      refine X0.ldcInt hx hown (mvT hZ (hw _ (wd 10 rfl))) (g := (mkF m 1 #[iv q1, .unset] [(.int q1)])) rfl (hb hby d2_1) _ ?_
      show Steps _ _ _ (s₁.setTop (mkF m 3 #[iv q1, .unset] [(.int 2147483647), (.int q1)])) _
      refine XS.iand X0.here hx rfl (hb hby d2_3) rfl ?_
      show Steps _ _ _ (s₁.setTop (mkF m 4 #[iv q1, .unset] [(.int (q1 &&& (2147483647 : Int32)))])) _
      refine XS.iconst X0.here hx rfl (hb hby d2_4) ?_
      show Steps _ _ _ (s₁.setTop (mkF m 5 #[iv q1, .unset] [(.int 3), (.int (q1 &&& (2147483647 : Int32)))])) _
      refine iremM (g := (mkF m 5 #[iv q1, .unset] [(.int 3), (.int (q1 &&& (2147483647 : Int32)))])) X0 hx rfl (hb hby d2_5) rfl (by decide) ?_
      show Steps _ _ _ (s₁.setTop (mkF m 6 #[iv q1, .unset] [(.int ((q1 &&& (2147483647 : Int32)) % (3 : Int32)))])) _
      rw [hi]
      show Steps _ _ _ (s₁.setTop (mkF m 6 #[iv q1, .unset] [(.int 1)])) _
      refine XS.istoreN X0.here hx rfl (hb hby d2_6) rfl (l' := #[iv q1, iv 1]) rfl ?_
      show Steps _ _ _ (s₁.setTop (mkF m 7 #[iv q1, iv 1] [])) _
      refine XS.iloadN X0.here hx rfl (hb hby d2_7) rfl ?_
      show Steps _ _ _ (s₁.setTop (mkF m 8 #[iv q1, iv 1] [(.int 1)])) _
      refine XS.ifYes X0.here hx rfl (pc0 := 8) (pc' := 15) rfl (hb hby d2_8) rfl (by decide) (by decide) (by decide) ?_
      show Steps _ _ _ (s₁.setTop (mkF m 15 #[iv q1, iv 1] [])) _
      refine XS.iloadN X0.here hx rfl (hb hby d2_15) rfl ?_
      show Steps _ _ _ (s₁.setTop (mkF m 16 #[iv q1, iv 1] [(.int 1)])) _
      refine XS.iconst X0.here hx rfl (hb hby d2_16) ?_
      show Steps _ _ _ (s₁.setTop (mkF m 17 #[iv q1, iv 1] [(.int 1), (.int 1)])) _
      refine XS.icmpNo X0.here hx rfl (hb hby d2_17) rfl (by decide) ?_
      show Steps _ _ _ (s₁.setTop (mkF m 20 #[iv q1, iv 1] [])) _
      exact q
    obtain ⟨T78, X78, e78, st78⟩ := getS2 X0 hx hZ hown (host := "") (Or.inl (hw _ (wd 78 rfl))) Via.refl e0 (S_ISO.ext O0.2) (g := (mkF m 20 #[iv q1, iv 1] [])) rfl (hb hby d2_20)
    have k_79 : Go p.tables e below (s₁.setTop (entryFrame m #[(.int q1)] 2)) (T78.setTop (mkF m 23 #[iv q1, iv 1] [(.ref a_ISO)])) := fun t q => by
      refine k_77 t ?_
      refine st78 _ ?_
      show Steps _ _ _ (T78.setTop (mkF m 23 #[iv q1, iv 1] [(.ref a_ISO)])) _
      exact q
    obtain ⟨fs, hr, hrun, hended, hW, hsame⟩ := X78.leave (v := some (.ref a_ISO)) (fun h => by rw [Bd.returns] at h; cases h)
    refine ⟨_, _, k_79 _ ?_, hrun, hended, _, _, rfl, ?_, ⟨_, rfl⟩, hW, hsame.mono (by decide) (by decide)⟩
    · exact retOut X78 hx Bd.returns rfl (Or.inr (Or.inr (Or.inr (Or.inr ⟨rfl, rfl, rfl⟩)))) (hb hby d2_23) hr
    · show QR h0 n0 _ T78.heap _
      rw [e78]
      exact ⟨_, rfl, N0, rfl⟩
  · skip
    have k_80 : Go p.tables e below (s₁.setTop (entryFrame m #[(.int q1)] 2)) (s₁.setTop (mkF m 24 #[iv q1, iv 2] [])) := fun t q => by
      refine k0 t ?_
      refine XS.iloadN X0.here hx rfl (hb hby d2_0) rfl ?_
      show Steps _ _ _ (s₁.setTop (mkF m 1 #[iv q1, .unset] [(.int q1)])) _
      refine X0.ldcInt hx hown (mvT hZ (hw _ (wd 10 rfl))) (g := (mkF m 1 #[iv q1, .unset] [(.int q1)])) rfl (hb hby d2_1) _ ?_
      show Steps _ _ _ (s₁.setTop (mkF m 3 #[iv q1, .unset] [(.int 2147483647), (.int q1)])) _
      refine XS.iand X0.here hx rfl (hb hby d2_3) rfl ?_
      show Steps _ _ _ (s₁.setTop (mkF m 4 #[iv q1, .unset] [(.int (q1 &&& (2147483647 : Int32)))])) _
      refine XS.iconst X0.here hx rfl (hb hby d2_4) ?_
      show Steps _ _ _ (s₁.setTop (mkF m 5 #[iv q1, .unset] [(.int 3), (.int (q1 &&& (2147483647 : Int32)))])) _
      refine iremM (g := (mkF m 5 #[iv q1, .unset] [(.int 3), (.int (q1 &&& (2147483647 : Int32)))])) X0 hx rfl (hb hby d2_5) rfl (by decide) ?_
      show Steps _ _ _ (s₁.setTop (mkF m 6 #[iv q1, .unset] [(.int ((q1 &&& (2147483647 : Int32)) % (3 : Int32)))])) _
      rw [hi]
      show Steps _ _ _ (s₁.setTop (mkF m 6 #[iv q1, .unset] [(.int 2)])) _
      refine XS.istoreN X0.here hx rfl (hb hby d2_6) rfl (l' := #[iv q1, iv 2]) rfl ?_
      show Steps _ _ _ (s₁.setTop (mkF m 7 #[iv q1, iv 2] [])) _
      refine XS.iloadN X0.here hx rfl (hb hby d2_7) rfl ?_
      show Steps _ _ _ (s₁.setTop (mkF m 8 #[iv q1, iv 2] [(.int 2)])) _
      refine XS.ifYes X0.here hx rfl (pc0 := 8) (pc' := 15) rfl (hb hby d2_8) rfl (by decide) (by decide) (by decide) ?_
      show Steps _ _ _ (s₁.setTop (mkF m 15 #[iv q1, iv 2] [])) _
      refine XS.iloadN X0.here hx rfl (hb hby d2_15) rfl ?_
      show Steps _ _ _ (s₁.setTop (mkF m 16 #[iv q1, iv 2] [(.int 2)])) _
      refine XS.iconst X0.here hx rfl (hb hby d2_16) ?_
      show Steps _ _ _ (s₁.setTop (mkF m 17 #[iv q1, iv 2] [(.int 1), (.int 2)])) _
      refine XS.icmpYes X0.here hx rfl (pc0 := 17) (pc' := 24) rfl (hb hby d2_17) rfl (by decide) (by decide) (by decide) ?_
      show Steps _ _ _ (s₁.setTop (mkF m 24 #[iv q1, iv 2] [])) _
      exact q
    obtain ⟨T81, X81, e81, st81⟩ := getS2 X0 hx hZ hown (host := "") (Or.inl (hw _ (wd 82 rfl))) Via.refl e0 (S_DMMMY.ext O0.2) (g := (mkF m 24 #[iv q1, iv 2] [])) rfl (hb hby d2_24)
    have k_82 : Go p.tables e below (s₁.setTop (entryFrame m #[(.int q1)] 2)) (T81.setTop (mkF m 27 #[iv q1, iv 2] [(.ref a_DMMMY)])) := fun t q => by
      refine k_80 t ?_
      refine st81 _ ?_
      show Steps _ _ _ (T81.setTop (mkF m 27 #[iv q1, iv 2] [(.ref a_DMMMY)])) _
      exact q
    obtain ⟨fs, hr, hrun, hended, hW, hsame⟩ := X81.leave (v := some (.ref a_DMMMY)) (fun h => by rw [Bd.returns] at h; cases h)
    refine ⟨_, _, k_82 _ ?_, hrun, hended, _, _, rfl, ?_, ⟨_, rfl⟩, hW, hsame.mono (by decide) (by decide)⟩
    · exact retOut X81 hx Bd.returns rfl (Or.inr (Or.inr (Or.inr (Or.inr ⟨rfl, rfl, rfl⟩)))) (hb hby d2_27) hr
    · show QR h0 n0 _ T81.heap _
      rw [e81]
      exact ⟨_, rfl, N0, rfl⟩
set_option maxRecDepth 65536 in
set_option maxHeartbeats 40000000 in
theorem kd (l : Launch) (Z : State) (a0 : Array Value) (hw : ∀ d ∈ tables_1, d.before a0 Z = true) (ws : List Jvm.Cond) (a_STU3 a_DMY a_DOSAGE a_R4 a_ISO a_MEDICATION a_DMMMY : Addr) (G : Own Z a_STU3 a_DMY a_DOSAGE a_R4 a_ISO a_MEDICATION a_DMMMY) (q1 : Int32) (h0 : Heap) (n0 : Nat) (O0 : Old Z n0 h0)  :
    MetFree l y_5 (head1 (Jvm.Cond.code y_5 method_4_code 1 (some (.object "com/example/dosewright/dosewright/LineKind")) :: ws) ({ frames := 0, cells := 0, slots := 0, locals := 0 } : Room)) (fun a U => a = #[(.int q1)] ∧ Z.Warmed39 U.vm ∧ U.heap = h0) (fun _ _ _ _ _ => True) (fun _ U o U' => ∃ v L, o = .returned v ∧ QR h0 n0 v U'.heap L ∧ FrameEnd U o U' L ({ frames := 0, cells := 0, slots := 0, locals := 0 } : Room).cells ({ frames := 0, cells := 0, slots := 0, locals := 0 } : Room).slots) := by
  refine MetFree.of_bodySF (plainFor_of_name pn_3) hisR ?_
  intro p e s m args below meth c s₁ Bd hml0 hP hK
  obtain ⟨rfl, hZ, hh⟩ := hP
  have hx := Bd.exec
  have hby := Bd.bytes
  have hml : c.maxLocals = 1 := hml0
  have hown : s.vm.findClass "com/example/dosewright/dosewright/RenderOptionsWithFhirVersionPinLaw" = some m.cls := findClass_of_methodNamed Bd.named
  have hnm := (name_of_methodNamed Bd.named Bd.method).1
  have X0 : Stand p l e ({ frames := 0, cells := 0, slots := 0, locals := 0 } : Room) s m #[(.int q1)] below meth c s₁ [] 0 0 := Stand.of_body Bd
  have e0 : s₁.heap = h0 := by rw [← hh, Bd.state]; rfl
  have N0 := Fr.nil n0
  have K0 := Keep.refl h0 []
  have k0 : Go p.tables e below (s₁.setTop (entryFrame m #[(.int q1)] 1)) (s₁.setTop (mkF m 0 #[iv q1] [])) := fun t k => castTop (by first | rfl | (simp [entryFrame, mkF, argsToLocals, Value.category]; done)) k
  have ⟨S_STU3, E_STU3, S_DMY, E_DMY, S_DOSAGE, E_DOSAGE, S_R4, E_R4, S_ISO, E_ISO, S_MEDICATION, E_MEDICATION, S_DMMMY, E_DMMMY⟩ := G
  rcases and_one q1 with hi | hi
  · skip
    have k_83 : Go p.tables e below (s₁.setTop (entryFrame m #[(.int q1)] 1)) (s₁.setTop (mkF m 6 #[iv q1] [])) := fun t q => by
      refine k0 t ?_
      refine XS.iloadN X0.here hx rfl (hb hby d3_0) rfl ?_
      show Steps _ _ _ (s₁.setTop (mkF m 1 #[iv q1] [(.int q1)])) _
      refine XS.iconst X0.here hx rfl (hb hby d3_1) ?_
      show Steps _ _ _ (s₁.setTop (mkF m 2 #[iv q1] [(.int 1), (.int q1)])) _
      refine XS.iand X0.here hx rfl (hb hby d3_2) rfl ?_
      show Steps _ _ _ (s₁.setTop (mkF m 3 #[iv q1] [(.int (q1 &&& (1 : Int32)))])) _
      rw [hi]
      show Steps _ _ _ (s₁.setTop (mkF m 3 #[iv q1] [(.int 0)])) _
      refine XS.ifNo X0.here hx rfl (hb hby d3_3) rfl (by decide) ?_
      show Steps _ _ _ (s₁.setTop (mkF m 6 #[iv q1] [])) _
      exact q
    obtain ⟨T84, X84, e84, st84⟩ := getS2 X0 hx hZ hown (host := "") (Or.inl (hw _ (wd 17 rfl))) Via.refl e0 (S_DOSAGE.ext O0.2) (g := (mkF m 6 #[iv q1] [])) rfl (hb hby d3_6)
    have k_85 : Go p.tables e below (s₁.setTop (entryFrame m #[(.int q1)] 1)) (T84.setTop (mkF m 9 #[iv q1] [(.ref a_DOSAGE)])) := fun t q => by
      refine k_83 t ?_
      refine st84 _ ?_
      show Steps _ _ _ (T84.setTop (mkF m 9 #[iv q1] [(.ref a_DOSAGE)])) _
      exact q
    obtain ⟨fs, hr, hrun, hended, hW, hsame⟩ := X84.leave (v := some (.ref a_DOSAGE)) (fun h => by rw [Bd.returns] at h; cases h)
    refine ⟨_, _, k_85 _ ?_, hrun, hended, _, _, rfl, ?_, ⟨_, rfl⟩, hW, hsame.mono (by decide) (by decide)⟩
    · exact retOut X84 hx Bd.returns rfl (Or.inr (Or.inr (Or.inr (Or.inr ⟨rfl, rfl, rfl⟩)))) (hb hby d3_9) hr
    · show QR h0 n0 _ T84.heap _
      rw [e84]
      exact ⟨_, rfl, N0, rfl⟩
  · skip
    have k_86 : Go p.tables e below (s₁.setTop (entryFrame m #[(.int q1)] 1)) (s₁.setTop (mkF m 10 #[iv q1] [])) := fun t q => by
      refine k0 t ?_
      refine XS.iloadN X0.here hx rfl (hb hby d3_0) rfl ?_
      show Steps _ _ _ (s₁.setTop (mkF m 1 #[iv q1] [(.int q1)])) _
      refine XS.iconst X0.here hx rfl (hb hby d3_1) ?_
      show Steps _ _ _ (s₁.setTop (mkF m 2 #[iv q1] [(.int 1), (.int q1)])) _
      refine XS.iand X0.here hx rfl (hb hby d3_2) rfl ?_
      show Steps _ _ _ (s₁.setTop (mkF m 3 #[iv q1] [(.int (q1 &&& (1 : Int32)))])) _
      rw [hi]
      show Steps _ _ _ (s₁.setTop (mkF m 3 #[iv q1] [(.int 1)])) _
      refine XS.ifYes X0.here hx rfl (pc0 := 3) (pc' := 10) rfl (hb hby d3_3) rfl (by decide) (by decide) (by decide) ?_
      show Steps _ _ _ (s₁.setTop (mkF m 10 #[iv q1] [])) _
      exact q
    obtain ⟨T87, X87, e87, st87⟩ := getS2 X0 hx hZ hown (host := "") (Or.inl (hw _ (wd 80 rfl))) Via.refl e0 (S_MEDICATION.ext O0.2) (g := (mkF m 10 #[iv q1] [])) rfl (hb hby d3_10)
    have k_88 : Go p.tables e below (s₁.setTop (entryFrame m #[(.int q1)] 1)) (T87.setTop (mkF m 13 #[iv q1] [(.ref a_MEDICATION)])) := fun t q => by
      refine k_86 t ?_
      refine st87 _ ?_
      show Steps _ _ _ (T87.setTop (mkF m 13 #[iv q1] [(.ref a_MEDICATION)])) _
      exact q
    obtain ⟨fs, hr, hrun, hended, hW, hsame⟩ := X87.leave (v := some (.ref a_MEDICATION)) (fun h => by rw [Bd.returns] at h; cases h)
    refine ⟨_, _, k_88 _ ?_, hrun, hended, _, _, rfl, ?_, ⟨_, rfl⟩, hW, hsame.mono (by decide) (by decide)⟩
    · exact retOut X87 hx Bd.returns rfl (Or.inr (Or.inr (Or.inr (Or.inr ⟨rfl, rfl, rfl⟩)))) (hb hby d3_13) hr
    · show QR h0 n0 _ T87.heap _
      rw [e87]
      exact ⟨_, rfl, N0, rfl⟩
set_option maxRecDepth 65536 in
set_option maxHeartbeats 40000000 in
theorem rec0 (l : Launch) (Z : State) (a0 : Array Value) (hw : ∀ d ∈ tables_1, d.before a0 Z = true) (ws : List Jvm.Cond) (a_STU3 a_DMY a_DOSAGE a_R4 a_ISO a_MEDICATION a_DMMMY : Addr) (G : Own Z a_STU3 a_DMY a_DOSAGE a_R4 a_ISO a_MEDICATION a_DMMMY) (a1 : Addr) (h0 : Heap) (n0 : Nat) (O0 : Old Z n0 h0)  :
    MetFree l y_1 (head1 (Jvm.Cond.code y_1 jdk_30_method_1_code 1 none :: ws) ({ frames := 1, cells := 0, slots := 0, locals := 12 } : Room)) (fun a U => a = #[(.ref a1)] ∧ Z.Warmed39 U.vm ∧ U.heap = h0) (fun _ _ _ _ _ => True) (fun _ U o U' => ∃ v L, o = .returned v ∧ QV none h0 n0 v U'.heap L ∧ FrameEnd U o U' L ({ frames := 1, cells := 0, slots := 0, locals := 12 } : Room).cells ({ frames := 1, cells := 0, slots := 0, locals := 12 } : Room).slots) := by
  refine MetFree.of_bodySF (plainFor_of_name pn_1) hisR ?_
  intro p e s m args below meth c s₁ Bd hml0 hP hK
  obtain ⟨rfl, hZ, hh⟩ := hP
  have hx := Bd.exec
  have hby := Bd.bytes
  have hml : c.maxLocals = 1 := hml0
  have hown : s.vm.findClass "java/lang/Record" = some m.cls := findClass_of_methodNamed Bd.named
  have hnm := (name_of_methodNamed Bd.named Bd.method).1
  have X0 : Stand p l e ({ frames := 1, cells := 0, slots := 0, locals := 12 } : Room) s m #[(.ref a1)] below meth c s₁ [] 0 0 := Stand.of_body Bd
  have e0 : s₁.heap = h0 := by rw [← hh, Bd.state]; rfl
  have N0 := Fr.nil n0
  have K0 := Keep.refl h0 []
  have k0 : Go p.tables e below (s₁.setTop (entryFrame m #[(.ref a1)] 1)) (s₁.setTop (mkF m 0 #[rv a1] [])) := fun t k => castTop (by first | rfl | (simp [entryFrame, mkF, argsToLocals, Value.category]; done)) k
  have ⟨S_STU3, E_STU3, S_DMY, E_DMY, S_DOSAGE, E_DOSAGE, S_R4, E_R4, S_ISO, E_ISO, S_MEDICATION, E_MEDICATION, S_DMMMY, E_DMMMY⟩ := G
  have k_2 : Go p.tables e below (s₁.setTop (entryFrame m #[(.ref a1)] 1)) (s₁.setTop (mkF m 1 #[rv a1] [(.ref a1)])) := fun t q => by
    refine k0 t ?_
    refine XS.aloadN X0.here hx rfl (hb hby d5_0) rfl rfl ?_
    show Steps _ _ _ (s₁.setTop (mkF m 1 #[rv a1] [(.ref a1)])) _
    exact q
  obtain ⟨T3, X3, e3, st3⟩ := initO X0 hx hZ hown (hw _ (wd 33 rfl)) (hw _ (wd 34 rfl)) (hw _ (wd 35 rfl)) e0 (g := (mkF m 1 #[rv a1] [(.ref a1)])) rfl (by rw [hml]; rfl) rfl (hb hby d5_1) (by decide) (W := 0) (by show 2 * 0 + _ ≤ _; exact Nat.le_of_eq rfl) (by decide)
  have k_4 : Go p.tables e below (s₁.setTop (entryFrame m #[(.ref a1)] 1)) (T3.setTop (mkF m 4 #[rv a1] [])) := fun t q => by
    refine k_2 t ?_
    refine st3 _ ?_
    show Steps _ _ _ (T3.setTop (mkF m 4 #[rv a1] [])) _
    exact q
  obtain ⟨fs, hr, hrun, hended, hW, hsame⟩ := X3.leave (v := none) (fun _ => rfl)
  refine ⟨_, _, k_4 _ ?_, hrun, hended, _, _, rfl, ?_, ⟨_, rfl⟩, hW, hsame.mono (by decide) (by decide)⟩
  · exact X3.returnOut hx Bd.returns (hb hby d5_4) hr
  · show QV none h0 n0 _ T3.heap _
    rw [e3]
    exact ⟨rfl, N0, rfl⟩
set_option maxRecDepth 65536 in
set_option maxHeartbeats 40000000 in
theorem init_r (l : Launch) (Z : State) (a0 : Array Value) (hw : ∀ d ∈ tables_1, d.before a0 Z = true) (ws : List Jvm.Cond) (a_STU3 a_DMY a_DOSAGE a_R4 a_ISO a_MEDICATION a_DMMMY : Addr) (G : Own Z a_STU3 a_DMY a_DOSAGE a_R4 a_ISO a_MEDICATION a_DMMMY) (a1 : Addr) (x0 : Addr) (x1 : Addr) (x2 : Addr) (h0 : Heap) (n0 : Nat) (O0 : Old Z n0 h0) (E0 : Exa Z h0 a1 "com/example/dosewright/dosewright/RenderOptions") (F0_0 : Fld Z h0 a1 "com/example/dosewright/dosewright/RenderOptions" "fhirVersion" "Lcom/example/dosewright/dosewright/FhirVersion;" .null) (F0_1 : Fld Z h0 a1 "com/example/dosewright/dosewright/RenderOptions" "dateStyle" "Lcom/example/dosewright/dosewright/DateStyle;" .null) (F0_2 : Fld Z h0 a1 "com/example/dosewright/dosewright/RenderOptions" "lineKind" "Lcom/example/dosewright/dosewright/LineKind;" .null) (g0 : n0 ≤ a1) :
    MetFree l y_2 (head1 (Jvm.Cond.code y_2 prog_24_method_1_code 4 none :: ws) ({ frames := 2, cells := 6, slots := 124, locals := 24 } : Room)) (fun a U => a = #[(.ref a1), (.ref x0), (.ref x1), (.ref x2)] ∧ Z.Warmed39 U.vm ∧ U.heap = h0) (fun _ _ _ _ _ => True) (fun _ U o U' => ∃ v L, o = .returned v ∧ QI_r Z a1 x0 x1 x2 h0 n0 v U'.heap L ∧ ReturnedEndW U o U' L ({ frames := 2, cells := 6, slots := 124, locals := 24 } : Room).cells ({ frames := 2, cells := 6, slots := 124, locals := 24 } : Room).slots) := by
  refine MetFree.of_bodySF (plainFor_of_name pn_2) hisR ?_
  intro p e s m args below meth c s₁ Bd hml0 hP hK
  obtain ⟨rfl, hZ, hh⟩ := hP
  have hx := Bd.exec
  have hby := Bd.bytes
  have hml : c.maxLocals = 4 := hml0
  have hown : s.vm.findClass "com/example/dosewright/dosewright/RenderOptions" = some m.cls := findClass_of_methodNamed Bd.named
  have hnm := (name_of_methodNamed Bd.named Bd.method).1
  have X0 : Stand p l e ({ frames := 2, cells := 6, slots := 124, locals := 24 } : Room) (s.setVm s.vm) m #[(.ref a1), (.ref x0), (.ref x1), (.ref x2)] below meth c s₁ [] 0 0 := Stand.of_body Bd
  have e0 : s₁.heap = h0 := by rw [← hh, Bd.state]; rfl
  have N0 := Fr.nil n0
  have K0 := Keep.refl h0 [a1]
  have k0 : Go p.tables e below (s₁.setTop (entryFrame m #[(.ref a1), (.ref x0), (.ref x1), (.ref x2)] 4)) (s₁.setTop (mkF m 0 #[rv a1, rv x0, rv x1, rv x2] [])) := fun t k => castTop (by first | rfl | (simp [entryFrame, mkF, argsToLocals, Value.category]; done)) k
  have hS0 : s.Since s.vm h0.size := (State.WarmedH.refl s).since _
  have hk0 : h0.size ≤ h0.size := Nat.le_refl _
  have ⟨S_STU3, E_STU3, S_DMY, E_DMY, S_DOSAGE, E_DOSAGE, S_R4, E_R4, S_ISO, E_ISO, S_MEDICATION, E_MEDICATION, S_DMMMY, E_DMMMY⟩ := G
  have k_5 : Go p.tables e below (s₁.setTop (entryFrame m #[(.ref a1), (.ref x0), (.ref x1), (.ref x2)] 4)) (s₁.setTop (mkF m 1 #[rv a1, rv x0, rv x1, rv x2] [(.ref a1)])) := fun t q => by
    refine k0 t ?_
    refine XS.aloadN X0.here hx rfl (hb hby d4_0) rfl rfl ?_
    show Steps _ _ _ (s₁.setTop (mkF m 1 #[rv a1, rv x0, rv x1, rv x2] [(.ref a1)])) _
    exact q
  obtain ⟨_, _, ⟨T6, L6, k6, n6⟩, -, X6, ⟨Lc6, hQ6, l6, y6, z6⟩, st6⟩ := X0.specialBack hx (y := y_1) rfl hown (mvT hZ (hw _ (wd 28 rfl))) (mvT hZ (hw _ (wd 29 rfl))) (mvT hZ (hw _ (wd 32 rfl))) (by decide) (backOf (W := 0) (rec0 l Z a0 hw [] a_STU3 a_DMY a_DOSAGE a_R4 a_ISO a_MEDICATION a_DMMMY G a1 h0 n0 O0) hZ (hw _ (wd 32 rfl)) (hw _ (wd 31 rfl)) (by decide) (by decide)) (g := (mkF m 1 #[rv a1, rv x0, rv x1, rv x2] [(.ref a1)])) rfl (by rw [hml]; rfl) (Steps.refl _) (a := a1) (argsL := []) (rest := []) (lenOf pd_0 rfl) rfl (by show 2 * 0 + _ ≤ _; exact Nat.le_of_eq rfl) (hb hby d4_1) (fun _ _ => ⟨rfl, e0, (by decide : 0 + 0 ≤ _), (by decide : 0 + 0 ≤ _)⟩)
  dsimp only [Pt.U, Pt.locs, Pt.cells, Pt.slots] at X6 l6 y6 z6 st6 hQ6
  subst l6 y6 z6
  obtain ⟨rfl, N6q, e6⟩ := hQ6
  have N6 := Fr.app N0 N6q
  have k_7 : Go p.tables e below (s₁.setTop (entryFrame m #[(.ref a1), (.ref x0), (.ref x1), (.ref x2)] 4)) (T6.setTop (mkF m 5 #[rv a1, rv x0, rv x1, rv x2] [(.ref x0)])) := fun t q => by
    refine k_5 t ?_
    refine st6.trans ?_
    show Steps _ _ _ (T6.setTop (mkF m 4 #[rv a1, rv x0, rv x1, rv x2] [])) _
    refine XS.aloadN X6.here hx rfl (hb hby d4_4) rfl rfl ?_
    show Steps _ _ _ (T6.setTop (mkF m 5 #[rv a1, rv x0, rv x1, rv x2] [(.ref x0)])) _
    exact q
  obtain ⟨sa8, T8, h8, kk8, X8, e8, E8, hS8, hk8, hZ8, hown8, st8⟩ := ldcS X6 hx hZ hown (hw _ (wd 36 rfl)) (own_strs hw) e6 hS0 hk0 (g := (mkF m 5 #[rv a1, rv x0, rv x1, rv x2] [(.ref x0)])) rfl (hb hby d4_5) (n := 44) (by decide) (by decide) (by decide) (by decide)
  have f_9 := Exa.ext E8 E0
  have f_10 := Fld.ext E8 F0_0
  have f_11 := Fld.ext E8 F0_1
  have f_12 := Fld.ext E8 F0_2
  have O_13 := O0.ext E8
  have K_14 := K0.ext E8
  have hk_15 := Nat.le_trans hk0 E8.1
  have k_16 : Go p.tables e below (s₁.setTop (entryFrame m #[(.ref a1), (.ref x0), (.ref x1), (.ref x2)] 4)) (T8.setTop (mkF m 7 #[rv a1, rv x0, rv x1, rv x2] [(.ref sa8), (.ref x0)])) := fun t q => by
    refine k_7 t ?_
    refine st8 _ ?_
    show Steps _ _ _ (T8.setTop (mkF m 7 #[rv a1, rv x0, rv x1, rv x2] [(.ref sa8), (.ref x0)])) _
    exact q
  obtain ⟨_, _, ⟨T17, L17, k17, n17⟩, -, X17, ⟨Lc17, hQ17, l17, y17, z17⟩, st17⟩ := Jvm.LawKit.callS X8 hx (y := y_0) hown8 (mvT hZ8 (hw _ (wd 44 rfl))) (mvT hZ8 (hw _ (wd 45 rfl))) (mvT hZ8 (hw _ (wd 46 rfl))) (mvT hZ8 (hw _ (wd 47 rfl))) (by decide) (backOf (W := 0) (rnn l Z a0 hw [] a_STU3 a_DMY a_DOSAGE a_R4 a_ISO a_MEDICATION a_DMMMY G x0 sa8 h8 n0 O_13 ) hZ8 (hw _ (wd 47 rfl)) (hw _ (wd 46 rfl)) (by decide) (by decide)) (g := (mkF m 7 #[rv a1, rv x0, rv x1, rv x2] [(.ref sa8), (.ref x0)])) rfl (by rw [hml]; rfl) (argsL := [(.ref x0), (.ref sa8)]) (rest := []) (lenOf pd_1 rfl) rfl (by show 2 * 0 + _ ≤ _; exact Nat.le_of_eq rfl) (hb hby d4_7) (fun _ _ => ⟨rfl, e8, (by decide : 2 + 0 ≤ _), (by decide : 48 + 0 ≤ _)⟩)
  dsimp only [Pt.U, Pt.locs, Pt.cells, Pt.slots] at X17 l17 y17 z17 st17 hQ17
  subst l17 y17 z17
  obtain ⟨rfl, N17q, e17⟩ := hQ17
  have N17 := Fr.app N6 N17q
  have k_18 : Go p.tables e below (s₁.setTop (entryFrame m #[(.ref a1), (.ref x0), (.ref x1), (.ref x2)] 4)) (T17.setTop (mkF m 12 #[rv a1, rv x0, rv x1, rv x2] [(.ref x1)])) := fun t q => by
    refine k_16 t ?_
    refine st17 _ ?_
    show Steps _ _ _ (T17.setTop (mkF m 10 #[rv a1, rv x0, rv x1, rv x2] [(.ref x0)])) _
    refine XS.pop X17.here hx rfl (hb hby d4_10) rfl rfl ?_
    show Steps _ _ _ (T17.setTop (mkF m 11 #[rv a1, rv x0, rv x1, rv x2] [])) _
    refine XS.aloadN X17.here hx rfl (hb hby d4_11) rfl rfl ?_
    show Steps _ _ _ (T17.setTop (mkF m 12 #[rv a1, rv x0, rv x1, rv x2] [(.ref x1)])) _
    exact q
  obtain ⟨sa19, T19, h19, kk19, X19, e19, E19, hS19, hk19, hZ19, hown19, st19⟩ := ldcS X17 hx hZ8 hown8 (hw _ (wd 48 rfl)) (own_strs hw) e17 hS8 hk8 (g := (mkF m 12 #[rv a1, rv x0, rv x1, rv x2] [(.ref x1)])) rfl (hb hby d4_12) (n := 36) (by decide) (by decide) (by decide) (by decide)
  have f_20 := Exa.ext E19 f_9
  have f_21 := Fld.ext E19 f_10
  have f_22 := Fld.ext E19 f_11
  have f_23 := Fld.ext E19 f_12
  have O_24 := O_13.ext E19
  have K_25 := K_14.ext E19
  have hk_26 := Nat.le_trans hk8 E19.1
  have k_27 : Go p.tables e below (s₁.setTop (entryFrame m #[(.ref a1), (.ref x0), (.ref x1), (.ref x2)] 4)) (T19.setTop (mkF m 14 #[rv a1, rv x0, rv x1, rv x2] [(.ref sa19), (.ref x1)])) := fun t q => by
    refine k_18 t ?_
    refine st19 _ ?_
    show Steps _ _ _ (T19.setTop (mkF m 14 #[rv a1, rv x0, rv x1, rv x2] [(.ref sa19), (.ref x1)])) _
    exact q
  obtain ⟨_, _, ⟨T28, L28, k28, n28⟩, -, X28, ⟨Lc28, hQ28, l28, y28, z28⟩, st28⟩ := Jvm.LawKit.callS X19 hx (y := y_0) hown19 (mvT hZ19 (hw _ (wd 44 rfl))) (mvT hZ19 (hw _ (wd 45 rfl))) (mvT hZ19 (hw _ (wd 46 rfl))) (mvT hZ19 (hw _ (wd 47 rfl))) (by decide) (backOf (W := 0) (rnn l Z a0 hw [] a_STU3 a_DMY a_DOSAGE a_R4 a_ISO a_MEDICATION a_DMMMY G x1 sa19 h19 n0 O_24 ) hZ19 (hw _ (wd 47 rfl)) (hw _ (wd 46 rfl)) (by decide) (by decide)) (g := (mkF m 14 #[rv a1, rv x0, rv x1, rv x2] [(.ref sa19), (.ref x1)])) rfl (by rw [hml]; rfl) (argsL := [(.ref x1), (.ref sa19)]) (rest := []) (lenOf pd_1 rfl) rfl (by show 2 * 0 + _ ≤ _; exact Nat.le_of_eq rfl) (hb hby d4_14) (fun _ _ => ⟨rfl, e19, (by decide : 4 + 0 ≤ _), (by decide : 88 + 0 ≤ _)⟩)
  dsimp only [Pt.U, Pt.locs, Pt.cells, Pt.slots] at X28 l28 y28 z28 st28 hQ28
  subst l28 y28 z28
  obtain ⟨rfl, N28q, e28⟩ := hQ28
  have N28 := Fr.app N17 N28q
  have k_29 : Go p.tables e below (s₁.setTop (entryFrame m #[(.ref a1), (.ref x0), (.ref x1), (.ref x2)] 4)) (T28.setTop (mkF m 19 #[rv a1, rv x0, rv x1, rv x2] [(.ref x2)])) := fun t q => by
    refine k_27 t ?_
    refine st28 _ ?_
    show Steps _ _ _ (T28.setTop (mkF m 17 #[rv a1, rv x0, rv x1, rv x2] [(.ref x1)])) _
    refine XS.pop X28.here hx rfl (hb hby d4_17) rfl rfl ?_
    show Steps _ _ _ (T28.setTop (mkF m 18 #[rv a1, rv x0, rv x1, rv x2] [])) _
    refine XS.aloadN X28.here hx rfl (hb hby d4_18) rfl rfl ?_
    show Steps _ _ _ (T28.setTop (mkF m 19 #[rv a1, rv x0, rv x1, rv x2] [(.ref x2)])) _
    exact q
  obtain ⟨sa30, T30, h30, kk30, X30, e30, E30, hS30, hk30, hZ30, hown30, st30⟩ := ldcS X28 hx hZ19 hown19 (hw _ (wd 49 rfl)) (own_strs hw) e28 hS19 hk19 (g := (mkF m 19 #[rv a1, rv x0, rv x1, rv x2] [(.ref x2)])) rfl (hb hby d4_19) (n := 32) (by decide) (by decide) (by decide) (by decide)
  have f_31 := Exa.ext E30 f_20
  have f_32 := Fld.ext E30 f_21
  have f_33 := Fld.ext E30 f_22
  have f_34 := Fld.ext E30 f_23
  have O_35 := O_24.ext E30
  have K_36 := K_25.ext E30
  have hk_37 := Nat.le_trans hk19 E30.1
  have k_38 : Go p.tables e below (s₁.setTop (entryFrame m #[(.ref a1), (.ref x0), (.ref x1), (.ref x2)] 4)) (T30.setTop (mkF m 21 #[rv a1, rv x0, rv x1, rv x2] [(.ref sa30), (.ref x2)])) := fun t q => by
    refine k_29 t ?_
    refine st30 _ ?_
    show Steps _ _ _ (T30.setTop (mkF m 21 #[rv a1, rv x0, rv x1, rv x2] [(.ref sa30), (.ref x2)])) _
    exact q
  obtain ⟨_, _, ⟨T39, L39, k39, n39⟩, -, X39, ⟨Lc39, hQ39, l39, y39, z39⟩, st39⟩ := Jvm.LawKit.callS X30 hx (y := y_0) hown30 (mvT hZ30 (hw _ (wd 44 rfl))) (mvT hZ30 (hw _ (wd 45 rfl))) (mvT hZ30 (hw _ (wd 46 rfl))) (mvT hZ30 (hw _ (wd 47 rfl))) (by decide) (backOf (W := 0) (rnn l Z a0 hw [] a_STU3 a_DMY a_DOSAGE a_R4 a_ISO a_MEDICATION a_DMMMY G x2 sa30 h30 n0 O_35 ) hZ30 (hw _ (wd 47 rfl)) (hw _ (wd 46 rfl)) (by decide) (by decide)) (g := (mkF m 21 #[rv a1, rv x0, rv x1, rv x2] [(.ref sa30), (.ref x2)])) rfl (by rw [hml]; rfl) (argsL := [(.ref x2), (.ref sa30)]) (rest := []) (lenOf pd_1 rfl) rfl (by show 2 * 0 + _ ≤ _; exact Nat.le_of_eq rfl) (hb hby d4_21) (fun _ _ => ⟨rfl, e30, (by decide : 6 + 0 ≤ _), (by decide : 124 + 0 ≤ _)⟩)
  dsimp only [Pt.U, Pt.locs, Pt.cells, Pt.slots] at X39 l39 y39 z39 st39 hQ39
  subst l39 y39 z39
  obtain ⟨rfl, N39q, e39⟩ := hQ39
  have N39 := Fr.app N28 N39q
  have k_40 : Go p.tables e below (s₁.setTop (entryFrame m #[(.ref a1), (.ref x0), (.ref x1), (.ref x2)] 4)) (T39.setTop (mkF m 27 #[rv a1, rv x0, rv x1, rv x2] [(.ref x0), (.ref a1)])) := fun t q => by
    refine k_38 t ?_
    refine st39 _ ?_
    show Steps _ _ _ (T39.setTop (mkF m 24 #[rv a1, rv x0, rv x1, rv x2] [(.ref x2)])) _
    refine XS.pop X39.here hx rfl (hb hby d4_24) rfl rfl ?_
    show Steps _ _ _ (T39.setTop (mkF m 25 #[rv a1, rv x0, rv x1, rv x2] [])) _
    refine XS.aloadN X39.here hx rfl (hb hby d4_25) rfl rfl ?_
    show Steps _ _ _ (T39.setTop (mkF m 26 #[rv a1, rv x0, rv x1, rv x2] [(.ref a1)])) _
    refine XS.aloadN X39.here hx rfl (hb hby d4_26) rfl rfl ?_
    show Steps _ _ _ (T39.setTop (mkF m 27 #[rv a1, rv x0, rv x1, rv x2] [(.ref x0), (.ref a1)])) _
    exact q
  obtain ⟨T41, h41, X41, e41, W41, st41⟩ := putF X39 hx hZ30 hown30 (host := "") (Or.inl (hw _ (wd 50 rfl))) Via.refl e39 f_32 f_31 (Or.inr ⟨(hw _ (wd 51 rfl)), rfl, hnm⟩) (hw _ (wd 23 rfl)) (ty := (.object "com/example/dosewright/dosewright/FhirVersion")) (by decide) rfl rfl (g := (mkF m 27 #[rv a1, rv x0, rv x1, rv x2] [(.ref x0), (.ref a1)])) rfl rfl (hb hby d4_27)
  have N41 := Fr.snoc X41 N39 g0
  have f_42 := Fld.same W41 f_32
  have f_43 := Exa.wr W41 f_31
  have f_44 := Fld.other W41 f_33 (Or.inr (slot_ne (Or.inr (hw _ (wd 53 rfl))) (Or.inr (hw _ (wd 51 rfl))) (by decide) (t := (.object "com/example/dosewright/dosewright/DateStyle")) (t' := (.object "com/example/dosewright/dosewright/FhirVersion")) (by decide) (by decide)))
  have f_45 := Fld.other W41 f_34 (Or.inr (slot_ne (Or.inr (hw _ (wd 55 rfl))) (Or.inr (hw _ (wd 51 rfl))) (by decide) (t := (.object "com/example/dosewright/dosewright/LineKind")) (t' := (.object "com/example/dosewright/dosewright/FhirVersion")) (by decide) (by decide)))
  have O_46 := O_35.wr W41 g0
  have K_47 := K_36.wr W41 (Or.inl (List.mem_of_getElem? (i := 0) rfl))
  have hk_48 := Nat.le_trans hk30 (Nat.le_of_eq (Wr.size W41).symm)
  have k_49 : Go p.tables e below (s₁.setTop (entryFrame m #[(.ref a1), (.ref x0), (.ref x1), (.ref x2)] 4)) (T41.setTop (mkF m 32 #[rv a1, rv x0, rv x1, rv x2] [(.ref x1), (.ref a1)])) := fun t q => by
    refine k_40 t ?_
    refine st41 _ ?_
    show Steps _ _ _ (T41.setTop (mkF m 30 #[rv a1, rv x0, rv x1, rv x2] [])) _
    refine XS.aloadN X41.here hx rfl (hb hby d4_30) rfl rfl ?_
    show Steps _ _ _ (T41.setTop (mkF m 31 #[rv a1, rv x0, rv x1, rv x2] [(.ref a1)])) _
    refine XS.aloadN X41.here hx rfl (hb hby d4_31) rfl rfl ?_
    show Steps _ _ _ (T41.setTop (mkF m 32 #[rv a1, rv x0, rv x1, rv x2] [(.ref x1), (.ref a1)])) _
    exact q
  obtain ⟨T50, h50, X50, e50, W50, st50⟩ := putF X41 hx hZ30 hown30 (host := "") (Or.inl (hw _ (wd 52 rfl))) Via.refl e41 f_44 f_43 (Or.inr ⟨(hw _ (wd 53 rfl)), rfl, hnm⟩) (hw _ (wd 23 rfl)) (ty := (.object "com/example/dosewright/dosewright/DateStyle")) (by decide) rfl rfl (g := (mkF m 32 #[rv a1, rv x0, rv x1, rv x2] [(.ref x1), (.ref a1)])) rfl rfl (hb hby d4_32)
  have N50 := Fr.snoc X50 N41 g0
  have f_51 := Fld.same W50 f_44
  have f_52 := Exa.wr W50 f_43
  have f_53 := Fld.other W50 f_45 (Or.inr (slot_ne (Or.inr (hw _ (wd 55 rfl))) (Or.inr (hw _ (wd 53 rfl))) (by decide) (t := (.object "com/example/dosewright/dosewright/LineKind")) (t' := (.object "com/example/dosewright/dosewright/DateStyle")) (by decide) (by decide)))
  have f_54 := Fld.other W50 f_42 (Or.inr (slot_ne (Or.inr (hw _ (wd 51 rfl))) (Or.inr (hw _ (wd 53 rfl))) (by decide) (t := (.object "com/example/dosewright/dosewright/FhirVersion")) (t' := (.object "com/example/dosewright/dosewright/DateStyle")) (by decide) (by decide)))
  have O_55 := O_46.wr W50 g0
  have K_56 := K_47.wr W50 (Or.inl (List.mem_of_getElem? (i := 0) rfl))
  have hk_57 := Nat.le_trans hk_48 (Nat.le_of_eq (Wr.size W50).symm)
  have k_58 : Go p.tables e below (s₁.setTop (entryFrame m #[(.ref a1), (.ref x0), (.ref x1), (.ref x2)] 4)) (T50.setTop (mkF m 37 #[rv a1, rv x0, rv x1, rv x2] [(.ref x2), (.ref a1)])) := fun t q => by
    refine k_49 t ?_
    refine st50 _ ?_
    show Steps _ _ _ (T50.setTop (mkF m 35 #[rv a1, rv x0, rv x1, rv x2] [])) _
    refine XS.aloadN X50.here hx rfl (hb hby d4_35) rfl rfl ?_
    show Steps _ _ _ (T50.setTop (mkF m 36 #[rv a1, rv x0, rv x1, rv x2] [(.ref a1)])) _
    refine XS.aloadN X50.here hx rfl (hb hby d4_36) rfl rfl ?_
    show Steps _ _ _ (T50.setTop (mkF m 37 #[rv a1, rv x0, rv x1, rv x2] [(.ref x2), (.ref a1)])) _
    exact q
  obtain ⟨T59, h59, X59, e59, W59, st59⟩ := putF X50 hx hZ30 hown30 (host := "") (Or.inl (hw _ (wd 54 rfl))) Via.refl e50 f_53 f_52 (Or.inr ⟨(hw _ (wd 55 rfl)), rfl, hnm⟩) (hw _ (wd 23 rfl)) (ty := (.object "com/example/dosewright/dosewright/LineKind")) (by decide) rfl rfl (g := (mkF m 37 #[rv a1, rv x0, rv x1, rv x2] [(.ref x2), (.ref a1)])) rfl rfl (hb hby d4_37)
  have N59 := Fr.snoc X59 N50 g0
  have f_60 := Fld.same W59 f_53
  have f_61 := Exa.wr W59 f_52
  have f_62 := Fld.other W59 f_54 (Or.inr (slot_ne (Or.inr (hw _ (wd 51 rfl))) (Or.inr (hw _ (wd 55 rfl))) (by decide) (t := (.object "com/example/dosewright/dosewright/FhirVersion")) (t' := (.object "com/example/dosewright/dosewright/LineKind")) (by decide) (by decide)))
  have f_63 := Fld.other W59 f_51 (Or.inr (slot_ne (Or.inr (hw _ (wd 53 rfl))) (Or.inr (hw _ (wd 55 rfl))) (by decide) (t := (.object "com/example/dosewright/dosewright/DateStyle")) (t' := (.object "com/example/dosewright/dosewright/LineKind")) (by decide) (by decide)))
  have O_64 := O_55.wr W59 g0
  have K_65 := K_56.wr W59 (Or.inl (List.mem_of_getElem? (i := 0) rfl))
  have hk_66 := Nat.le_trans hk_57 (Nat.le_of_eq (Wr.size W59).symm)
  have k_67 : Go p.tables e below (s₁.setTop (entryFrame m #[(.ref a1), (.ref x0), (.ref x1), (.ref x2)] 4)) (T59.setTop (mkF m 40 #[rv a1, rv x0, rv x1, rv x2] [])) := fun t q => by
    refine k_58 t ?_
    refine st59 _ ?_
    show Steps _ _ _ (T59.setTop (mkF m 40 #[rv a1, rv x0, rv x1, rv x2] [])) _
    exact q
  obtain ⟨fs, hr, hrun, hended, hEnd⟩ := X59.leaveW hS30 ((e59).symm ▸ hk_66) (v := none) (fun _ => rfl)
  refine ⟨_, _, k_67 _ ?_, hrun, hended, _, _, rfl, ?_, (⟨hEnd.1, hEnd.2.1, hEnd.2.2.1, hEnd.2.2.2.mono (by decide) (by decide)⟩ : ReturnedEndW _ _ _ _ _ _)⟩
  · exact X59.returnOut hx Bd.returns (hb hby d4_40) hr
  · show QI_r Z a1 x0 x1 x2 h0 n0 _ T59.heap _
    rw [e59]
    exact ⟨rfl, N59, K_65, f_62, f_63, f_60⟩
set_option maxRecDepth 65536 in
set_option maxHeartbeats 40000000 in
theorem wth (l : Launch) (Z : State) (a0 : Array Value) (hw : ∀ d ∈ tables_1, d.before a0 Z = true) (ws : List Jvm.Cond) (a_STU3 a_DMY a_DOSAGE a_R4 a_ISO a_MEDICATION a_DMMMY : Addr) (G : Own Z a_STU3 a_DMY a_DOSAGE a_R4 a_ISO a_MEDICATION a_DMMMY) (a1 x0 x1 x2 x9 : Addr) (h0 : Heap) (n0 : Nat) (O0 : Old Z n0 h0) (F0_0 : Fld Z h0 a1 "com/example/dosewright/dosewright/RenderOptions" "fhirVersion" "Lcom/example/dosewright/dosewright/FhirVersion;" (.ref x0)) (F0_1 : Fld Z h0 a1 "com/example/dosewright/dosewright/RenderOptions" "dateStyle" "Lcom/example/dosewright/dosewright/DateStyle;" (.ref x1)) (F0_2 : Fld Z h0 a1 "com/example/dosewright/dosewright/RenderOptions" "lineKind" "Lcom/example/dosewright/dosewright/LineKind;" (.ref x2)) :
    MetFree l y_6 (head1 (Jvm.Cond.code y_6 prog_24_method_2_code 2 (some (.object "com/example/dosewright/dosewright/RenderOptions")) :: ws) ({ frames := 3, cells := 7, slots := 127, locals := 40 } : Room)) (fun a U => a = #[(.ref a1), (.ref x9)] ∧ Z.Warmed39 U.vm ∧ U.heap = h0) (fun _ _ _ _ _ => True) (fun _ U o U' => ∃ v L, o = .returned v ∧ QM_r Z x9 x1 x2 h0 n0 v U'.heap L ∧ ReturnedEndW U o U' L ({ frames := 3, cells := 7, slots := 127, locals := 40 } : Room).cells ({ frames := 3, cells := 7, slots := 127, locals := 40 } : Room).slots) := by
  refine MetFree.of_bodySF (plainFor_of_name pn_2) hisR ?_
  intro p e s m args below meth c s₁ Bd hml0 hP hK
  obtain ⟨rfl, hZ, hh⟩ := hP
  have hx := Bd.exec
  have hby := Bd.bytes
  have hml : c.maxLocals = 2 := hml0
  have hown : s.vm.findClass "com/example/dosewright/dosewright/RenderOptions" = some m.cls := findClass_of_methodNamed Bd.named
  have hnm := (name_of_methodNamed Bd.named Bd.method).1
  have X0 : Stand p l e ({ frames := 3, cells := 7, slots := 127, locals := 40 } : Room) (s.setVm s.vm) m #[(.ref a1), (.ref x9)] below meth c s₁ [] 0 0 := Stand.of_body Bd
  have e0 : s₁.heap = h0 := by rw [← hh, Bd.state]; rfl
  have N0 := Fr.nil n0
  have K0 := Keep.refl h0 []
  have k0 : Go p.tables e below (s₁.setTop (entryFrame m #[(.ref a1), (.ref x9)] 2)) (s₁.setTop (mkF m 0 #[rv a1, rv x9] [])) := fun t k => castTop (by first | rfl | (simp [entryFrame, mkF, argsToLocals, Value.category]; done)) k
  have hS0 : s.Since s.vm h0.size := (State.WarmedH.refl s).since _
  have hk0 : h0.size ≤ h0.size := Nat.le_refl _
  have ⟨S_STU3, E_STU3, S_DMY, E_DMY, S_DOSAGE, E_DOSAGE, S_R4, E_R4, S_ISO, E_ISO, S_MEDICATION, E_MEDICATION, S_DMMMY, E_DMMMY⟩ := G
  obtain ⟨T89, h89, X89, e89, E89, A89, D89, -, st89⟩ := newO X0 hx hZ hown (hw _ (wd 61 rfl)) (hw _ (wd 23 rfl)) (hw _ (wd 24 rfl)) e0 (g := (mkF m 0 #[rv a1, rv x9] [])) rfl (hb hby d8_0) (by decide) (by decide)
  obtain ⟨b89, g89⟩ : ∃ z, z = h0.size := ⟨_, rfl⟩
  rw [← g89] at A89 D89 st89
  have g_b89 : n0 ≤ b89 := Nat.le_trans (own_old_le O0) (Nat.le_of_eq g89.symm)
  have sz_b89 : h0.size ≤ b89 := Nat.le_trans K0.1 (Nat.le_of_eq g89.symm)
  have ne_a1_b89 : a1 ≠ b89 := Nat.ne_of_lt (Nat.lt_of_lt_of_le F0_0.lt (Nat.le_of_eq g89.symm))
  have f_90 := Fld.ext E89 F0_0
  have f_91 := Fld.ext E89 F0_1
  have f_92 := Fld.ext E89 F0_2
  have O_93 := O0.ext E89
  have K_94 := K0.ext E89
  have hk_95 := Nat.le_trans hk0 E89.1
  have F89_fhirVersion : Fld Z h89 b89 "com/example/dosewright/dosewright/RenderOptions" "fhirVersion" "Lcom/example/dosewright/dosewright/FhirVersion;" .null := D89 (Or.inr (hw _ (wd 51 rfl))) (ty := (.object "com/example/dosewright/dosewright/FhirVersion")) (by decide)
  have F89_dateStyle : Fld Z h89 b89 "com/example/dosewright/dosewright/RenderOptions" "dateStyle" "Lcom/example/dosewright/dosewright/DateStyle;" .null := D89 (Or.inr (hw _ (wd 53 rfl))) (ty := (.object "com/example/dosewright/dosewright/DateStyle")) (by decide)
  have F89_lineKind : Fld Z h89 b89 "com/example/dosewright/dosewright/RenderOptions" "lineKind" "Lcom/example/dosewright/dosewright/LineKind;" .null := D89 (Or.inr (hw _ (wd 55 rfl))) (ty := (.object "com/example/dosewright/dosewright/LineKind")) (by decide)
  have k_96 : Go p.tables e below (s₁.setTop (entryFrame m #[(.ref a1), (.ref x9)] 2)) (T89.setTop (mkF m 6 #[rv a1, rv x9] [(.ref a1), (.ref x9), (.ref b89), (.ref b89)])) := fun t q => by
    refine k0 t ?_
    refine st89 _ ?_
    show Steps _ _ _ (T89.setTop (mkF m 3 #[rv a1, rv x9] [(.ref b89)])) _
    refine XS.dup X89.here hx rfl (hb hby d8_3) rfl rfl ?_
    show Steps _ _ _ (T89.setTop (mkF m 4 #[rv a1, rv x9] [(.ref b89), (.ref b89)])) _
    refine XS.aloadN X89.here hx rfl (hb hby d8_4) rfl rfl ?_
    show Steps _ _ _ (T89.setTop (mkF m 5 #[rv a1, rv x9] [(.ref x9), (.ref b89), (.ref b89)])) _
    refine XS.aloadN X89.here hx rfl (hb hby d8_5) rfl rfl ?_
    show Steps _ _ _ (T89.setTop (mkF m 6 #[rv a1, rv x9] [(.ref a1), (.ref x9), (.ref b89), (.ref b89)])) _
    exact q
  obtain ⟨T97, X97, e97, st97⟩ := getF X89 hx hZ hown (host := "") (Or.inl (hw _ (wd 52 rfl))) Via.refl e89 f_91 (g := (mkF m 6 #[rv a1, rv x9] [(.ref a1), (.ref x9), (.ref b89), (.ref b89)])) rfl rfl (hb hby d8_6)
  have k_98 : Go p.tables e below (s₁.setTop (entryFrame m #[(.ref a1), (.ref x9)] 2)) (T97.setTop (mkF m 10 #[rv a1, rv x9] [(.ref a1), (.ref x1), (.ref x9), (.ref b89), (.ref b89)])) := fun t q => by
    refine k_96 t ?_
    refine st97 _ ?_
    show Steps _ _ _ (T97.setTop (mkF m 9 #[rv a1, rv x9] [(.ref x1), (.ref x9), (.ref b89), (.ref b89)])) _
    refine XS.aloadN X97.here hx rfl (hb hby d8_9) rfl rfl ?_
    show Steps _ _ _ (T97.setTop (mkF m 10 #[rv a1, rv x9] [(.ref a1), (.ref x1), (.ref x9), (.ref b89), (.ref b89)])) _
    exact q
  obtain ⟨T99, X99, e99, st99⟩ := getF X97 hx hZ hown (host := "") (Or.inl (hw _ (wd 54 rfl))) Via.refl e97 f_92 (g := (mkF m 10 #[rv a1, rv x9] [(.ref a1), (.ref x1), (.ref x9), (.ref b89), (.ref b89)])) rfl rfl (hb hby d8_10)
  have k_100 : Go p.tables e below (s₁.setTop (entryFrame m #[(.ref a1), (.ref x9)] 2)) (T99.setTop (mkF m 13 #[rv a1, rv x9] [(.ref x2), (.ref x1), (.ref x9), (.ref b89), (.ref b89)])) := fun t q => by
    refine k_98 t ?_
    refine st99 _ ?_
    show Steps _ _ _ (T99.setTop (mkF m 13 #[rv a1, rv x9] [(.ref x2), (.ref x1), (.ref x9), (.ref b89), (.ref b89)])) _
    exact q
  obtain ⟨_, _, ⟨T101, L101, k101, n101⟩, -, X101, hs101, hg101, ⟨Lc101, hQ101, l101, y101, z101⟩, st101⟩ := X99.specialBackS hx (y := y_2) rfl hown (mvT hZ (hw _ (wd 62 rfl))) (mvT hZ (hw _ (wd 26 rfl))) (mvT hZ (hw _ (wd 27 rfl))) (by decide) (backOfS (W := 1) (init_r l Z a0 hw [] a_STU3 a_DMY a_DOSAGE a_R4 a_ISO a_MEDICATION a_DMMMY G b89 x9 x1 x2 h89 n0 O_93 A89 F89_fhirVersion F89_dateStyle F89_lineKind g_b89) hZ (hw _ (wd 27 rfl)) (hw _ (wd 24 rfl)) (by decide) (by decide)) (g := (mkF m 13 #[rv a1, rv x9] [(.ref x2), (.ref x1), (.ref x9), (.ref b89), (.ref b89)])) rfl (by rw [hml]; rfl) (Steps.refl _) (a := b89) (argsL := [(.ref x9), (.ref x1), (.ref x2)]) (rest := [(.ref b89)]) (lenOf pd_2 rfl) rfl (by show 2 * 0 + _ ≤ _; exact Nat.le_of_eq rfl) (hb hby d8_13) (fun _ _ => ⟨rfl, e99, (by decide : 1 + 6 ≤ _), (by decide : 3 + 124 ≤ _)⟩)
  dsimp only [Pt.U, Pt.locs, Pt.cells, Pt.slots] at X101 l101 y101 z101 st101 hQ101 hs101 hg101
  subst l101 y101 z101
  change Stand _ _ _ _ (s.setVm T101.vm) _ _ _ _ _ _ _ _ _ at X101
  have hS101 := foldS hS0 ((e99).symm ▸ hk_95) hs101 hg101
  have hZ101 : Z.Warmed39 (s.setVm T101.vm).vm := State.Warmed39.trans (t := s.setVm s.vm) hZ hs101.1
  have hown101 : (s.setVm T101.vm).vm.findClass "com/example/dosewright/dosewright/RenderOptions" = some m.cls := by rw [show (s.setVm T101.vm).vm = T101.vm from rfl, hs101.1.alike.findClass]; exact hown
  obtain ⟨rfl, N101q, K101, I101_0, I101_1, I101_2⟩ := hQ101
  have N101 := Fr.app N0 N101q
  have f_102 := Fld.keep f_90 K101 (ninS ne_a1_b89 nin0)
  have f_103 := Fld.keep f_91 K101 (ninS ne_a1_b89 nin0)
  have f_104 := Fld.keep f_92 K101 (ninS ne_a1_b89 nin0)
  have f_105 := Exa.keep A89 K101
  have O_109 := O_93.keep K101 (allS g_b89 all0)
  have K_110 := K_94.trans K101 (allS (Or.inr sz_b89) all0)
  have hk_111 := Nat.le_trans hk_95 K101.1
  have hk101 : T101.heap.size ≤ T101.heap.size := Nat.le_refl _
  have k_112 : Go p.tables e below (s₁.setTop (entryFrame m #[(.ref a1), (.ref x9)] 2)) (T101.setTop (mkF m 16 #[rv a1, rv x9] [(.ref b89)])) := fun t q => by
    refine k_100 t ?_
    refine st101.trans ?_
    show Steps _ _ _ (T101.setTop (mkF m 16 #[rv a1, rv x9] [(.ref b89)])) _
    exact q
  obtain ⟨fs, hr, hrun, hended, hEnd⟩ := X101.leaveW hS101 hk101 (v := some (.ref b89)) (fun h => by rw [Bd.returns] at h; cases h)
  refine ⟨_, _, k_112 _ ?_, hrun, hended, _, _, rfl, ?_, (⟨hEnd.1, hEnd.2.1, hEnd.2.2.1, hEnd.2.2.2.mono (by decide) (by decide)⟩ : ReturnedEndW _ _ _ _ _ _)⟩
  · exact retOut X101 hx Bd.returns rfl (Or.inr (Or.inr (Or.inr (Or.inr ⟨rfl, rfl, rfl⟩)))) (hb hby d8_16) hr
  · show QM_r Z x9 x1 x2 h0 n0 _ T101.heap _
    exact ⟨b89, rfl, N101, K_110, g_b89, sz_b89, f_105, I101_0, I101_1, I101_2⟩
set_option maxRecDepth 65536 in
set_option maxHeartbeats 40000000 in
theorem get_fhirVersion (l : Launch) (Z : State) (a0 : Array Value) (hw : ∀ d ∈ tables_1, d.before a0 Z = true) (ws : List Jvm.Cond) (a_STU3 a_DMY a_DOSAGE a_R4 a_ISO a_MEDICATION a_DMMMY : Addr) (G : Own Z a_STU3 a_DMY a_DOSAGE a_R4 a_ISO a_MEDICATION a_DMMMY) (a1 : Addr) (x1 : Addr) (h0 : Heap) (n0 : Nat) (O0 : Old Z n0 h0) (F0 : Fld Z h0 a1 "com/example/dosewright/dosewright/RenderOptions" "fhirVersion" "Lcom/example/dosewright/dosewright/FhirVersion;" (.ref x1)) :
    MetFree l y_7 (head1 (Jvm.Cond.code y_7 prog_24_method_8_code 1 (some (.object "com/example/dosewright/dosewright/FhirVersion")) :: ws) ({ frames := 0, cells := 0, slots := 0, locals := 0 } : Room)) (fun a U => a = #[(.ref a1)] ∧ Z.Warmed39 U.vm ∧ U.heap = h0) (fun _ _ _ _ _ => True) (fun _ U o U' => ∃ v L, o = .returned v ∧ QV (some (.ref x1)) h0 n0 v U'.heap L ∧ FrameEnd U o U' L ({ frames := 0, cells := 0, slots := 0, locals := 0 } : Room).cells ({ frames := 0, cells := 0, slots := 0, locals := 0 } : Room).slots) := by
  refine MetFree.of_bodySF (plainFor_of_name pn_2) hisR ?_
  intro p e s m args below meth c s₁ Bd hml0 hP hK
  obtain ⟨rfl, hZ, hh⟩ := hP
  have hx := Bd.exec
  have hby := Bd.bytes
  have hml : c.maxLocals = 1 := hml0
  have hown : s.vm.findClass "com/example/dosewright/dosewright/RenderOptions" = some m.cls := findClass_of_methodNamed Bd.named
  have hnm := (name_of_methodNamed Bd.named Bd.method).1
  have X0 : Stand p l e ({ frames := 0, cells := 0, slots := 0, locals := 0 } : Room) s m #[(.ref a1)] below meth c s₁ [] 0 0 := Stand.of_body Bd
  have e0 : s₁.heap = h0 := by rw [← hh, Bd.state]; rfl
  have N0 := Fr.nil n0
  have K0 := Keep.refl h0 []
  have k0 : Go p.tables e below (s₁.setTop (entryFrame m #[(.ref a1)] 1)) (s₁.setTop (mkF m 0 #[rv a1] [])) := fun t k => castTop (by first | rfl | (simp [entryFrame, mkF, argsToLocals, Value.category]; done)) k
  have ⟨S_STU3, E_STU3, S_DMY, E_DMY, S_DOSAGE, E_DOSAGE, S_R4, E_R4, S_ISO, E_ISO, S_MEDICATION, E_MEDICATION, S_DMMMY, E_DMMMY⟩ := G
  have k_113 : Go p.tables e below (s₁.setTop (entryFrame m #[(.ref a1)] 1)) (s₁.setTop (mkF m 1 #[rv a1] [(.ref a1)])) := fun t q => by
    refine k0 t ?_
    refine XS.aloadN X0.here hx rfl (hb hby d9_0) rfl rfl ?_
    show Steps _ _ _ (s₁.setTop (mkF m 1 #[rv a1] [(.ref a1)])) _
    exact q
  obtain ⟨T114, X114, e114, st114⟩ := getF X0 hx hZ hown (host := "") (Or.inl (hw _ (wd 50 rfl))) Via.refl e0 F0 (g := (mkF m 1 #[rv a1] [(.ref a1)])) rfl rfl (hb hby d9_1)
  have k_115 : Go p.tables e below (s₁.setTop (entryFrame m #[(.ref a1)] 1)) (T114.setTop (mkF m 4 #[rv a1] [(.ref x1)])) := fun t q => by
    refine k_113 t ?_
    refine st114 _ ?_
    show Steps _ _ _ (T114.setTop (mkF m 4 #[rv a1] [(.ref x1)])) _
    exact q
  obtain ⟨fs, hr, hrun, hended, hW, hsame⟩ := X114.leave (v := some (.ref x1)) (fun h => by rw [Bd.returns] at h; cases h)
  refine ⟨_, _, k_115 _ ?_, hrun, hended, _, _, rfl, ?_, ⟨_, rfl⟩, hW, hsame.mono (by decide) (by decide)⟩
  · exact retOut X114 hx Bd.returns rfl (Or.inr (Or.inr (Or.inr (Or.inr ⟨rfl, rfl, rfl⟩)))) (hb hby d9_4) hr
  · show QV (some (.ref x1)) h0 n0 _ T114.heap _
    rw [e114]
    exact ⟨rfl, N0, rfl⟩
set_option maxRecDepth 65536 in
set_option maxHeartbeats 40000000 in
theorem get_dateStyle (l : Launch) (Z : State) (a0 : Array Value) (hw : ∀ d ∈ tables_1, d.before a0 Z = true) (ws : List Jvm.Cond) (a_STU3 a_DMY a_DOSAGE a_R4 a_ISO a_MEDICATION a_DMMMY : Addr) (G : Own Z a_STU3 a_DMY a_DOSAGE a_R4 a_ISO a_MEDICATION a_DMMMY) (a1 : Addr) (x1 : Addr) (h0 : Heap) (n0 : Nat) (O0 : Old Z n0 h0) (F0 : Fld Z h0 a1 "com/example/dosewright/dosewright/RenderOptions" "dateStyle" "Lcom/example/dosewright/dosewright/DateStyle;" (.ref x1)) :
    MetFree l y_8 (head1 (Jvm.Cond.code y_8 prog_24_method_9_code 1 (some (.object "com/example/dosewright/dosewright/DateStyle")) :: ws) ({ frames := 0, cells := 0, slots := 0, locals := 0 } : Room)) (fun a U => a = #[(.ref a1)] ∧ Z.Warmed39 U.vm ∧ U.heap = h0) (fun _ _ _ _ _ => True) (fun _ U o U' => ∃ v L, o = .returned v ∧ QV (some (.ref x1)) h0 n0 v U'.heap L ∧ FrameEnd U o U' L ({ frames := 0, cells := 0, slots := 0, locals := 0 } : Room).cells ({ frames := 0, cells := 0, slots := 0, locals := 0 } : Room).slots) := by
  refine MetFree.of_bodySF (plainFor_of_name pn_2) hisR ?_
  intro p e s m args below meth c s₁ Bd hml0 hP hK
  obtain ⟨rfl, hZ, hh⟩ := hP
  have hx := Bd.exec
  have hby := Bd.bytes
  have hml : c.maxLocals = 1 := hml0
  have hown : s.vm.findClass "com/example/dosewright/dosewright/RenderOptions" = some m.cls := findClass_of_methodNamed Bd.named
  have hnm := (name_of_methodNamed Bd.named Bd.method).1
  have X0 : Stand p l e ({ frames := 0, cells := 0, slots := 0, locals := 0 } : Room) s m #[(.ref a1)] below meth c s₁ [] 0 0 := Stand.of_body Bd
  have e0 : s₁.heap = h0 := by rw [← hh, Bd.state]; rfl
  have N0 := Fr.nil n0
  have K0 := Keep.refl h0 []
  have k0 : Go p.tables e below (s₁.setTop (entryFrame m #[(.ref a1)] 1)) (s₁.setTop (mkF m 0 #[rv a1] [])) := fun t k => castTop (by first | rfl | (simp [entryFrame, mkF, argsToLocals, Value.category]; done)) k
  have ⟨S_STU3, E_STU3, S_DMY, E_DMY, S_DOSAGE, E_DOSAGE, S_R4, E_R4, S_ISO, E_ISO, S_MEDICATION, E_MEDICATION, S_DMMMY, E_DMMMY⟩ := G
  have k_116 : Go p.tables e below (s₁.setTop (entryFrame m #[(.ref a1)] 1)) (s₁.setTop (mkF m 1 #[rv a1] [(.ref a1)])) := fun t q => by
    refine k0 t ?_
    refine XS.aloadN X0.here hx rfl (hb hby d10_0) rfl rfl ?_
    show Steps _ _ _ (s₁.setTop (mkF m 1 #[rv a1] [(.ref a1)])) _
    exact q
  obtain ⟨T117, X117, e117, st117⟩ := getF X0 hx hZ hown (host := "") (Or.inl (hw _ (wd 52 rfl))) Via.refl e0 F0 (g := (mkF m 1 #[rv a1] [(.ref a1)])) rfl rfl (hb hby d10_1)
  have k_118 : Go p.tables e below (s₁.setTop (entryFrame m #[(.ref a1)] 1)) (T117.setTop (mkF m 4 #[rv a1] [(.ref x1)])) := fun t q => by
    refine k_116 t ?_
    refine st117 _ ?_
    show Steps _ _ _ (T117.setTop (mkF m 4 #[rv a1] [(.ref x1)])) _
    exact q
  obtain ⟨fs, hr, hrun, hended, hW, hsame⟩ := X117.leave (v := some (.ref x1)) (fun h => by rw [Bd.returns] at h; cases h)
  refine ⟨_, _, k_118 _ ?_, hrun, hended, _, _, rfl, ?_, ⟨_, rfl⟩, hW, hsame.mono (by decide) (by decide)⟩
  · exact retOut X117 hx Bd.returns rfl (Or.inr (Or.inr (Or.inr (Or.inr ⟨rfl, rfl, rfl⟩)))) (hb hby d10_4) hr
  · show QV (some (.ref x1)) h0 n0 _ T117.heap _
    rw [e117]
    exact ⟨rfl, N0, rfl⟩
set_option maxRecDepth 65536 in
set_option maxHeartbeats 40000000 in
theorem get_lineKind (l : Launch) (Z : State) (a0 : Array Value) (hw : ∀ d ∈ tables_1, d.before a0 Z = true) (ws : List Jvm.Cond) (a_STU3 a_DMY a_DOSAGE a_R4 a_ISO a_MEDICATION a_DMMMY : Addr) (G : Own Z a_STU3 a_DMY a_DOSAGE a_R4 a_ISO a_MEDICATION a_DMMMY) (a1 : Addr) (x1 : Addr) (h0 : Heap) (n0 : Nat) (O0 : Old Z n0 h0) (F0 : Fld Z h0 a1 "com/example/dosewright/dosewright/RenderOptions" "lineKind" "Lcom/example/dosewright/dosewright/LineKind;" (.ref x1)) :
    MetFree l y_9 (head1 (Jvm.Cond.code y_9 prog_24_method_10_code 1 (some (.object "com/example/dosewright/dosewright/LineKind")) :: ws) ({ frames := 0, cells := 0, slots := 0, locals := 0 } : Room)) (fun a U => a = #[(.ref a1)] ∧ Z.Warmed39 U.vm ∧ U.heap = h0) (fun _ _ _ _ _ => True) (fun _ U o U' => ∃ v L, o = .returned v ∧ QV (some (.ref x1)) h0 n0 v U'.heap L ∧ FrameEnd U o U' L ({ frames := 0, cells := 0, slots := 0, locals := 0 } : Room).cells ({ frames := 0, cells := 0, slots := 0, locals := 0 } : Room).slots) := by
  refine MetFree.of_bodySF (plainFor_of_name pn_2) hisR ?_
  intro p e s m args below meth c s₁ Bd hml0 hP hK
  obtain ⟨rfl, hZ, hh⟩ := hP
  have hx := Bd.exec
  have hby := Bd.bytes
  have hml : c.maxLocals = 1 := hml0
  have hown : s.vm.findClass "com/example/dosewright/dosewright/RenderOptions" = some m.cls := findClass_of_methodNamed Bd.named
  have hnm := (name_of_methodNamed Bd.named Bd.method).1
  have X0 : Stand p l e ({ frames := 0, cells := 0, slots := 0, locals := 0 } : Room) s m #[(.ref a1)] below meth c s₁ [] 0 0 := Stand.of_body Bd
  have e0 : s₁.heap = h0 := by rw [← hh, Bd.state]; rfl
  have N0 := Fr.nil n0
  have K0 := Keep.refl h0 []
  have k0 : Go p.tables e below (s₁.setTop (entryFrame m #[(.ref a1)] 1)) (s₁.setTop (mkF m 0 #[rv a1] [])) := fun t k => castTop (by first | rfl | (simp [entryFrame, mkF, argsToLocals, Value.category]; done)) k
  have ⟨S_STU3, E_STU3, S_DMY, E_DMY, S_DOSAGE, E_DOSAGE, S_R4, E_R4, S_ISO, E_ISO, S_MEDICATION, E_MEDICATION, S_DMMMY, E_DMMMY⟩ := G
  have k_119 : Go p.tables e below (s₁.setTop (entryFrame m #[(.ref a1)] 1)) (s₁.setTop (mkF m 1 #[rv a1] [(.ref a1)])) := fun t q => by
    refine k0 t ?_
    refine XS.aloadN X0.here hx rfl (hb hby d11_0) rfl rfl ?_
    show Steps _ _ _ (s₁.setTop (mkF m 1 #[rv a1] [(.ref a1)])) _
    exact q
  obtain ⟨T120, X120, e120, st120⟩ := getF X0 hx hZ hown (host := "") (Or.inl (hw _ (wd 54 rfl))) Via.refl e0 F0 (g := (mkF m 1 #[rv a1] [(.ref a1)])) rfl rfl (hb hby d11_1)
  have k_121 : Go p.tables e below (s₁.setTop (entryFrame m #[(.ref a1)] 1)) (T120.setTop (mkF m 4 #[rv a1] [(.ref x1)])) := fun t q => by
    refine k_119 t ?_
    refine st120 _ ?_
    show Steps _ _ _ (T120.setTop (mkF m 4 #[rv a1] [(.ref x1)])) _
    exact q
  obtain ⟨fs, hr, hrun, hended, hW, hsame⟩ := X120.leave (v := some (.ref x1)) (fun h => by rw [Bd.returns] at h; cases h)
  refine ⟨_, _, k_121 _ ?_, hrun, hended, _, _, rfl, ?_, ⟨_, rfl⟩, hW, hsame.mono (by decide) (by decide)⟩
  · exact retOut X120 hx Bd.returns rfl (Or.inr (Or.inr (Or.inr (Or.inr ⟨rfl, rfl, rfl⟩)))) (hb hby d11_4) hr
  · show QV (some (.ref x1)) h0 n0 _ T120.heap _
    rw [e120]
    exact ⟨rfl, N0, rfl⟩
set_option maxRecDepth 65536 in
set_option maxHeartbeats 40000000 in
theorem rm0 (l : Launch) (Z : State) (a0 : Array Value) (hw : ∀ d ∈ tables_1, d.before a0 Z = true) (ws : List Jvm.Cond) (a_STU3 a_DMY a_DOSAGE a_R4 a_ISO a_MEDICATION a_DMMMY : Addr) (G : Own Z a_STU3 a_DMY a_DOSAGE a_R4 a_ISO a_MEDICATION a_DMMMY) (q1 q2 q3 q4 : Int32) (h0 : Heap) (n0 : Nat) (O0 : Old Z n0 h0)  :
    MetFree l x (head1 (Jvm.Cond.code x code maxLocals ret :: ws) room_1) (fun a U => a = #[(.int q1), (.int q2), (.int q3), (.int q4)] ∧ Z.Warmed39 U.vm ∧ U.heap = h0) (fun _ _ _ _ _ => True) (fun _ U o U' => ∃ v L, o = .returned v ∧ Q0 n0 v U'.heap L ∧ ReturnedEndW U o U' L room_1.cells room_1.slots) := by
  refine MetFree.of_bodySF (plainFor_of_name pn_3) hisR ?_
  intro p e s m args below meth c s₁ Bd hml0 hP hK
  obtain ⟨rfl, hZ, hh⟩ := hP
  have hx := Bd.exec
  have hby := Bd.bytes
  have hml : c.maxLocals = 12 := hml0
  have hown : s.vm.findClass "com/example/dosewright/dosewright/RenderOptionsWithFhirVersionPinLaw" = some m.cls := findClass_of_methodNamed Bd.named
  have hnm := (name_of_methodNamed Bd.named Bd.method).1
  have X0 : Stand p l e room_1 (s.setVm s.vm) m #[(.int q1), (.int q2), (.int q3), (.int q4)] below meth c s₁ [] 0 0 := Stand.of_body Bd
  have e0 : s₁.heap = h0 := by rw [← hh, Bd.state]; rfl
  have N0 := Fr.nil n0
  have K0 := Keep.refl h0 []
  have k0 : Go p.tables e below (s₁.setTop (entryFrame m #[(.int q1), (.int q2), (.int q3), (.int q4)] maxLocals)) (s₁.setTop (mkF m 0 #[iv q1, iv q2, iv q3, iv q4, .unset, .unset, .unset, .unset, .unset, .unset, .unset, .unset] [])) := fun t k => castTop (by first | rfl | (simp [entryFrame, mkF, argsToLocals, Value.category, maxLocals]; done)) k
  have hS0 : s.Since s.vm h0.size := (State.WarmedH.refl s).since _
  have hk0 : h0.size ≤ h0.size := Nat.le_refl _
  have ⟨S_STU3, E_STU3, S_DMY, E_DMY, S_DOSAGE, E_DOSAGE, S_R4, E_R4, S_ISO, E_ISO, S_MEDICATION, E_MEDICATION, S_DMMMY, E_DMMMY⟩ := G
  have k_122 : Go p.tables e below (s₁.setTop (entryFrame m #[(.int q1), (.int q2), (.int q3), (.int q4)] maxLocals)) (s₁.setTop (mkF m 1 #[iv q1, iv q2, iv q3, iv q4, .unset, .unset, .unset, .unset, .unset, .unset, .unset, .unset] [(.int q1)])) := fun t q => by
    refine k0 t ?_
    refine XS.iloadN X0.here hx rfl (hb hby at_0) rfl ?_
    show Steps _ _ _ (s₁.setTop (mkF m 1 #[iv q1, iv q2, iv q3, iv q4, .unset, .unset, .unset, .unset, .unset, .unset, .unset, .unset] [(.int q1)])) _
    exact q
  obtain ⟨_, _, ⟨T123, L123, k123, n123⟩, -, X123, ⟨Lc123, hQ123, l123, y123, z123⟩, st123⟩ := Jvm.LawKit.callS X0 hx (y := y_3) hown (mvT hZ (hw _ (wd 0 rfl))) (mvT hZ (hw _ (wd 1 rfl))) (mvT hZ (hw _ (wd 2 rfl))) (mvT hZ (hw _ (wd 3 rfl))) (by decide) (backOf (W := 0) (ve l Z a0 hw [] a_STU3 a_DMY a_DOSAGE a_R4 a_ISO a_MEDICATION a_DMMMY G q1 h0 n0 O0) hZ (hw _ (wd 3 rfl)) (hw _ (wd 2 rfl)) (by decide) (by decide)) (g := (mkF m 1 #[iv q1, iv q2, iv q3, iv q4, .unset, .unset, .unset, .unset, .unset, .unset, .unset, .unset] [(.int q1)])) rfl (by rw [hml]; rfl) (argsL := [(.int q1)]) (rest := []) (lenOf pd_3 rfl) rfl (by show 2 * 0 + _ ≤ _; exact Nat.le_of_eq rfl) (hb hby at_1) (fun _ _ => ⟨rfl, e0, (by decide : 0 + 0 ≤ _), (by decide : 0 + 0 ≤ _)⟩)
  dsimp only [Pt.U, Pt.locs, Pt.cells, Pt.slots] at X123 l123 y123 z123 st123 hQ123
  subst l123 y123 z123
  obtain ⟨v123, rfl, N123q, e123⟩ := hQ123
  have N123 := Fr.app N0 N123q
  have k_124 : Go p.tables e below (s₁.setTop (entryFrame m #[(.int q1), (.int q2), (.int q3), (.int q4)] maxLocals)) (T123.setTop (mkF m 7 #[iv q1, iv q2, iv q3, iv q4, rv v123, .unset, .unset, .unset, .unset, .unset, .unset, .unset] [(.int q2)])) := fun t q => by
    refine k_122 t ?_
    refine st123 _ ?_
    show Steps _ _ _ (T123.setTop (mkF m 4 #[iv q1, iv q2, iv q3, iv q4, .unset, .unset, .unset, .unset, .unset, .unset, .unset, .unset] [(.ref v123)])) _
    refine XS.astore X123.here hx rfl (hb hby at_4) rfl rfl (l' := #[iv q1, iv q2, iv q3, iv q4, rv v123, .unset, .unset, .unset, .unset, .unset, .unset, .unset]) rfl ?_
    show Steps _ _ _ (T123.setTop (mkF m 6 #[iv q1, iv q2, iv q3, iv q4, rv v123, .unset, .unset, .unset, .unset, .unset, .unset, .unset] [])) _
    refine XS.iloadN X123.here hx rfl (hb hby at_6) rfl ?_
    show Steps _ _ _ (T123.setTop (mkF m 7 #[iv q1, iv q2, iv q3, iv q4, rv v123, .unset, .unset, .unset, .unset, .unset, .unset, .unset] [(.int q2)])) _
    exact q
  obtain ⟨_, _, ⟨T125, L125, k125, n125⟩, -, X125, ⟨Lc125, hQ125, l125, y125, z125⟩, st125⟩ := Jvm.LawKit.callS X123 hx (y := y_4) hown (mvT hZ (hw _ (wd 7 rfl))) (mvT hZ (hw _ (wd 8 rfl))) (mvT hZ (hw _ (wd 2 rfl))) (mvT hZ (hw _ (wd 9 rfl))) (by decide) (backOf (W := 0) (sy l Z a0 hw [] a_STU3 a_DMY a_DOSAGE a_R4 a_ISO a_MEDICATION a_DMMMY G q2 h0 n0 O0) hZ (hw _ (wd 9 rfl)) (hw _ (wd 2 rfl)) (by decide) (by decide)) (g := (mkF m 7 #[iv q1, iv q2, iv q3, iv q4, rv v123, .unset, .unset, .unset, .unset, .unset, .unset, .unset] [(.int q2)])) rfl (by rw [hml]; rfl) (argsL := [(.int q2)]) (rest := []) (lenOf pd_4 rfl) rfl (by show 2 * 0 + _ ≤ _; exact Nat.le_of_eq rfl) (hb hby at_7) (fun _ _ => ⟨rfl, e123, (by decide : 0 + 0 ≤ _), (by decide : 0 + 0 ≤ _)⟩)
  dsimp only [Pt.U, Pt.locs, Pt.cells, Pt.slots] at X125 l125 y125 z125 st125 hQ125
  subst l125 y125 z125
  obtain ⟨v125, rfl, N125q, e125⟩ := hQ125
  have N125 := Fr.app N123 N125q
  have k_126 : Go p.tables e below (s₁.setTop (entryFrame m #[(.int q1), (.int q2), (.int q3), (.int q4)] maxLocals)) (T125.setTop (mkF m 13 #[iv q1, iv q2, iv q3, iv q4, rv v123, rv v125, .unset, .unset, .unset, .unset, .unset, .unset] [(.int q3)])) := fun t q => by
    refine k_124 t ?_
    refine st125 _ ?_
    show Steps _ _ _ (T125.setTop (mkF m 10 #[iv q1, iv q2, iv q3, iv q4, rv v123, .unset, .unset, .unset, .unset, .unset, .unset, .unset] [(.ref v125)])) _
    refine XS.astore X125.here hx rfl (hb hby at_10) rfl rfl (l' := #[iv q1, iv q2, iv q3, iv q4, rv v123, rv v125, .unset, .unset, .unset, .unset, .unset, .unset]) rfl ?_
    show Steps _ _ _ (T125.setTop (mkF m 12 #[iv q1, iv q2, iv q3, iv q4, rv v123, rv v125, .unset, .unset, .unset, .unset, .unset, .unset] [])) _
    refine XS.iloadN X125.here hx rfl (hb hby at_12) rfl ?_
    show Steps _ _ _ (T125.setTop (mkF m 13 #[iv q1, iv q2, iv q3, iv q4, rv v123, rv v125, .unset, .unset, .unset, .unset, .unset, .unset] [(.int q3)])) _
    exact q
  obtain ⟨_, _, ⟨T127, L127, k127, n127⟩, -, X127, ⟨Lc127, hQ127, l127, y127, z127⟩, st127⟩ := Jvm.LawKit.callS X125 hx (y := y_5) hown (mvT hZ (hw _ (wd 14 rfl))) (mvT hZ (hw _ (wd 15 rfl))) (mvT hZ (hw _ (wd 2 rfl))) (mvT hZ (hw _ (wd 16 rfl))) (by decide) (backOf (W := 0) (kd l Z a0 hw [] a_STU3 a_DMY a_DOSAGE a_R4 a_ISO a_MEDICATION a_DMMMY G q3 h0 n0 O0) hZ (hw _ (wd 16 rfl)) (hw _ (wd 2 rfl)) (by decide) (by decide)) (g := (mkF m 13 #[iv q1, iv q2, iv q3, iv q4, rv v123, rv v125, .unset, .unset, .unset, .unset, .unset, .unset] [(.int q3)])) rfl (by rw [hml]; rfl) (argsL := [(.int q3)]) (rest := []) (lenOf pd_5 rfl) rfl (by show 2 * 0 + _ ≤ _; exact Nat.le_of_eq rfl) (hb hby at_13) (fun _ _ => ⟨rfl, e125, (by decide : 0 + 0 ≤ _), (by decide : 0 + 0 ≤ _)⟩)
  dsimp only [Pt.U, Pt.locs, Pt.cells, Pt.slots] at X127 l127 y127 z127 st127 hQ127
  subst l127 y127 z127
  obtain ⟨v127, rfl, N127q, e127⟩ := hQ127
  have N127 := Fr.app N125 N127q
  have k_128 : Go p.tables e below (s₁.setTop (entryFrame m #[(.int q1), (.int q2), (.int q3), (.int q4)] maxLocals)) (T127.setTop (mkF m 19 #[iv q1, iv q2, iv q3, iv q4, rv v123, rv v125, rv v127, .unset, .unset, .unset, .unset, .unset] [(.int q4)])) := fun t q => by
    refine k_126 t ?_
    refine st127 _ ?_
    show Steps _ _ _ (T127.setTop (mkF m 16 #[iv q1, iv q2, iv q3, iv q4, rv v123, rv v125, .unset, .unset, .unset, .unset, .unset, .unset] [(.ref v127)])) _
    refine XS.astore X127.here hx rfl (hb hby at_16) rfl rfl (l' := #[iv q1, iv q2, iv q3, iv q4, rv v123, rv v125, rv v127, .unset, .unset, .unset, .unset, .unset]) rfl ?_
    show Steps _ _ _ (T127.setTop (mkF m 18 #[iv q1, iv q2, iv q3, iv q4, rv v123, rv v125, rv v127, .unset, .unset, .unset, .unset, .unset] [])) _
    refine XS.iloadN X127.here hx rfl (hb hby at_18) rfl ?_
    show Steps _ _ _ (T127.setTop (mkF m 19 #[iv q1, iv q2, iv q3, iv q4, rv v123, rv v125, rv v127, .unset, .unset, .unset, .unset, .unset] [(.int q4)])) _
    exact q
  obtain ⟨_, _, ⟨T129, L129, k129, n129⟩, -, X129, ⟨Lc129, hQ129, l129, y129, z129⟩, st129⟩ := Jvm.LawKit.callS X127 hx (y := y_3) hown (mvT hZ (hw _ (wd 0 rfl))) (mvT hZ (hw _ (wd 1 rfl))) (mvT hZ (hw _ (wd 2 rfl))) (mvT hZ (hw _ (wd 3 rfl))) (by decide) (backOf (W := 0) (ve l Z a0 hw [] a_STU3 a_DMY a_DOSAGE a_R4 a_ISO a_MEDICATION a_DMMMY G q4 h0 n0 O0) hZ (hw _ (wd 3 rfl)) (hw _ (wd 2 rfl)) (by decide) (by decide)) (g := (mkF m 19 #[iv q1, iv q2, iv q3, iv q4, rv v123, rv v125, rv v127, .unset, .unset, .unset, .unset, .unset] [(.int q4)])) rfl (by rw [hml]; rfl) (argsL := [(.int q4)]) (rest := []) (lenOf pd_3 rfl) rfl (by show 2 * 0 + _ ≤ _; exact Nat.le_of_eq rfl) (hb hby at_19) (fun _ _ => ⟨rfl, e127, (by decide : 0 + 0 ≤ _), (by decide : 0 + 0 ≤ _)⟩)
  dsimp only [Pt.U, Pt.locs, Pt.cells, Pt.slots] at X129 l129 y129 z129 st129 hQ129
  subst l129 y129 z129
  obtain ⟨v129, rfl, N129q, e129⟩ := hQ129
  have N129 := Fr.app N127 N129q
  have k_130 : Go p.tables e below (s₁.setTop (entryFrame m #[(.int q1), (.int q2), (.int q3), (.int q4)] maxLocals)) (T129.setTop (mkF m 24 #[iv q1, iv q2, iv q3, iv q4, rv v123, rv v125, rv v127, rv v129, .unset, .unset, .unset, .unset] [])) := fun t q => by
    refine k_128 t ?_
    refine st129 _ ?_
    show Steps _ _ _ (T129.setTop (mkF m 22 #[iv q1, iv q2, iv q3, iv q4, rv v123, rv v125, rv v127, .unset, .unset, .unset, .unset, .unset] [(.ref v129)])) _
    refine XS.astore X129.here hx rfl (hb hby at_22) rfl rfl (l' := #[iv q1, iv q2, iv q3, iv q4, rv v123, rv v125, rv v127, rv v129, .unset, .unset, .unset, .unset]) rfl ?_
    show Steps _ _ _ (T129.setTop (mkF m 24 #[iv q1, iv q2, iv q3, iv q4, rv v123, rv v125, rv v127, rv v129, .unset, .unset, .unset, .unset] [])) _
    exact q
  obtain ⟨T131, h131, X131, e131, E131, A131, D131, -, st131⟩ := newO X129 hx hZ hown (hw _ (wd 22 rfl)) (hw _ (wd 23 rfl)) (hw _ (wd 24 rfl)) e129 (g := (mkF m 24 #[iv q1, iv q2, iv q3, iv q4, rv v123, rv v125, rv v127, rv v129, .unset, .unset, .unset, .unset] [])) rfl (hb hby at_24) (by decide) (by decide)
  obtain ⟨b131, g131⟩ : ∃ z, z = h0.size := ⟨_, rfl⟩
  rw [← g131] at A131 D131 st131
  have g_b131 : n0 ≤ b131 := Nat.le_trans (own_old_le O0) (Nat.le_of_eq g131.symm)
  have sz_b131 : h0.size ≤ b131 := Nat.le_trans K0.1 (Nat.le_of_eq g131.symm)
  have O_132 := O0.ext E131
  have K_133 := K0.ext E131
  have hk_134 := Nat.le_trans hk0 E131.1
  have F131_fhirVersion : Fld Z h131 b131 "com/example/dosewright/dosewright/RenderOptions" "fhirVersion" "Lcom/example/dosewright/dosewright/FhirVersion;" .null := D131 (Or.inr (hw _ (wd 51 rfl))) (ty := (.object "com/example/dosewright/dosewright/FhirVersion")) (by decide)
  have F131_dateStyle : Fld Z h131 b131 "com/example/dosewright/dosewright/RenderOptions" "dateStyle" "Lcom/example/dosewright/dosewright/DateStyle;" .null := D131 (Or.inr (hw _ (wd 53 rfl))) (ty := (.object "com/example/dosewright/dosewright/DateStyle")) (by decide)
  have F131_lineKind : Fld Z h131 b131 "com/example/dosewright/dosewright/RenderOptions" "lineKind" "Lcom/example/dosewright/dosewright/LineKind;" .null := D131 (Or.inr (hw _ (wd 55 rfl))) (ty := (.object "com/example/dosewright/dosewright/LineKind")) (by decide)
  have k_135 : Go p.tables e below (s₁.setTop (entryFrame m #[(.int q1), (.int q2), (.int q3), (.int q4)] maxLocals)) (T131.setTop (mkF m 34 #[iv q1, iv q2, iv q3, iv q4, rv v123, rv v125, rv v127, rv v129, .unset, .unset, .unset, .unset] [(.ref v127), (.ref v125), (.ref v123), (.ref b131), (.ref b131)])) := fun t q => by
    refine k_130 t ?_
    refine st131 _ ?_
    show Steps _ _ _ (T131.setTop (mkF m 27 #[iv q1, iv q2, iv q3, iv q4, rv v123, rv v125, rv v127, rv v129, .unset, .unset, .unset, .unset] [(.ref b131)])) _
    refine XS.dup X131.here hx rfl (hb hby at_27) rfl rfl ?_
    show Steps _ _ _ (T131.setTop (mkF m 28 #[iv q1, iv q2, iv q3, iv q4, rv v123, rv v125, rv v127, rv v129, .unset, .unset, .unset, .unset] [(.ref b131), (.ref b131)])) _
    refine XS.aload X131.here hx rfl (hb hby at_28) rfl rfl ?_
    show Steps _ _ _ (T131.setTop (mkF m 30 #[iv q1, iv q2, iv q3, iv q4, rv v123, rv v125, rv v127, rv v129, .unset, .unset, .unset, .unset] [(.ref v123), (.ref b131), (.ref b131)])) _
    refine XS.aload X131.here hx rfl (hb hby at_30) rfl rfl ?_
    show Steps _ _ _ (T131.setTop (mkF m 32 #[iv q1, iv q2, iv q3, iv q4, rv v123, rv v125, rv v127, rv v129, .unset, .unset, .unset, .unset] [(.ref v125), (.ref v123), (.ref b131), (.ref b131)])) _
    refine XS.aload X131.here hx rfl (hb hby at_32) rfl rfl ?_
    show Steps _ _ _ (T131.setTop (mkF m 34 #[iv q1, iv q2, iv q3, iv q4, rv v123, rv v125, rv v127, rv v129, .unset, .unset, .unset, .unset] [(.ref v127), (.ref v125), (.ref v123), (.ref b131), (.ref b131)])) _
    exact q
  obtain ⟨_, _, ⟨T136, L136, k136, n136⟩, -, X136, hs136, hg136, ⟨Lc136, hQ136, l136, y136, z136⟩, st136⟩ := X131.specialBackS hx (y := y_2) rfl hown (mvT hZ (hw _ (wd 25 rfl))) (mvT hZ (hw _ (wd 26 rfl))) (mvT hZ (hw _ (wd 27 rfl))) (by decide) (backOfS (W := 1) (init_r l Z a0 hw [] a_STU3 a_DMY a_DOSAGE a_R4 a_ISO a_MEDICATION a_DMMMY G b131 v123 v125 v127 h131 n0 O_132 A131 F131_fhirVersion F131_dateStyle F131_lineKind g_b131) hZ (hw _ (wd 27 rfl)) (hw _ (wd 24 rfl)) (by decide) (by decide)) (g := (mkF m 34 #[iv q1, iv q2, iv q3, iv q4, rv v123, rv v125, rv v127, rv v129, .unset, .unset, .unset, .unset] [(.ref v127), (.ref v125), (.ref v123), (.ref b131), (.ref b131)])) rfl (by rw [hml]; rfl) (Steps.refl _) (a := b131) (argsL := [(.ref v123), (.ref v125), (.ref v127)]) (rest := [(.ref b131)]) (lenOf pd_2 rfl) rfl (by show 2 * 0 + _ ≤ _; exact Nat.le_of_eq rfl) (hb hby at_34) (fun _ _ => ⟨rfl, e131, (by decide : 1 + 6 ≤ _), (by decide : 3 + 124 ≤ _)⟩)
  dsimp only [Pt.U, Pt.locs, Pt.cells, Pt.slots] at X136 l136 y136 z136 st136 hQ136 hs136 hg136
  subst l136 y136 z136
  change Stand _ _ _ _ (s.setVm T136.vm) _ _ _ _ _ _ _ _ _ at X136
  have hS136 := foldS hS0 ((e131).symm ▸ hk_134) hs136 hg136
  have hZ136 : Z.Warmed39 (s.setVm T136.vm).vm := State.Warmed39.trans (t := s.setVm s.vm) hZ hs136.1
  have hown136 : (s.setVm T136.vm).vm.findClass "com/example/dosewright/dosewright/RenderOptionsWithFhirVersionPinLaw" = some m.cls := by rw [show (s.setVm T136.vm).vm = T136.vm from rfl, hs136.1.alike.findClass]; exact hown
  obtain ⟨rfl, N136q, K136, I136_0, I136_1, I136_2⟩ := hQ136
  have N136 := Fr.app N129 N136q
  have f_137 := Exa.keep A131 K136
  have O_141 := O_132.keep K136 (allS g_b131 all0)
  have K_142 := K_133.trans K136 (allS (Or.inr sz_b131) all0)
  have hk_143 := Nat.le_trans hk_134 K136.1
  have hk136 : T136.heap.size ≤ T136.heap.size := Nat.le_refl _
  have k_144 : Go p.tables e below (s₁.setTop (entryFrame m #[(.int q1), (.int q2), (.int q3), (.int q4)] maxLocals)) (T136.setTop (mkF m 43 #[iv q1, iv q2, iv q3, iv q4, rv v123, rv v125, rv v127, rv v129, rv b131, .unset, .unset, .unset] [(.ref v129), (.ref b131)])) := fun t q => by
    refine k_135 t ?_
    refine st136.trans ?_
    show Steps _ _ _ (T136.setTop (mkF m 37 #[iv q1, iv q2, iv q3, iv q4, rv v123, rv v125, rv v127, rv v129, .unset, .unset, .unset, .unset] [(.ref b131)])) _
    refine XS.astore X136.here hx rfl (hb hby at_37) rfl rfl (l' := #[iv q1, iv q2, iv q3, iv q4, rv v123, rv v125, rv v127, rv v129, rv b131, .unset, .unset, .unset]) rfl ?_
    show Steps _ _ _ (T136.setTop (mkF m 39 #[iv q1, iv q2, iv q3, iv q4, rv v123, rv v125, rv v127, rv v129, rv b131, .unset, .unset, .unset] [])) _
    refine XS.aload X136.here hx rfl (hb hby at_39) rfl rfl ?_
    show Steps _ _ _ (T136.setTop (mkF m 41 #[iv q1, iv q2, iv q3, iv q4, rv v123, rv v125, rv v127, rv v129, rv b131, .unset, .unset, .unset] [(.ref b131)])) _
    refine XS.aload X136.here hx rfl (hb hby at_41) rfl rfl ?_
    show Steps _ _ _ (T136.setTop (mkF m 43 #[iv q1, iv q2, iv q3, iv q4, rv v123, rv v125, rv v127, rv v129, rv b131, .unset, .unset, .unset] [(.ref v129), (.ref b131)])) _
    exact q
  obtain ⟨cq145, kq145, q145a, q145b, q145c⟩ := isOf hZ136 (rfl : T136.heap = _) f_137
  obtain ⟨_, _, ⟨T145, L145, k145, n145⟩, -, X145, hs145, hg145, ⟨Lc145, hQ145, l145, y145, z145⟩, st145⟩ := X136.virtualBackS hx (y := y_6) (z := y_6) hown136 (mvT hZ136 (hw _ (wd 56 rfl))) (mvT hZ136 (hw _ (wd 57 rfl))) (notFace_of_selects (args := #[]) (mvT hZ136 (hw _ (wd 59 rfl)))) (mvT hZ136 (hw _ (wd 59 rfl))) (mvT hZ136 (hw _ (wd 58 rfl))) (by decide) (backOfS (W := 0) (wth l Z a0 hw [] a_STU3 a_DMY a_DOSAGE a_R4 a_ISO a_MEDICATION a_DMMMY G b131 v123 v125 v127 v129 T136.heap n0 O_141 I136_0 I136_1 I136_2) hZ136 (hw _ (wd 60 rfl)) (hw _ (wd 24 rfl)) (by decide) (by decide)) q145a q145c (g := (mkF m 43 #[iv q1, iv q2, iv q3, iv q4, rv v123, rv v125, rv v127, rv v129, rv b131, .unset, .unset, .unset] [(.ref v129), (.ref b131)])) rfl (by rw [hml]; rfl) (Steps.refl _) (argsL := [(.ref v129)]) (rest := []) (lenOf pd_6 rfl) rfl (by show 2 * 0 + _ ≤ _; exact Nat.le_of_eq rfl) (hb hby at_43) (fun _ _ => ⟨rfl, (rfl : T136.heap = _), (by decide : 7 + 7 ≤ _), (by decide : 127 + 127 ≤ _)⟩)
  dsimp only [Pt.U, Pt.locs, Pt.cells, Pt.slots] at X145 l145 y145 z145 st145 hQ145 hs145 hg145
  subst l145 y145 z145
  change Stand _ _ _ _ (s.setVm T145.vm) _ _ _ _ _ _ _ _ _ at X145
  have hS145 := foldS hS136 hk136 hs145 hg145
  have hZ145 : Z.Warmed39 (s.setVm T145.vm).vm := State.Warmed39.trans (t := s.setVm T136.vm) hZ136 hs145.1
  have hown145 : (s.setVm T145.vm).vm.findClass "com/example/dosewright/dosewright/RenderOptionsWithFhirVersionPinLaw" = some m.cls := by rw [show (s.setVm T145.vm).vm = T145.vm from rfl, hs145.1.alike.findClass]; exact hown136
  obtain ⟨b145, rfl, N145q, K145, g145, sz145, M145, I145_0, I145_1, I145_2⟩ := hQ145
  have N145 := Fr.app N136 N145q
  have f_146 := Exa.keep f_137 K145
  have f_147 := Fld.keep I136_0 K145 nin0
  have f_148 := Fld.keep I136_1 K145 nin0
  have f_149 := Fld.keep I136_2 K145 nin0
  have O_150 := O_141.keep K145 all0
  have K_151 := K_142.trans K145 all0
  have hk_152 := Nat.le_trans hk136 K145.1
  have hk145 : T145.heap.size ≤ T145.heap.size := Nat.le_refl _
  have sz_b145 : h0.size ≤ b145 := Nat.le_trans K_142.1 sz145
  have ne_b131_b145 : b131 ≠ b145 := Nat.ne_of_lt (Nat.lt_of_lt_of_le f_137.lt sz145)
  have k_153 : Go p.tables e below (s₁.setTop (entryFrame m #[(.int q1), (.int q2), (.int q3), (.int q4)] maxLocals)) (T145.setTop (mkF m 57 #[iv q1, iv q2, iv q3, iv q4, rv v123, rv v125, rv v127, rv v129, rv b131, rv b145, .unset, .unset] [(.ref b145)])) := fun t q => by
    refine k_144 t ?_
    refine st145.trans ?_
    show Steps _ _ _ (T145.setTop (mkF m 46 #[iv q1, iv q2, iv q3, iv q4, rv v123, rv v125, rv v127, rv v129, rv b131, .unset, .unset, .unset] [(.ref b145)])) _
    refine XS.astore X145.here hx rfl (hb hby at_46) rfl rfl (l' := #[iv q1, iv q2, iv q3, iv q4, rv v123, rv v125, rv v127, rv v129, rv b131, rv b145, .unset, .unset]) rfl ?_
    show Steps _ _ _ (T145.setTop (mkF m 48 #[iv q1, iv q2, iv q3, iv q4, rv v123, rv v125, rv v127, rv v129, rv b131, rv b145, .unset, .unset] [])) _
    refine XS.aload X145.here hx rfl (hb hby at_48) rfl rfl ?_
    show Steps _ _ _ (T145.setTop (mkF m 50 #[iv q1, iv q2, iv q3, iv q4, rv v123, rv v125, rv v127, rv v129, rv b131, rv b145, .unset, .unset] [(.ref b145)])) _
    refine XS.ifnonnullYes X145.here hx rfl (pc0 := 50) (pc' := 55) rfl (hb hby at_50) rfl (by decide) (by decide) ?_
    show Steps _ _ _ (T145.setTop (mkF m 55 #[iv q1, iv q2, iv q3, iv q4, rv v123, rv v125, rv v127, rv v129, rv b131, rv b145, .unset, .unset] [])) _
    refine XS.aload X145.here hx rfl (hb hby at_55) rfl rfl ?_
    show Steps _ _ _ (T145.setTop (mkF m 57 #[iv q1, iv q2, iv q3, iv q4, rv v123, rv v125, rv v127, rv v129, rv b131, rv b145, .unset, .unset] [(.ref b145)])) _
    exact q
  obtain ⟨cq154, kq154, q154a, q154b, q154c⟩ := isOf hZ145 (rfl : T145.heap = _) M145
  obtain ⟨_, _, ⟨T154, L154, k154, n154⟩, -, X154, ⟨Lc154, hQ154, l154, y154, z154⟩, st154⟩ := X145.virtualBack hx (y := y_7) (z := y_7) hown145 (mvT hZ145 (hw _ (wd 63 rfl))) (mvT hZ145 (hw _ (wd 64 rfl))) (notFace_of_selects (args := #[]) (mvT hZ145 (hw _ (wd 66 rfl)))) (mvT hZ145 (hw _ (wd 66 rfl))) (mvT hZ145 (hw _ (wd 65 rfl))) (by decide) (backOf (W := 0) (get_fhirVersion l Z a0 hw [] a_STU3 a_DMY a_DOSAGE a_R4 a_ISO a_MEDICATION a_DMMMY G b145 v129 T145.heap n0 O_150 I145_0) hZ145 (hw _ (wd 67 rfl)) (hw _ (wd 24 rfl)) (by decide) (by decide)) q154a q154c (g := (mkF m 57 #[iv q1, iv q2, iv q3, iv q4, rv v123, rv v125, rv v127, rv v129, rv b131, rv b145, .unset, .unset] [(.ref b145)])) rfl (by rw [hml]; rfl) (Steps.refl _) (argsL := []) (rest := []) (lenOf pd_7 rfl) rfl (by show 2 * 0 + _ ≤ _; exact Nat.le_of_eq rfl) (hb hby at_57) (fun _ _ => ⟨rfl, (rfl : T145.heap = _), (by decide : 14 + 0 ≤ _), (by decide : 254 + 0 ≤ _)⟩)
  dsimp only [Pt.U, Pt.locs, Pt.cells, Pt.slots] at X154 l154 y154 z154 st154 hQ154
  subst l154 y154 z154
  obtain ⟨rfl, N154q, e154⟩ := hQ154
  have N154 := Fr.app N145 N154q
  have k_155 : Go p.tables e below (s₁.setTop (entryFrame m #[(.int q1), (.int q2), (.int q3), (.int q4)] maxLocals)) (T154.setTop (mkF m 67 #[iv q1, iv q2, iv q3, iv q4, rv v123, rv v125, rv v127, rv v129, rv b131, rv b145, .unset, .unset] [(.ref b145)])) := fun t q => by
    refine k_153 t ?_
    refine st154.trans ?_
    show Steps _ _ _ (T154.setTop (mkF m 60 #[iv q1, iv q2, iv q3, iv q4, rv v123, rv v125, rv v127, rv v129, rv b131, rv b145, .unset, .unset] [(.ref v129)])) _
    refine XS.aload X154.here hx rfl (hb hby at_60) rfl rfl ?_
    show Steps _ _ _ (T154.setTop (mkF m 62 #[iv q1, iv q2, iv q3, iv q4, rv v123, rv v125, rv v127, rv v129, rv b131, rv b145, .unset, .unset] [(.ref v129), (.ref v129)])) _
    refine Jvm.RoadKit.acmp (g := (mkF m 62 #[iv q1, iv q2, iv q3, iv q4, rv v123, rv v125, rv v127, rv v129, rv b131, rv b145, .unset, .unset] [(.ref v129), (.ref v129)])) X154 hx rfl rfl rfl (pc0 := 62) (pc' := 65) (same := true) rfl (hb hby at_62) rfl (decide_eq_true rfl) (by decide) (by decide) ?_
    show Steps _ _ _ (T154.setTop (mkF m 65 #[iv q1, iv q2, iv q3, iv q4, rv v123, rv v125, rv v127, rv v129, rv b131, rv b145, .unset, .unset] [])) _
    refine XS.aload X154.here hx rfl (hb hby at_65) rfl rfl ?_
    show Steps _ _ _ (T154.setTop (mkF m 67 #[iv q1, iv q2, iv q3, iv q4, rv v123, rv v125, rv v127, rv v129, rv b131, rv b145, .unset, .unset] [(.ref b145)])) _
    exact q
  obtain ⟨cq156, kq156, q156a, q156b, q156c⟩ := isOf hZ145 e154 M145
  obtain ⟨_, _, ⟨T156, L156, k156, n156⟩, -, X156, ⟨Lc156, hQ156, l156, y156, z156⟩, st156⟩ := X154.virtualBack hx (y := y_8) (z := y_8) hown145 (mvT hZ145 (hw _ (wd 68 rfl))) (mvT hZ145 (hw _ (wd 69 rfl))) (notFace_of_selects (args := #[]) (mvT hZ145 (hw _ (wd 71 rfl)))) (mvT hZ145 (hw _ (wd 71 rfl))) (mvT hZ145 (hw _ (wd 70 rfl))) (by decide) (backOf (W := 0) (get_dateStyle l Z a0 hw [] a_STU3 a_DMY a_DOSAGE a_R4 a_ISO a_MEDICATION a_DMMMY G b145 v125 T145.heap n0 O_150 I145_1) hZ145 (hw _ (wd 72 rfl)) (hw _ (wd 24 rfl)) (by decide) (by decide)) q156a q156c (g := (mkF m 67 #[iv q1, iv q2, iv q3, iv q4, rv v123, rv v125, rv v127, rv v129, rv b131, rv b145, .unset, .unset] [(.ref b145)])) rfl (by rw [hml]; rfl) (Steps.refl _) (argsL := []) (rest := []) (lenOf pd_8 rfl) rfl (by show 2 * 0 + _ ≤ _; exact Nat.le_of_eq rfl) (hb hby at_67) (fun _ _ => ⟨rfl, e154, (by decide : 14 + 0 ≤ _), (by decide : 254 + 0 ≤ _)⟩)
  dsimp only [Pt.U, Pt.locs, Pt.cells, Pt.slots] at X156 l156 y156 z156 st156 hQ156
  subst l156 y156 z156
  obtain ⟨rfl, N156q, e156⟩ := hQ156
  have N156 := Fr.app N154 N156q
  have k_157 : Go p.tables e below (s₁.setTop (entryFrame m #[(.int q1), (.int q2), (.int q3), (.int q4)] maxLocals)) (T156.setTop (mkF m 77 #[iv q1, iv q2, iv q3, iv q4, rv v123, rv v125, rv v127, rv v129, rv b131, rv b145, .unset, .unset] [(.ref b145)])) := fun t q => by
    refine k_155 t ?_
    refine st156.trans ?_
    show Steps _ _ _ (T156.setTop (mkF m 70 #[iv q1, iv q2, iv q3, iv q4, rv v123, rv v125, rv v127, rv v129, rv b131, rv b145, .unset, .unset] [(.ref v125)])) _
    refine XS.aload X156.here hx rfl (hb hby at_70) rfl rfl ?_
    show Steps _ _ _ (T156.setTop (mkF m 72 #[iv q1, iv q2, iv q3, iv q4, rv v123, rv v125, rv v127, rv v129, rv b131, rv b145, .unset, .unset] [(.ref v125), (.ref v125)])) _
    refine Jvm.RoadKit.acmp (g := (mkF m 72 #[iv q1, iv q2, iv q3, iv q4, rv v123, rv v125, rv v127, rv v129, rv b131, rv b145, .unset, .unset] [(.ref v125), (.ref v125)])) X156 hx rfl rfl rfl (pc0 := 72) (pc' := 75) (same := true) rfl (hb hby at_72) rfl (decide_eq_true rfl) (by decide) (by decide) ?_
    show Steps _ _ _ (T156.setTop (mkF m 75 #[iv q1, iv q2, iv q3, iv q4, rv v123, rv v125, rv v127, rv v129, rv b131, rv b145, .unset, .unset] [])) _
    refine XS.aload X156.here hx rfl (hb hby at_75) rfl rfl ?_
    show Steps _ _ _ (T156.setTop (mkF m 77 #[iv q1, iv q2, iv q3, iv q4, rv v123, rv v125, rv v127, rv v129, rv b131, rv b145, .unset, .unset] [(.ref b145)])) _
    exact q
  obtain ⟨cq158, kq158, q158a, q158b, q158c⟩ := isOf hZ145 e156 M145
  obtain ⟨_, _, ⟨T158, L158, k158, n158⟩, -, X158, ⟨Lc158, hQ158, l158, y158, z158⟩, st158⟩ := X156.virtualBack hx (y := y_9) (z := y_9) hown145 (mvT hZ145 (hw _ (wd 73 rfl))) (mvT hZ145 (hw _ (wd 74 rfl))) (notFace_of_selects (args := #[]) (mvT hZ145 (hw _ (wd 76 rfl)))) (mvT hZ145 (hw _ (wd 76 rfl))) (mvT hZ145 (hw _ (wd 75 rfl))) (by decide) (backOf (W := 0) (get_lineKind l Z a0 hw [] a_STU3 a_DMY a_DOSAGE a_R4 a_ISO a_MEDICATION a_DMMMY G b145 v127 T145.heap n0 O_150 I145_2) hZ145 (hw _ (wd 77 rfl)) (hw _ (wd 24 rfl)) (by decide) (by decide)) q158a q158c (g := (mkF m 77 #[iv q1, iv q2, iv q3, iv q4, rv v123, rv v125, rv v127, rv v129, rv b131, rv b145, .unset, .unset] [(.ref b145)])) rfl (by rw [hml]; rfl) (Steps.refl _) (argsL := []) (rest := []) (lenOf pd_9 rfl) rfl (by show 2 * 0 + _ ≤ _; exact Nat.le_of_eq rfl) (hb hby at_77) (fun _ _ => ⟨rfl, e156, (by decide : 14 + 0 ≤ _), (by decide : 254 + 0 ≤ _)⟩)
  dsimp only [Pt.U, Pt.locs, Pt.cells, Pt.slots] at X158 l158 y158 z158 st158 hQ158
  subst l158 y158 z158
  obtain ⟨rfl, N158q, e158⟩ := hQ158
  have N158 := Fr.app N156 N158q
  have k_159 : Go p.tables e below (s₁.setTop (entryFrame m #[(.int q1), (.int q2), (.int q3), (.int q4)] maxLocals)) (T158.setTop (mkF m 94 #[iv q1, iv q2, iv q3, iv q4, rv v123, rv v125, rv v127, rv v129, rv b131, rv b145, iv 1, .unset] [(.ref b131)])) := fun t q => by
    refine k_157 t ?_
    refine st158.trans ?_
    show Steps _ _ _ (T158.setTop (mkF m 80 #[iv q1, iv q2, iv q3, iv q4, rv v123, rv v125, rv v127, rv v129, rv b131, rv b145, .unset, .unset] [(.ref v127)])) _
    refine XS.aload X158.here hx rfl (hb hby at_80) rfl rfl ?_
    show Steps _ _ _ (T158.setTop (mkF m 82 #[iv q1, iv q2, iv q3, iv q4, rv v123, rv v125, rv v127, rv v129, rv b131, rv b145, .unset, .unset] [(.ref v127), (.ref v127)])) _
    refine Jvm.RoadKit.acmp (g := (mkF m 82 #[iv q1, iv q2, iv q3, iv q4, rv v123, rv v125, rv v127, rv v129, rv b131, rv b145, .unset, .unset] [(.ref v127), (.ref v127)])) X158 hx rfl rfl rfl (pc0 := 82) (pc' := 85) (same := true) rfl (hb hby at_82) rfl (decide_eq_true rfl) (by decide) (by decide) ?_
    show Steps _ _ _ (T158.setTop (mkF m 85 #[iv q1, iv q2, iv q3, iv q4, rv v123, rv v125, rv v127, rv v129, rv b131, rv b145, .unset, .unset] [])) _
    refine XS.iconst X158.here hx rfl (hb hby at_85) ?_
    show Steps _ _ _ (T158.setTop (mkF m 86 #[iv q1, iv q2, iv q3, iv q4, rv v123, rv v125, rv v127, rv v129, rv b131, rv b145, .unset, .unset] [(.int 1)])) _
    refine XS.goto X158.here hx rfl (pc0 := 86) (pc' := 90) rfl (hb hby at_86) (by decide) (by decide) ?_
    show Steps _ _ _ (T158.setTop (mkF m 90 #[iv q1, iv q2, iv q3, iv q4, rv v123, rv v125, rv v127, rv v129, rv b131, rv b145, .unset, .unset] [(.int 1)])) _
    refine XS.istore X158.here hx rfl (hb hby at_90) rfl (l' := #[iv q1, iv q2, iv q3, iv q4, rv v123, rv v125, rv v127, rv v129, rv b131, rv b145, iv 1, .unset]) rfl ?_
    show Steps _ _ _ (T158.setTop (mkF m 92 #[iv q1, iv q2, iv q3, iv q4, rv v123, rv v125, rv v127, rv v129, rv b131, rv b145, iv 1, .unset] [])) _
    refine XS.aload X158.here hx rfl (hb hby at_92) rfl rfl ?_
    show Steps _ _ _ (T158.setTop (mkF m 94 #[iv q1, iv q2, iv q3, iv q4, rv v123, rv v125, rv v127, rv v129, rv b131, rv b145, iv 1, .unset] [(.ref b131)])) _
    exact q
  obtain ⟨cq160, kq160, q160a, q160b, q160c⟩ := isOf hZ145 e158 f_146
  obtain ⟨_, _, ⟨T160, L160, k160, n160⟩, -, X160, ⟨Lc160, hQ160, l160, y160, z160⟩, st160⟩ := X158.virtualBack hx (y := y_7) (z := y_7) hown145 (mvT hZ145 (hw _ (wd 63 rfl))) (mvT hZ145 (hw _ (wd 64 rfl))) (notFace_of_selects (args := #[]) (mvT hZ145 (hw _ (wd 66 rfl)))) (mvT hZ145 (hw _ (wd 66 rfl))) (mvT hZ145 (hw _ (wd 65 rfl))) (by decide) (backOf (W := 0) (get_fhirVersion l Z a0 hw [] a_STU3 a_DMY a_DOSAGE a_R4 a_ISO a_MEDICATION a_DMMMY G b131 v123 T145.heap n0 O_150 f_147) hZ145 (hw _ (wd 67 rfl)) (hw _ (wd 24 rfl)) (by decide) (by decide)) q160a q160c (g := (mkF m 94 #[iv q1, iv q2, iv q3, iv q4, rv v123, rv v125, rv v127, rv v129, rv b131, rv b145, iv 1, .unset] [(.ref b131)])) rfl (by rw [hml]; rfl) (Steps.refl _) (argsL := []) (rest := []) (lenOf pd_7 rfl) rfl (by show 2 * 0 + _ ≤ _; exact Nat.le_of_eq rfl) (hb hby at_94) (fun _ _ => ⟨rfl, e158, (by decide : 14 + 0 ≤ _), (by decide : 254 + 0 ≤ _)⟩)
  dsimp only [Pt.U, Pt.locs, Pt.cells, Pt.slots] at X160 l160 y160 z160 st160 hQ160
  subst l160 y160 z160
  obtain ⟨rfl, N160q, e160⟩ := hQ160
  have N160 := Fr.app N158 N160q
  have k_161 : Go p.tables e below (s₁.setTop (entryFrame m #[(.int q1), (.int q2), (.int q3), (.int q4)] maxLocals)) (T160.setTop (mkF m 104 #[iv q1, iv q2, iv q3, iv q4, rv v123, rv v125, rv v127, rv v129, rv b131, rv b145, iv 1, .unset] [(.ref b131)])) := fun t q => by
    refine k_159 t ?_
    refine st160.trans ?_
    show Steps _ _ _ (T160.setTop (mkF m 97 #[iv q1, iv q2, iv q3, iv q4, rv v123, rv v125, rv v127, rv v129, rv b131, rv b145, iv 1, .unset] [(.ref v123)])) _
    refine XS.aload X160.here hx rfl (hb hby at_97) rfl rfl ?_
    show Steps _ _ _ (T160.setTop (mkF m 99 #[iv q1, iv q2, iv q3, iv q4, rv v123, rv v125, rv v127, rv v129, rv b131, rv b145, iv 1, .unset] [(.ref v123), (.ref v123)])) _
    refine Jvm.RoadKit.acmp (g := (mkF m 99 #[iv q1, iv q2, iv q3, iv q4, rv v123, rv v125, rv v127, rv v129, rv b131, rv b145, iv 1, .unset] [(.ref v123), (.ref v123)])) X160 hx rfl rfl rfl (pc0 := 99) (pc' := 102) (same := true) rfl (hb hby at_99) rfl (decide_eq_true rfl) (by decide) (by decide) ?_
    show Steps _ _ _ (T160.setTop (mkF m 102 #[iv q1, iv q2, iv q3, iv q4, rv v123, rv v125, rv v127, rv v129, rv b131, rv b145, iv 1, .unset] [])) _
    refine XS.aload X160.here hx rfl (hb hby at_102) rfl rfl ?_
    show Steps _ _ _ (T160.setTop (mkF m 104 #[iv q1, iv q2, iv q3, iv q4, rv v123, rv v125, rv v127, rv v129, rv b131, rv b145, iv 1, .unset] [(.ref b131)])) _
    exact q
  obtain ⟨cq162, kq162, q162a, q162b, q162c⟩ := isOf hZ145 e160 f_146
  obtain ⟨_, _, ⟨T162, L162, k162, n162⟩, -, X162, ⟨Lc162, hQ162, l162, y162, z162⟩, st162⟩ := X160.virtualBack hx (y := y_8) (z := y_8) hown145 (mvT hZ145 (hw _ (wd 68 rfl))) (mvT hZ145 (hw _ (wd 69 rfl))) (notFace_of_selects (args := #[]) (mvT hZ145 (hw _ (wd 71 rfl)))) (mvT hZ145 (hw _ (wd 71 rfl))) (mvT hZ145 (hw _ (wd 70 rfl))) (by decide) (backOf (W := 0) (get_dateStyle l Z a0 hw [] a_STU3 a_DMY a_DOSAGE a_R4 a_ISO a_MEDICATION a_DMMMY G b131 v125 T145.heap n0 O_150 f_148) hZ145 (hw _ (wd 72 rfl)) (hw _ (wd 24 rfl)) (by decide) (by decide)) q162a q162c (g := (mkF m 104 #[iv q1, iv q2, iv q3, iv q4, rv v123, rv v125, rv v127, rv v129, rv b131, rv b145, iv 1, .unset] [(.ref b131)])) rfl (by rw [hml]; rfl) (Steps.refl _) (argsL := []) (rest := []) (lenOf pd_8 rfl) rfl (by show 2 * 0 + _ ≤ _; exact Nat.le_of_eq rfl) (hb hby at_104) (fun _ _ => ⟨rfl, e160, (by decide : 14 + 0 ≤ _), (by decide : 254 + 0 ≤ _)⟩)
  dsimp only [Pt.U, Pt.locs, Pt.cells, Pt.slots] at X162 l162 y162 z162 st162 hQ162
  subst l162 y162 z162
  obtain ⟨rfl, N162q, e162⟩ := hQ162
  have N162 := Fr.app N160 N162q
  have k_163 : Go p.tables e below (s₁.setTop (entryFrame m #[(.int q1), (.int q2), (.int q3), (.int q4)] maxLocals)) (T162.setTop (mkF m 114 #[iv q1, iv q2, iv q3, iv q4, rv v123, rv v125, rv v127, rv v129, rv b131, rv b145, iv 1, .unset] [(.ref b131)])) := fun t q => by
    refine k_161 t ?_
    refine st162.trans ?_
    show Steps _ _ _ (T162.setTop (mkF m 107 #[iv q1, iv q2, iv q3, iv q4, rv v123, rv v125, rv v127, rv v129, rv b131, rv b145, iv 1, .unset] [(.ref v125)])) _
    refine XS.aload X162.here hx rfl (hb hby at_107) rfl rfl ?_
    show Steps _ _ _ (T162.setTop (mkF m 109 #[iv q1, iv q2, iv q3, iv q4, rv v123, rv v125, rv v127, rv v129, rv b131, rv b145, iv 1, .unset] [(.ref v125), (.ref v125)])) _
    refine Jvm.RoadKit.acmp (g := (mkF m 109 #[iv q1, iv q2, iv q3, iv q4, rv v123, rv v125, rv v127, rv v129, rv b131, rv b145, iv 1, .unset] [(.ref v125), (.ref v125)])) X162 hx rfl rfl rfl (pc0 := 109) (pc' := 112) (same := true) rfl (hb hby at_109) rfl (decide_eq_true rfl) (by decide) (by decide) ?_
    show Steps _ _ _ (T162.setTop (mkF m 112 #[iv q1, iv q2, iv q3, iv q4, rv v123, rv v125, rv v127, rv v129, rv b131, rv b145, iv 1, .unset] [])) _
    refine XS.aload X162.here hx rfl (hb hby at_112) rfl rfl ?_
    show Steps _ _ _ (T162.setTop (mkF m 114 #[iv q1, iv q2, iv q3, iv q4, rv v123, rv v125, rv v127, rv v129, rv b131, rv b145, iv 1, .unset] [(.ref b131)])) _
    exact q
  obtain ⟨cq164, kq164, q164a, q164b, q164c⟩ := isOf hZ145 e162 f_146
  obtain ⟨_, _, ⟨T164, L164, k164, n164⟩, -, X164, ⟨Lc164, hQ164, l164, y164, z164⟩, st164⟩ := X162.virtualBack hx (y := y_9) (z := y_9) hown145 (mvT hZ145 (hw _ (wd 73 rfl))) (mvT hZ145 (hw _ (wd 74 rfl))) (notFace_of_selects (args := #[]) (mvT hZ145 (hw _ (wd 76 rfl)))) (mvT hZ145 (hw _ (wd 76 rfl))) (mvT hZ145 (hw _ (wd 75 rfl))) (by decide) (backOf (W := 0) (get_lineKind l Z a0 hw [] a_STU3 a_DMY a_DOSAGE a_R4 a_ISO a_MEDICATION a_DMMMY G b131 v127 T145.heap n0 O_150 f_149) hZ145 (hw _ (wd 77 rfl)) (hw _ (wd 24 rfl)) (by decide) (by decide)) q164a q164c (g := (mkF m 114 #[iv q1, iv q2, iv q3, iv q4, rv v123, rv v125, rv v127, rv v129, rv b131, rv b145, iv 1, .unset] [(.ref b131)])) rfl (by rw [hml]; rfl) (Steps.refl _) (argsL := []) (rest := []) (lenOf pd_9 rfl) rfl (by show 2 * 0 + _ ≤ _; exact Nat.le_of_eq rfl) (hb hby at_114) (fun _ _ => ⟨rfl, e162, (by decide : 14 + 0 ≤ _), (by decide : 254 + 0 ≤ _)⟩)
  dsimp only [Pt.U, Pt.locs, Pt.cells, Pt.slots] at X164 l164 y164 z164 st164 hQ164
  subst l164 y164 z164
  obtain ⟨rfl, N164q, e164⟩ := hQ164
  have N164 := Fr.app N162 N164q
  have k_165 : Go p.tables e below (s₁.setTop (entryFrame m #[(.int q1), (.int q2), (.int q3), (.int q4)] maxLocals)) (T164.setTop (mkF m 144 #[iv q1, iv q2, iv q3, iv q4, rv v123, rv v125, rv v127, rv v129, rv b131, rv b145, iv 1, iv 1] [(.int 1)])) := fun t q => by
    refine k_163 t ?_
    refine st164.trans ?_
    show Steps _ _ _ (T164.setTop (mkF m 117 #[iv q1, iv q2, iv q3, iv q4, rv v123, rv v125, rv v127, rv v129, rv b131, rv b145, iv 1, .unset] [(.ref v127)])) _
    refine XS.aload X164.here hx rfl (hb hby at_117) rfl rfl ?_
    show Steps _ _ _ (T164.setTop (mkF m 119 #[iv q1, iv q2, iv q3, iv q4, rv v123, rv v125, rv v127, rv v129, rv b131, rv b145, iv 1, .unset] [(.ref v127), (.ref v127)])) _
    refine Jvm.RoadKit.acmp (g := (mkF m 119 #[iv q1, iv q2, iv q3, iv q4, rv v123, rv v125, rv v127, rv v129, rv b131, rv b145, iv 1, .unset] [(.ref v127), (.ref v127)])) X164 hx rfl rfl rfl (pc0 := 119) (pc' := 122) (same := true) rfl (hb hby at_119) rfl (decide_eq_true rfl) (by decide) (by decide) ?_
    show Steps _ _ _ (T164.setTop (mkF m 122 #[iv q1, iv q2, iv q3, iv q4, rv v123, rv v125, rv v127, rv v129, rv b131, rv b145, iv 1, .unset] [])) _
    refine XS.iconst X164.here hx rfl (hb hby at_122) ?_
    show Steps _ _ _ (T164.setTop (mkF m 123 #[iv q1, iv q2, iv q3, iv q4, rv v123, rv v125, rv v127, rv v129, rv b131, rv b145, iv 1, .unset] [(.int 1)])) _
    refine XS.goto X164.here hx rfl (pc0 := 123) (pc' := 127) rfl (hb hby at_123) (by decide) (by decide) ?_
    show Steps _ _ _ (T164.setTop (mkF m 127 #[iv q1, iv q2, iv q3, iv q4, rv v123, rv v125, rv v127, rv v129, rv b131, rv b145, iv 1, .unset] [(.int 1)])) _
    refine XS.istore X164.here hx rfl (hb hby at_127) rfl (l' := #[iv q1, iv q2, iv q3, iv q4, rv v123, rv v125, rv v127, rv v129, rv b131, rv b145, iv 1, iv 1]) rfl ?_
    show Steps _ _ _ (T164.setTop (mkF m 129 #[iv q1, iv q2, iv q3, iv q4, rv v123, rv v125, rv v127, rv v129, rv b131, rv b145, iv 1, iv 1] [])) _
    refine XS.iload X164.here hx rfl (hb hby at_129) rfl ?_
    show Steps _ _ _ (T164.setTop (mkF m 131 #[iv q1, iv q2, iv q3, iv q4, rv v123, rv v125, rv v127, rv v129, rv b131, rv b145, iv 1, iv 1] [(.int 1)])) _
    refine XS.ifNo X164.here hx rfl (hb hby at_131) rfl (by decide) ?_
    show Steps _ _ _ (T164.setTop (mkF m 134 #[iv q1, iv q2, iv q3, iv q4, rv v123, rv v125, rv v127, rv v129, rv b131, rv b145, iv 1, iv 1] [])) _
    refine XS.iload X164.here hx rfl (hb hby at_134) rfl ?_
    show Steps _ _ _ (T164.setTop (mkF m 136 #[iv q1, iv q2, iv q3, iv q4, rv v123, rv v125, rv v127, rv v129, rv b131, rv b145, iv 1, iv 1] [(.int 1)])) _
    refine XS.ifNo X164.here hx rfl (hb hby at_136) rfl (by decide) ?_
    show Steps _ _ _ (T164.setTop (mkF m 139 #[iv q1, iv q2, iv q3, iv q4, rv v123, rv v125, rv v127, rv v129, rv b131, rv b145, iv 1, iv 1] [])) _
    refine XS.iconst X164.here hx rfl (hb hby at_139) ?_
    show Steps _ _ _ (T164.setTop (mkF m 140 #[iv q1, iv q2, iv q3, iv q4, rv v123, rv v125, rv v127, rv v129, rv b131, rv b145, iv 1, iv 1] [(.int 1)])) _
    refine XS.goto X164.here hx rfl (pc0 := 140) (pc' := 144) rfl (hb hby at_140) (by decide) (by decide) ?_
    show Steps _ _ _ (T164.setTop (mkF m 144 #[iv q1, iv q2, iv q3, iv q4, rv v123, rv v125, rv v127, rv v129, rv b131, rv b145, iv 1, iv 1] [(.int 1)])) _
    exact q
  obtain ⟨fs, hr, hrun, hended, hEnd⟩ := X164.leaveW hS145 ((e164).symm ▸ hk145) (v := some (.int 1)) (fun h => by rw [Bd.returns] at h; cases h)
  refine ⟨_, _, k_165 _ ?_, hrun, hended, _, _, rfl, ?_, (⟨hEnd.1, hEnd.2.1, hEnd.2.2.1, hEnd.2.2.2.mono (by decide) (by decide)⟩ : ReturnedEndW _ _ _ _ _ _)⟩
  · exact retN X164 hx (t := .boolean) Bd.returns (by simp) (hb hby at_144) hr
  · show Q0 n0 _ T164.heap _
    rw [e164]
    exact ⟨rfl, N164⟩
set_option maxRecDepth 65536 in
set_option maxHeartbeats 40000000 in
theorem comes_1 {Post : Tables → Env → Array Value → State → Outcome → State → Prop} (hpost : ∀ tb e args s v u, (limb_1_1.after args s (.returned v) u = true ∧ limb_1_2.after args s (.returned v) u = true ∧ True) → ReturnedEndW s (.returned v) u (Jvm.fieldLocs frame_1_writes args s ++ Jvm.arrayLocs frame_1_arrays args s ++ Jvm.staticLocs frame_1_statics s) 24 3200 → Post tb e args s (.returned v) u) :
    ArmFor flags0 classFile x code maxLocals ret World_1 tables_1 room_1 Calls_1 rest_1 Pre_1 Post := by
  intro l hfl _ _ p e ha hc hk s m args below hf hA hF happ hP
  obtain ⟨hcalls, hrest, hpre⟩ := hP
  obtain ⟨-, -, -, hnamed, -, -, -, hat⟩ := (Spec.applies_iff hf).mp happ
  obtain ⟨hg, hn⟩ := and_e (Cond.before_iff.mp (show (Jvm.Cond.and given_1 narrow_1).before args s = true from hpre))
  obtain ⟨g0, c0⟩ := and_e hg
  obtain ⟨g1, c1⟩ := and_e c0
  obtain ⟨g2, c2⟩ := and_e c1
  obtain ⟨g3, c3⟩ := and_e c2
  obtain ⟨w0, w1, w2, w3, rfl⟩ : ∃ w0 w1 w2 w3 : Value, args = #[w0, w1, w2, w3] := by
    have hs : args.size = 4 := by simpa [Cond.value, given_1] using g0
    obtain ⟨L⟩ := args
    match L, hs with
    | [w0, w1, w2, w3], _ => exact ⟨w0, w1, w2, w3, rfl⟩
  have hw := fun d (hd : d ∈ tables_1) => atoms_spec (ws := Jvm.Cond.code x code maxLocals ret :: tables_1) hat d (List.mem_cons_of_mem _ hd)
  obtain ⟨i0, ei0⟩ := is_v g1
  obtain rfl : w0 = (.int i0) := Option.some.inj ei0
  obtain ⟨i1, ei1⟩ := is_v g2
  obtain rfl : w1 = (.int i1) := Option.some.inj ei1
  obtain ⟨i2, ei2⟩ := is_v g3
  obtain rfl : w2 = (.int i2) := Option.some.inj ei2
  obtain ⟨i3, ei3⟩ := is_v c3
  obtain rfl : w3 = (.int i3) := Option.some.inj ei3
  obtain ⟨n0, r0⟩ := and_e hn
  obtain ⟨n1, r1⟩ := and_e r0
  obtain ⟨n2, r2⟩ := and_e r1
  obtain ⟨n3, r3⟩ := and_e r2
  obtain ⟨n4, r4⟩ := and_e r3
  obtain ⟨n5, r5⟩ := and_e r4
  obtain ⟨a_STU3, v_STU3⟩ := exa_v n0
  have E_STU3 := Exa.start v_STU3 n0
  have S_STU3 := Sta.start v_STU3 (Or.inr ⟨(hw _ (wd 5 rfl)), (hw _ (wd 6 rfl))⟩)
  obtain ⟨a_DMY, v_DMY⟩ := exa_v n1
  have E_DMY := Exa.start v_DMY n1
  have S_DMY := Sta.start v_DMY (Or.inr ⟨(hw _ (wd 12 rfl)), (hw _ (wd 13 rfl))⟩)
  obtain ⟨a_DOSAGE, v_DOSAGE⟩ := exa_v n2
  have E_DOSAGE := Exa.start v_DOSAGE n2
  have S_DOSAGE := Sta.start v_DOSAGE (Or.inr ⟨(hw _ (wd 18 rfl)), (hw _ (wd 19 rfl))⟩)
  obtain ⟨a_R4, v_R4⟩ := exa_v n3
  have E_R4 := Exa.start v_R4 n3
  have S_R4 := Sta.start v_R4 (Or.inr ⟨(hw _ (wd 5 rfl)), (hw _ (wd 21 rfl))⟩)
  obtain ⟨a_ISO, v_ISO⟩ := exa_v n4
  have E_ISO := Exa.start v_ISO n4
  have S_ISO := Sta.start v_ISO (Or.inr ⟨(hw _ (wd 12 rfl)), (hw _ (wd 79 rfl))⟩)
  obtain ⟨a_MEDICATION, v_MEDICATION⟩ := exa_v n5
  have E_MEDICATION := Exa.start v_MEDICATION n5
  have S_MEDICATION := Sta.start v_MEDICATION (Or.inr ⟨(hw _ (wd 18 rfl)), (hw _ (wd 81 rfl))⟩)
  obtain ⟨a_DMMMY, v_DMMMY⟩ := exa_v r5
  have E_DMMMY := Exa.start v_DMMMY r5
  have S_DMMMY := Sta.start v_DMMMY (Or.inr ⟨(hw _ (wd 12 rfl)), (hw _ (wd 83 rfl))⟩)
  have G : Own s a_STU3 a_DMY a_DOSAGE a_R4 a_ISO a_MEDICATION a_DMMMY := ⟨S_STU3, E_STU3, S_DMY, E_DMY, S_DOSAGE, E_DOSAGE, S_R4, E_R4, S_ISO, E_ISO, S_MEDICATION, E_MEDICATION, S_DMMMY, E_DMMMY⟩
  obtain ⟨n, o, h1, h2, h3, _, L, rfl, ⟨rfl, N⟩, hq⟩ := rm0 l s _ hw tables_1 a_STU3 a_DMY a_DOSAGE a_R4 a_ISO a_MEDICATION a_DMMMY G i0 i1 i2 i3 s.heap s.heap.size (Old.start s) p e ha hc hk s m _ below hf ((Spec.applies_iff_loose hf).mp happ).1 ⟨rfl, State.Warmed39.refl s, rfl⟩ trivial
  refine ⟨n, _, h1, h2, h3, hpost _ _ _ _ _ _ ⟨Cond.after_iff.mpr rfl, Cond.after_iff.mpr (eq_i res_at (Term.int_eval (1)) rfl), trivial⟩ ⟨hq.1, hq.2.1, hq.2.2.1, (hq.2.2.2.sift fun y hy => Or.inr (N y hy)).mono (by decide) (by decide)⟩⟩
theorem main_1_1 : Claimed_1_1 := comes_1 fun _ _ _ _ _ _ h hF => ⟨h.1, hF⟩
theorem main_1_2 : Claimed_1_2 := comes_1 fun _ _ _ _ _ _ h hF => ⟨h.2.1, hF⟩
end Jvm.Pilot.@@N@@
namespace Jvm.Pilot.@@N@@
open Jvm Jvm.ClassFile Sem Op Lib Jvm.Free Jvm.Stand Jvm.Pilot.@@N@@.Jvm.D
/-! MADE BY PROGRAM (witnessworld.py) out of the Statement's table words and the real class files: 20 classes; the members and pool entries that the words name. The judged class is class 1, her method 4. -/
namespace start1
open Jvm.ClassFile
def u (s : String) : CpInfo := .utf8 (stringToUtf16 s)
/-- a pool by its gaps: so many unusable entries, then the entry; so many at the end -/
def gap : Nat → List CpInfo → List CpInfo
  | 0, r => r
  | n + 1, r => .unusable :: gap n r
def poolList (es : List (Nat × CpInfo)) (last : Nat) : List CpInfo := es.foldr (fun e r => gap e.1 (e.2 :: r)) (gap last [])
def pool (es : List (Nat × CpInfo)) (last : Nat) : Array CpInfo := ⟨poolList es last⟩
def fileOf (pool : Array CpInfo) (this : Nat) (attrs : Array Attribute := #[]) (ms : Array MethodInfo := #[]) (fl : Nat := 33) (sup : Nat := 0) (ifs : Array Nat := #[]) (fds : Array FieldInfo := #[]) : ClassFile where
  minorVersion := 0
  majorVersion := 65
  constantPool := pool
  accessFlags := fl
  thisClass := this
  superClass := sup
  interfaces := ifs
  fields := fds
  methods := ms
  attributes := attrs
def plain (name : String) (sup : Option ClassId) : Class where
  name := name
  kind := .ordinary
  loader := none
  accessFlags := 33
  super := sup
  interfaces := #[]
  cf := none
  fields := #[]
  methods := #[]
  instanceTypes := #[]
  staticTypes := #[]
  resolved := #[]
  callSites := []
  init := .initialized
  statics := none
  mirror := none

def pool0 : Array CpInfo := pool [(5, u "<init>"), (0, u "()V"), (1, .class_ 10), (1, u "java/lang/Object")] 113

def k0c0 : Code := { maxStack := 0, maxLocals := 1, code := object_method_1_code, exceptionTable := #[], attributes := #[] }
def k0m0 : Method := { name := "<init>", desc := "()V", sig := { parameters := [], returnType := none }, accessFlags := 1, code := some k0c0 }
/-- java/lang/Object -/
def k0 : Class := { plain "java/lang/Object" none with
  accessFlags := 33
  interfaces := #[]
  cf := some (fileOf pool0 8 #[] #[{ accessFlags := 1, nameIndex := 5, descriptorIndex := 6, attributes := #[] }] 33 0 #[] #[])
  fields := #[]
  methods := #[k0m0]
  instanceTypes := #[]
  staticTypes := #[]
  resolved := Array.replicate 124 none
  statics := none }

def pool1 : Array CpInfo := pool [(2, .class_ 4), (1, u "java/lang/Object"), (0, u "<init>"), (0, u "()V"), (0, .fieldref 8 9), (0, .class_ 10), (0, .nameAndType 11 12), (0, u "com/example/dosewright/dosewright/FhirVersion"), (0, u "STU3"), (0, u "Lcom/example/dosewright/dosewright/FhirVersion;"), (0, .fieldref 8 14), (0, .nameAndType 15 12), (0, u "R4"), (0, .integer 2147483647), (0, .fieldref 18 19), (0, .class_ 20), (0, .nameAndType 21 22), (0, u "com/example/dosewright/dosewright/DateStyle"), (0, u "DMY"), (0, u "Lcom/example/dosewright/dosewright/DateStyle;"), (0, .fieldref 18 24), (0, .nameAndType 25 22), (0, u "ISO"), (0, .fieldref 18 27), (0, .nameAndType 28 22), (0, u "DMMMY"), (0, .fieldref 30 31), (0, .class_ 32), (0, .nameAndType 33 34), (0, u "com/example/dosewright/dosewright/LineKind"), (0, u "DOSAGE"), (0, u "Lcom/example/dosewright/dosewright/LineKind;"), (0, .fieldref 30 36), (0, .nameAndType 37 34), (0, u "MEDICATION"), (0, .methodref 39 40), (0, .class_ 41), (0, .nameAndType 42 43), (0, u "com/example/dosewright/dosewright/RenderOptionsWithFhirVersionPinLaw"), (0, u "version"), (0, u "(I)Lcom/example/dosewright/dosewright/FhirVersion;"), (0, .methodref 39 45), (0, .nameAndType 46 47), (0, u "style"), (0, u "(I)Lcom/example/dosewright/dosewright/DateStyle;"), (0, .methodref 39 49), (0, .nameAndType 50 51), (0, u "kind"), (0, u "(I)Lcom/example/dosewright/dosewright/LineKind;"), (0, .class_ 53), (0, u "com/example/dosewright/dosewright/RenderOptions"), (0, .methodref 52 55), (0, .nameAndType 5 56), (0, u "(Lcom/example/dosewright/dosewright/FhirVersion;Lcom/example/dosewright/dosewright/DateStyle;Lcom/example/dosewright/dosewright/LineKind;)V"), (0, .methodref 52 58), (0, .nameAndType 59 60), (0, u "withFhirVersion"), (0, u "(Lcom/example/dosewright/dosewright/FhirVersion;)Lcom/example/dosewright/dosewright/RenderOptions;"), (0, .methodref 52 62), (0, .nameAndType 63 64), (0, u "fhirVersion"), (0, u "()Lcom/example/dosewright/dosewright/FhirVersion;"), (0, .methodref 52 66), (0, .nameAndType 67 68), (0, u "dateStyle"), (0, u "()Lcom/example/dosewright/dosewright/DateStyle;"), (0, .methodref 52 70), (0, .nameAndType 71 72), (0, u "lineKind"), (0, u "()Lcom/example/dosewright/dosewright/LineKind;"), (3, u "law"), (0, u "(IIII)Z")] 2

def k1m0 : Method := { name := "<init>", desc := "()V", sig := { parameters := [], returnType := none }, accessFlags := 1, code := none }
def k1c1 : Code := { maxStack := 2, maxLocals := 1, code := method_2_code, exceptionTable := #[], attributes := #[] }
def k1m1 : Method := { name := "version", desc := "(I)Lcom/example/dosewright/dosewright/FhirVersion;", sig := { parameters := [.int], returnType := some (.object "com/example/dosewright/dosewright/FhirVersion") }, accessFlags := 10, code := some k1c1 }
def k1c2 : Code := { maxStack := 2, maxLocals := 2, code := method_3_code, exceptionTable := #[], attributes := #[] }
def k1m2 : Method := { name := "style", desc := "(I)Lcom/example/dosewright/dosewright/DateStyle;", sig := { parameters := [.int], returnType := some (.object "com/example/dosewright/dosewright/DateStyle") }, accessFlags := 10, code := some k1c2 }
def k1c3 : Code := { maxStack := 2, maxLocals := 1, code := method_4_code, exceptionTable := #[], attributes := #[] }
def k1m3 : Method := { name := "kind", desc := "(I)Lcom/example/dosewright/dosewright/LineKind;", sig := { parameters := [.int], returnType := some (.object "com/example/dosewright/dosewright/LineKind") }, accessFlags := 10, code := some k1c3 }
def k1c4 : Code := { maxStack := 5, maxLocals := 12, code := code, exceptionTable := #[], attributes := #[] }
def k1m4 : Method := { name := "law", desc := "(IIII)Z", sig := { parameters := [.int, .int, .int, .int], returnType := some .boolean }, accessFlags := 9, code := some k1c4 }
/-- com/example/dosewright/dosewright/RenderOptionsWithFhirVersionPinLaw -/
def k1 : Class := { plain "com/example/dosewright/dosewright/RenderOptionsWithFhirVersionPinLaw" (some 0) with
  accessFlags := 49
  interfaces := #[]
  cf := some (fileOf pool1 39 #[] #[{ accessFlags := 1, nameIndex := 5, descriptorIndex := 6, attributes := #[] }, { accessFlags := 10, nameIndex := 42, descriptorIndex := 43, attributes := #[] }, { accessFlags := 10, nameIndex := 46, descriptorIndex := 47, attributes := #[] }, { accessFlags := 10, nameIndex := 50, descriptorIndex := 51, attributes := #[] }, { accessFlags := 9, nameIndex := 76, descriptorIndex := 77, attributes := #[] }] 49 2 #[] #[])
  fields := #[]
  methods := #[k1m0, k1m1, k1m2, k1m3, k1m4]
  instanceTypes := #[]
  staticTypes := #[]
  resolved := Array.replicate 80 none
  statics := none }

def pool2 : Array CpInfo := pool [(1, .class_ 2), (0, u "java/lang/constant/Constable"), (0, .class_ 4), (0, u "java/lang/Object")] 6

/-- java/lang/constant/Constable -/
def k2 : Class := { plain "java/lang/constant/Constable" (some 0) with
  accessFlags := 1537
  interfaces := #[]
  cf := some (fileOf pool2 1 #[] #[] 1537 3 #[] #[])
  fields := #[]
  methods := #[]
  instanceTypes := #[]
  staticTypes := #[]
  resolved := Array.replicate 11 none
  statics := none }

def pool3 : Array CpInfo := pool [(1, .class_ 2), (0, u "java/lang/Comparable"), (0, .class_ 4), (0, u "java/lang/Object")] 7

/-- java/lang/Comparable -/
def k3 : Class := { plain "java/lang/Comparable" (some 0) with
  accessFlags := 1537
  interfaces := #[]
  cf := some (fileOf pool3 1 #[] #[] 1537 3 #[] #[])
  fields := #[]
  methods := #[]
  instanceTypes := #[]
  staticTypes := #[]
  resolved := Array.replicate 12 none
  statics := none }

def pool4 : Array CpInfo := pool [(1, .class_ 2), (0, u "java/io/Serializable"), (0, .class_ 4), (0, u "java/lang/Object")] 2

/-- java/io/Serializable -/
def k4 : Class := { plain "java/io/Serializable" (some 0) with
  accessFlags := 1537
  interfaces := #[]
  cf := some (fileOf pool4 1 #[] #[] 1537 3 #[] #[])
  fields := #[]
  methods := #[]
  instanceTypes := #[]
  staticTypes := #[]
  resolved := Array.replicate 7 none
  statics := none }

def pool5 : Array CpInfo := pool [(2, .class_ 4), (1, u "java/lang/Enum"), (0, u "name"), (0, u "Ljava/lang/String;"), (2, u "ordinal"), (0, u "I"), (1, .class_ 14), (1, u "java/lang/Object"), (4, u "hash"), (86, .class_ 108), (1, u "java/lang/Enum$EnumDesc"), (2, .class_ 112), (0, u "java/lang/constant/Constable"), (0, .class_ 114), (0, u "java/lang/Comparable"), (0, .class_ 116), (0, u "java/io/Serializable")] 87

/-- java/lang/Enum -/
def k5 : Class := { plain "java/lang/Enum" (some 0) with
  accessFlags := 1057
  interfaces := #[2, 3, 4]
  cf := some (fileOf pool5 2 #[.nestMembers #[106]] #[] 1057 12 #[111, 113, 115] #[{ accessFlags := 18, nameIndex := 5, descriptorIndex := 6, attributes := #[] }, { accessFlags := 18, nameIndex := 9, descriptorIndex := 10, attributes := #[] }, { accessFlags := 2, nameIndex := 19, descriptorIndex := 10, attributes := #[] }])
  fields := #[{ name := "name", type := (.object "java/lang/String"), accessFlags := 18, slot := 0, constantValue := 0 }, { name := "ordinal", type := .int, accessFlags := 18, slot := 1, constantValue := 0 }, { name := "hash", type := .int, accessFlags := 2, slot := 2, constantValue := 0 }]
  methods := #[]
  instanceTypes := #[(.object "java/lang/String"), .int, .int]
  staticTypes := #[]
  resolved := Array.replicate 204 none
  statics := none }

def pool6 : Array CpInfo := pool [(1, .class_ 2), (0, u "com/example/dosewright/dosewright/FhirVersion"), (2, u "STU3"), (0, u "Lcom/example/dosewright/dosewright/FhirVersion;"), (2, u "R4"), (2, u "$VALUES"), (0, u "[Lcom/example/dosewright/dosewright/FhirVersion;"), (6, .class_ 22), (1, u "java/lang/Enum")] 57

/-- com/example/dosewright/dosewright/FhirVersion -/
def k6 : Class := { plain "com/example/dosewright/dosewright/FhirVersion" (some 5) with
  accessFlags := 16433
  interfaces := #[]
  cf := some (fileOf pool6 1 #[] #[] 16433 20 #[] #[{ accessFlags := 16409, nameIndex := 5, descriptorIndex := 6, attributes := #[] }, { accessFlags := 16409, nameIndex := 9, descriptorIndex := 6, attributes := #[] }, { accessFlags := 4122, nameIndex := 12, descriptorIndex := 13, attributes := #[] }])
  fields := #[{ name := "STU3", type := (.object "com/example/dosewright/dosewright/FhirVersion"), accessFlags := 16409, slot := 0, constantValue := 0 }, { name := "R4", type := (.object "com/example/dosewright/dosewright/FhirVersion"), accessFlags := 16409, slot := 1, constantValue := 0 }, { name := "$VALUES", type := (.array (.object "com/example/dosewright/dosewright/FhirVersion")), accessFlags := 4122, slot := 2, constantValue := 0 }]
  methods := #[]
  instanceTypes := #[(.object "java/lang/String"), .int, .int]
  staticTypes := #[(.object "com/example/dosewright/dosewright/FhirVersion"), (.object "com/example/dosewright/dosewright/FhirVersion"), (.array (.object "com/example/dosewright/dosewright/FhirVersion"))]
  resolved := Array.replicate 80 none
  statics := some 0 }

def pool7 : Array CpInfo := pool [(1, .class_ 2), (0, u "com/example/dosewright/dosewright/DateStyle"), (2, u "DMY"), (0, u "Lcom/example/dosewright/dosewright/DateStyle;"), (2, u "ISO"), (2, u "DMMMY"), (2, u "$VALUES"), (0, u "[Lcom/example/dosewright/dosewright/DateStyle;"), (6, .class_ 25), (1, u "java/lang/Enum"), (8, u "separator"), (0, u "Ljava/lang/String;"), (2, u "yearFirst"), (0, u "Z"), (2, u "monthName"), (11, u "MONTHS"), (0, u "Ljava/util/List;")] 88

/-- com/example/dosewright/dosewright/DateStyle -/
def k7 : Class := { plain "com/example/dosewright/dosewright/DateStyle" (some 5) with
  accessFlags := 16433
  interfaces := #[]
  cf := some (fileOf pool7 1 #[] #[] 16433 23 #[] #[{ accessFlags := 16409, nameIndex := 5, descriptorIndex := 6, attributes := #[] }, { accessFlags := 16409, nameIndex := 9, descriptorIndex := 6, attributes := #[] }, { accessFlags := 16409, nameIndex := 12, descriptorIndex := 6, attributes := #[] }, { accessFlags := 26, nameIndex := 54, descriptorIndex := 55, attributes := #[] }, { accessFlags := 18, nameIndex := 34, descriptorIndex := 35, attributes := #[] }, { accessFlags := 18, nameIndex := 38, descriptorIndex := 39, attributes := #[] }, { accessFlags := 18, nameIndex := 42, descriptorIndex := 39, attributes := #[] }, { accessFlags := 4122, nameIndex := 15, descriptorIndex := 16, attributes := #[] }])
  fields := #[{ name := "DMY", type := (.object "com/example/dosewright/dosewright/DateStyle"), accessFlags := 16409, slot := 0, constantValue := 0 }, { name := "ISO", type := (.object "com/example/dosewright/dosewright/DateStyle"), accessFlags := 16409, slot := 1, constantValue := 0 }, { name := "DMMMY", type := (.object "com/example/dosewright/dosewright/DateStyle"), accessFlags := 16409, slot := 2, constantValue := 0 }, { name := "MONTHS", type := (.object "java/util/List"), accessFlags := 26, slot := 3, constantValue := 0 }, { name := "separator", type := (.object "java/lang/String"), accessFlags := 18, slot := 3, constantValue := 0 }, { name := "yearFirst", type := .boolean, accessFlags := 18, slot := 4, constantValue := 0 }, { name := "monthName", type := .boolean, accessFlags := 18, slot := 5, constantValue := 0 }, { name := "$VALUES", type := (.array (.object "com/example/dosewright/dosewright/DateStyle")), accessFlags := 4122, slot := 4, constantValue := 0 }]
  methods := #[]
  instanceTypes := #[(.object "java/lang/String"), .int, .int, (.object "java/lang/String"), .boolean, .boolean]
  staticTypes := #[(.object "com/example/dosewright/dosewright/DateStyle"), (.object "com/example/dosewright/dosewright/DateStyle"), (.object "com/example/dosewright/dosewright/DateStyle"), (.object "java/util/List"), (.array (.object "com/example/dosewright/dosewright/DateStyle"))]
  resolved := Array.replicate 144 none
  statics := some 1 }

def pool8 : Array CpInfo := pool [(1, .class_ 2), (0, u "com/example/dosewright/dosewright/LineKind"), (2, u "DOSAGE"), (0, u "Lcom/example/dosewright/dosewright/LineKind;"), (2, u "MEDICATION"), (2, u "$VALUES"), (0, u "[Lcom/example/dosewright/dosewright/LineKind;"), (6, .class_ 22), (1, u "java/lang/Enum")] 24

/-- com/example/dosewright/dosewright/LineKind -/
def k8 : Class := { plain "com/example/dosewright/dosewright/LineKind" (some 5) with
  accessFlags := 16433
  interfaces := #[]
  cf := some (fileOf pool8 1 #[] #[] 16433 20 #[] #[{ accessFlags := 16409, nameIndex := 5, descriptorIndex := 6, attributes := #[] }, { accessFlags := 16409, nameIndex := 9, descriptorIndex := 6, attributes := #[] }, { accessFlags := 4122, nameIndex := 12, descriptorIndex := 13, attributes := #[] }])
  fields := #[{ name := "DOSAGE", type := (.object "com/example/dosewright/dosewright/LineKind"), accessFlags := 16409, slot := 0, constantValue := 0 }, { name := "MEDICATION", type := (.object "com/example/dosewright/dosewright/LineKind"), accessFlags := 16409, slot := 1, constantValue := 0 }, { name := "$VALUES", type := (.array (.object "com/example/dosewright/dosewright/LineKind")), accessFlags := 4122, slot := 2, constantValue := 0 }]
  methods := #[]
  instanceTypes := #[(.object "java/lang/String"), .int, .int]
  staticTypes := #[(.object "com/example/dosewright/dosewright/LineKind"), (.object "com/example/dosewright/dosewright/LineKind"), (.array (.object "com/example/dosewright/dosewright/LineKind"))]
  resolved := Array.replicate 47 none
  statics := some 2 }

def pool9 : Array CpInfo := pool [(1, .methodref 2 3), (0, .class_ 4), (0, .nameAndType 5 6), (0, u "java/lang/Object"), (0, u "<init>"), (0, u "()V"), (0, .class_ 8), (0, u "java/lang/Record")] 13

def k9c0 : Code := { maxStack := 1, maxLocals := 1, code := jdk_30_method_1_code, exceptionTable := #[], attributes := #[] }
def k9m0 : Method := { name := "<init>", desc := "()V", sig := { parameters := [], returnType := none }, accessFlags := 4, code := some k9c0 }
/-- java/lang/Record -/
def k9 : Class := { plain "java/lang/Record" (some 0) with
  accessFlags := 1057
  interfaces := #[]
  cf := some (fileOf pool9 7 #[] #[{ accessFlags := 4, nameIndex := 5, descriptorIndex := 6, attributes := #[] }] 1057 2 #[] #[])
  fields := #[]
  methods := #[k9m0]
  instanceTypes := #[]
  staticTypes := #[]
  resolved := Array.replicate 22 none
  statics := none }

def pool10 : Array CpInfo := pool [(1, .methodref 2 3), (0, .class_ 4), (0, .nameAndType 5 6), (0, u "java/lang/Record"), (0, u "<init>"), (0, u "()V"), (0, .string 8), (0, u "fhirVersion"), (0, .methodref 10 11), (0, .class_ 12), (0, .nameAndType 13 14), (0, u "java/util/Objects"), (0, u "requireNonNull"), (0, u "(Ljava/lang/Object;Ljava/lang/String;)Ljava/lang/Object;"), (0, .string 16), (0, u "dateStyle"), (0, .string 18), (0, u "lineKind"), (0, .fieldref 20 21), (0, .class_ 22), (0, .nameAndType 8 23), (0, u "com/example/dosewright/dosewright/RenderOptions"), (0, u "Lcom/example/dosewright/dosewright/FhirVersion;"), (0, .fieldref 20 25), (0, .nameAndType 16 26), (0, u "Lcom/example/dosewright/dosewright/DateStyle;"), (0, .fieldref 20 28), (0, .nameAndType 18 29), (0, u "Lcom/example/dosewright/dosewright/LineKind;"), (0, .methodref 20 31), (0, .nameAndType 5 32), (0, u "(Lcom/example/dosewright/dosewright/FhirVersion;Lcom/example/dosewright/dosewright/DateStyle;Lcom/example/dosewright/dosewright/LineKind;)V"), (29, u "DEFAULT"), (0, u "Lcom/example/dosewright/dosewright/RenderOptions;"), (3, u "withFhirVersion"), (0, u "(Lcom/example/dosewright/dosewright/FhirVersion;)Lcom/example/dosewright/dosewright/RenderOptions;"), (7, u "()Lcom/example/dosewright/dosewright/FhirVersion;"), (0, u "()Lcom/example/dosewright/dosewright/DateStyle;"), (0, u "()Lcom/example/dosewright/dosewright/LineKind;")] 23

def k10c0 : Code := { maxStack := 2, maxLocals := 4, code := prog_24_method_1_code, exceptionTable := #[], attributes := #[] }
def k10m0 : Method := { name := "<init>", desc := "(Lcom/example/dosewright/dosewright/FhirVersion;Lcom/example/dosewright/dosewright/DateStyle;Lcom/example/dosewright/dosewright/LineKind;)V", sig := { parameters := [(.object "com/example/dosewright/dosewright/FhirVersion"), (.object "com/example/dosewright/dosewright/DateStyle"), (.object "com/example/dosewright/dosewright/LineKind")], returnType := none }, accessFlags := 1, code := some k10c0 }
def k10c1 : Code := { maxStack := 5, maxLocals := 2, code := prog_24_method_2_code, exceptionTable := #[], attributes := #[] }
def k10m1 : Method := { name := "withFhirVersion", desc := "(Lcom/example/dosewright/dosewright/FhirVersion;)Lcom/example/dosewright/dosewright/RenderOptions;", sig := { parameters := [(.object "com/example/dosewright/dosewright/FhirVersion")], returnType := some (.object "com/example/dosewright/dosewright/RenderOptions") }, accessFlags := 1, code := some k10c1 }
def k10c2 : Code := { maxStack := 1, maxLocals := 1, code := prog_24_method_8_code, exceptionTable := #[], attributes := #[] }
def k10m2 : Method := { name := "fhirVersion", desc := "()Lcom/example/dosewright/dosewright/FhirVersion;", sig := { parameters := [], returnType := some (.object "com/example/dosewright/dosewright/FhirVersion") }, accessFlags := 1, code := some k10c2 }
def k10c3 : Code := { maxStack := 1, maxLocals := 1, code := prog_24_method_9_code, exceptionTable := #[], attributes := #[] }
def k10m3 : Method := { name := "dateStyle", desc := "()Lcom/example/dosewright/dosewright/DateStyle;", sig := { parameters := [], returnType := some (.object "com/example/dosewright/dosewright/DateStyle") }, accessFlags := 1, code := some k10c3 }
def k10c4 : Code := { maxStack := 1, maxLocals := 1, code := prog_24_method_10_code, exceptionTable := #[], attributes := #[] }
def k10m4 : Method := { name := "lineKind", desc := "()Lcom/example/dosewright/dosewright/LineKind;", sig := { parameters := [], returnType := some (.object "com/example/dosewright/dosewright/LineKind") }, accessFlags := 1, code := some k10c4 }
/-- com/example/dosewright/dosewright/RenderOptions -/
def k10 : Class := { plain "com/example/dosewright/dosewright/RenderOptions" (some 9) with
  accessFlags := 49
  interfaces := #[]
  cf := some (fileOf pool10 20 #[] #[{ accessFlags := 1, nameIndex := 5, descriptorIndex := 32, attributes := #[] }, { accessFlags := 1, nameIndex := 67, descriptorIndex := 68, attributes := #[] }, { accessFlags := 1, nameIndex := 8, descriptorIndex := 76, attributes := #[] }, { accessFlags := 1, nameIndex := 16, descriptorIndex := 77, attributes := #[] }, { accessFlags := 1, nameIndex := 18, descriptorIndex := 78, attributes := #[] }] 49 2 #[] #[{ accessFlags := 18, nameIndex := 8, descriptorIndex := 23, attributes := #[] }, { accessFlags := 18, nameIndex := 16, descriptorIndex := 26, attributes := #[] }, { accessFlags := 18, nameIndex := 18, descriptorIndex := 29, attributes := #[] }, { accessFlags := 25, nameIndex := 62, descriptorIndex := 63, attributes := #[] }])
  fields := #[{ name := "fhirVersion", type := (.object "com/example/dosewright/dosewright/FhirVersion"), accessFlags := 18, slot := 0, constantValue := 0 }, { name := "dateStyle", type := (.object "com/example/dosewright/dosewright/DateStyle"), accessFlags := 18, slot := 1, constantValue := 0 }, { name := "lineKind", type := (.object "com/example/dosewright/dosewright/LineKind"), accessFlags := 18, slot := 2, constantValue := 0 }, { name := "DEFAULT", type := (.object "com/example/dosewright/dosewright/RenderOptions"), accessFlags := 25, slot := 0, constantValue := 0 }]
  methods := #[k10m0, k10m1, k10m2, k10m3, k10m4]
  instanceTypes := #[(.object "com/example/dosewright/dosewright/FhirVersion"), (.object "com/example/dosewright/dosewright/DateStyle"), (.object "com/example/dosewright/dosewright/LineKind")]
  staticTypes := #[(.object "com/example/dosewright/dosewright/RenderOptions")]
  resolved := Array.replicate 102 none
  statics := none }

def pool11 : Array CpInfo := pool [(2, .class_ 4), (1, u "java/lang/CharSequence"), (42, .class_ 48), (0, u "java/lang/CharSequence$1CodePointIterator"), (10, .class_ 60), (0, u "java/lang/CharSequence$1CharIterator"), (5, .class_ 67), (0, u "java/lang/Object")] 63

/-- java/lang/CharSequence -/
def k11 : Class := { plain "java/lang/CharSequence" (some 0) with
  accessFlags := 1537
  interfaces := #[]
  cf := some (fileOf pool11 2 #[.nestMembers #[47, 59]] #[] 1537 66 #[] #[])
  fields := #[]
  methods := #[]
  instanceTypes := #[]
  staticTypes := #[]
  resolved := Array.replicate 131 none
  statics := none }

def pool12 : Array CpInfo := pool [(1, .class_ 2), (0, u "java/lang/constant/ConstantDesc"), (0, .class_ 4), (0, u "java/lang/Object")] 32

/-- java/lang/constant/ConstantDesc -/
def k12 : Class := { plain "java/lang/constant/ConstantDesc" (some 0) with
  accessFlags := 1537
  interfaces := #[]
  cf := some (fileOf pool12 1 #[] #[] 1537 3 #[] #[])
  fields := #[]
  methods := #[]
  instanceTypes := #[]
  staticTypes := #[]
  resolved := Array.replicate 37 none
  statics := none }

def pool13 : Array CpInfo := pool [(2, .class_ 4), (1, u "java/lang/Object"), (0, u "<init>"), (0, u "()V"), (3, .class_ 12), (1, u "java/lang/String"), (0, u "value"), (0, u "[B"), (2, u "coder"), (0, u "B"), (2, u "hash"), (0, u "I"), (2, u "hashIsZero"), (0, u "Z"), (13, u "COMPACT_STRINGS"), (534, .class_ 576), (0, u "java/lang/CharSequence"), (22, u "CASE_INSENSITIVE_ORDER"), (0, u "Ljava/util/Comparator;"), (500, u "serialPersistentFields"), (0, u "[Ljava/io/ObjectStreamField;"), (0, .class_ 1104), (0, u "java/lang/String$CaseInsensitiveComparator"), (1, .class_ 1107), (0, u "java/io/Serializable"), (0, .class_ 1109), (0, u "java/lang/Comparable"), (0, .class_ 1111), (0, u "java/lang/constant/Constable"), (0, .class_ 1113), (0, u "java/lang/constant/ConstantDesc"), (2, u "serialVersionUID"), (0, u "J"), (3, u "REPL"), (0, u "C"), (2, u "LATIN1"), (1, u "UTF16")] 323

def k13m0 : Method := { name := "<init>", desc := "()V", sig := { parameters := [], returnType := none }, accessFlags := 1, code := none }
/-- java/lang/String -/
def k13 : Class := { plain "java/lang/String" (some 0) with
  accessFlags := 49
  interfaces := #[4, 3, 11, 2, 12]
  cf := some (fileOf pool13 10 #[.nestMembers #[1103]] #[{ accessFlags := 1, nameIndex := 5, descriptorIndex := 6, attributes := #[] }] 49 2 #[1106, 1108, 575, 1110, 1112] #[{ accessFlags := 18, nameIndex := 13, descriptorIndex := 14, attributes := #[] }, { accessFlags := 18, nameIndex := 17, descriptorIndex := 18, attributes := #[] }, { accessFlags := 2, nameIndex := 21, descriptorIndex := 22, attributes := #[] }, { accessFlags := 2, nameIndex := 25, descriptorIndex := 26, attributes := #[] }, { accessFlags := 26, nameIndex := 1116, descriptorIndex := 1117, attributes := #[] }, { accessFlags := 24, nameIndex := 40, descriptorIndex := 26, attributes := #[] }, { accessFlags := 26, nameIndex := 1101, descriptorIndex := 1102, attributes := #[] }, { accessFlags := 26, nameIndex := 1121, descriptorIndex := 1122, attributes := #[] }, { accessFlags := 25, nameIndex := 599, descriptorIndex := 600, attributes := #[] }, { accessFlags := 24, nameIndex := 1125, descriptorIndex := 18, attributes := #[] }, { accessFlags := 24, nameIndex := 1127, descriptorIndex := 18, attributes := #[] }])
  fields := #[{ name := "value", type := (.array .byte), accessFlags := 18, slot := 0, constantValue := 0 }, { name := "coder", type := .byte, accessFlags := 18, slot := 1, constantValue := 0 }, { name := "hash", type := .int, accessFlags := 2, slot := 2, constantValue := 0 }, { name := "hashIsZero", type := .boolean, accessFlags := 2, slot := 3, constantValue := 0 }, { name := "serialVersionUID", type := .long, accessFlags := 26, slot := 0, constantValue := 0 }, { name := "COMPACT_STRINGS", type := .boolean, accessFlags := 24, slot := 1, constantValue := 0 }, { name := "serialPersistentFields", type := (.array (.object "java/io/ObjectStreamField")), accessFlags := 26, slot := 2, constantValue := 0 }, { name := "REPL", type := .char, accessFlags := 26, slot := 3, constantValue := 0 }, { name := "CASE_INSENSITIVE_ORDER", type := (.object "java/util/Comparator"), accessFlags := 25, slot := 4, constantValue := 0 }, { name := "LATIN1", type := .byte, accessFlags := 24, slot := 5, constantValue := 0 }, { name := "UTF16", type := .byte, accessFlags := 24, slot := 6, constantValue := 0 }]
  methods := #[k13m0]
  instanceTypes := #[(.array .byte), .byte, .int, .boolean]
  staticTypes := #[.long, .boolean, (.array (.object "java/io/ObjectStreamField")), .char, (.object "java/util/Comparator"), .byte, .byte]
  resolved := Array.replicate 1451 none
  statics := none }

def pool14 : Array CpInfo := pool [(2, .class_ 4), (1, u "java/lang/Object"), (0, u "<init>"), (0, u "()V"), (35, .class_ 44), (1, u "java/util/Objects"), (0, u "requireNonNull"), (48, u "(Ljava/lang/Object;Ljava/lang/String;)Ljava/lang/Object;")] 89

def k14m0 : Method := { name := "<init>", desc := "()V", sig := { parameters := [], returnType := none }, accessFlags := 2, code := none }
def k14c1 : Code := { maxStack := 3, maxLocals := 2, code := jdk_31_method_11_code, exceptionTable := #[], attributes := #[] }
def k14m1 : Method := { name := "requireNonNull", desc := "(Ljava/lang/Object;Ljava/lang/String;)Ljava/lang/Object;", sig := { parameters := [(.object "java/lang/Object"), (.object "java/lang/String")], returnType := some (.object "java/lang/Object") }, accessFlags := 9, code := some k14c1 }
/-- java/util/Objects -/
def k14 : Class := { plain "java/util/Objects" (some 0) with
  accessFlags := 49
  interfaces := #[]
  cf := some (fileOf pool14 42 #[] #[{ accessFlags := 2, nameIndex := 5, descriptorIndex := 6, attributes := #[] }, { accessFlags := 9, nameIndex := 45, descriptorIndex := 94, attributes := #[] }] 49 2 #[] #[])
  fields := #[]
  methods := #[k14m0, k14m1]
  instanceTypes := #[]
  staticTypes := #[]
  resolved := Array.replicate 184 none
  statics := none }

def pool15 : Array CpInfo := pool [(1, u "java/lang/Cloneable"), (0, .class_ 1), (0, u "java/lang/Object"), (0, .class_ 3)] 3

/-- java/lang/Cloneable -/
def k15 : Class := { plain "java/lang/Cloneable" (some 0) with
  accessFlags := 1537
  interfaces := #[]
  cf := some (fileOf pool15 2 #[] #[] 1537 4 #[] #[])
  fields := #[]
  methods := #[]
  instanceTypes := #[]
  staticTypes := #[]
  resolved := Array.replicate 8 none
  statics := none }

/-- the primitive byte -/
def k16 : Class := { plain "byte" none with kind := .primitive 'B', accessFlags := 0x411 }
/-- [B -/
def k17 : Class := { plain "[B" (some 0) with kind := .array 16 .byte, interfaces := #[15, 4], accessFlags := 1041 }

/-- the primitive int -/
def k18 : Class := { plain "int" none with kind := .primitive 'I', accessFlags := 0x411 }
/-- [I -/
def k19 : Class := { plain "[I" (some 0) with kind := .array 18 .int, interfaces := #[15, 4], accessFlags := 1041 }

def heap : Heap := #[{ cls := 6, slots := #[.ref 3, .ref 6, .null], vm := .statics 6 },
  { cls := 7, slots := #[.ref 4, .ref 7, .ref 9, .null, .null], vm := .statics 7 },
  { cls := 8, slots := #[.ref 5, .ref 8, .null], vm := .statics 8 },
  { cls := 6, slots := #[.null, .int 0, .int 0], vm := .none },
  { cls := 7, slots := #[.null, .int 1, .int 0, .null, .int 0, .int 0], vm := .none },
  { cls := 8, slots := #[.null, .int 2, .int 0], vm := .none },
  { cls := 6, slots := #[.null, .int 3, .int 0], vm := .none },
  { cls := 7, slots := #[.null, .int 4, .int 0, .null, .int 0, .int 0], vm := .none },
  { cls := 8, slots := #[.null, .int 5, .int 0], vm := .none },
  { cls := 7, slots := #[.null, .int 6, .int 0, .null, .int 0, .int 0], vm := .none }]
def classes : Array Class := #[k0, k1, k2, k3, k4, k5, k6, k7, k8, k9, k10, k11, k12, k13, k14, k15, k16, k17, k18, k19]
def interned : List (Array UInt16 × Addr) := []
def slotsUsed : Nat := 41
def theMethod : MethodId := ⟨1, 4⟩
def args0 : Array Value := #[.int 5, .int 6, .int 7, .int 8]
def aboutOver (below : List Frame) : State where
  vm := { classes := classes, interned := interned.toArray }
  heap := heap
  slotsUsed := slotsUsed
  threads := #[{ frames := .invoking theMethod args0 :: below }]
def below0 : List Frame := [.native { method := ⟨0, 0⟩, args := #[] }]
def about1 : State := aboutOver below0
def p0 : Program := .bare "" "" ""
def e0 : Env := launch0.env 0 0 0
theorem w_frames : about1.frames = Frame.invoking theMethod args0 :: below0 := rfl
set_option maxRecDepth 65536 in
theorem w_args : argsFit about1.vm theMethod args0 = true := by decide +kernel
set_option maxRecDepth 65536 in
theorem w_heap : heapFits about1 = true := by decide +kernel
set_option maxRecDepth 65536 in
theorem w_runnable : about1.curStatus? = some .runnable := by decide +kernel
set_option maxRecDepth 65536 in
theorem w_alone : about1.alone = true := by decide +kernel
set_option maxRecDepth 65536 in
theorem w_named : about1.methodNamed? x = some theMethod := by decide +kernel
set_option maxRecDepth 65536 in
theorem w_hears : about1.hears theMethod below0 = true := by decide +kernel
set_option maxRecDepth 65536 in
theorem w_ripe : about1.ripe theMethod args0 below0 = true := by decide +kernel
theorem w_running : about1.status = .running := rfl
set_option maxRecDepth 65536 in
theorem w_room : about1.hasRoom e0.platform room_1 = true :=
  launch0.hasRoom_least _ room_1 (by decide +kernel) (by decide +kernel) (by decide +kernel) (by decide +kernel) (by decide +kernel) (by decide +kernel)
theorem allAtoms_all (ts : List Jvm.Cond) (a : Array Jvm.Value) (st : Jvm.State) : (allAtoms ts).before a st = ts.all (fun c => c.before a st) := by
  induction ts with
  | nil => rfl
  | cons c t ih =>
    show (Jvm.Cond.and c (allAtoms t)).before a st = _
    rw [Jvm.Cond.before_and, ih, List.all_cons]
def words1 : List Jvm.Cond := Jvm.Cond.code x code maxLocals ret :: tables_1
/-- a 'code' word, met by the world's own term for the bytes: nothing is compared byte by byte -/
theorem code_word {y : MethodName} {bytes : ByteArray} {mx : Nat} {rt : Option FieldType} {a : Array Value} {s : State} {m : MethodId} {meth : Method} {c : Code} (h1 : s.methodNamed? y = some m) (h2 : s.vm.method? m = some meth) (h3 : meth.code = some c) (h4 : c.code = bytes)
    (h5 : (c.maxLocals == mx && c.exceptionTable.isEmpty && decide (c.maxStack ≤ mostOperands) && decide (meth.sig.returnType = rt) && !meth.locks && decide (parseMethodDescriptor y.desc = some meth.sig)) = true) : (Jvm.Cond.code y bytes mx rt).before a s = true := by
  simp only [Bool.and_eq_true, beq_iff_eq, Bool.not_eq_true', decide_eq_true_eq] at h5
  obtain ⟨⟨⟨⟨⟨g1, g2⟩, g3⟩, g4⟩, g5⟩, g6⟩ := h5
  simp [Cond.before, Cond.holds, Cond.value, h1, h2, h3, h4, g1, g2, g3, g4, g5, g6]
def isCode : Jvm.Cond → Bool
  | .code _ _ _ _ => true
  | _ => false
theorem all_split {L : List Jvm.Cond} {P : Jvm.Cond → Bool} (h1 : L.all (fun c => isCode c || P c) = true) (h2 : ∀ c ∈ L.filter isCode, P c = true) : L.all P = true := by
  refine List.all_eq_true.mpr fun c hc => ?_
  have h := List.all_eq_true.mp h1 c hc
  rcases Bool.eq_false_or_eq_true (isCode c) with hi | hi
  · exact h2 c (List.mem_filter.mpr ⟨hc, hi⟩)
  · simpa [hi] using h
set_option maxRecDepth 65536 in
theorem w_c0 : (Jvm.Cond.code x code maxLocals ret).before args0 about1 = true := code_word (m := ⟨1, 4⟩) (meth := k1m4) (c := k1c4) (by decide +kernel) rfl rfl rfl (by decide +kernel)
set_option maxRecDepth 65536 in
theorem w_c1 : (Jvm.Cond.code ({ cls := "com/example/dosewright/dosewright/RenderOptionsWithFhirVersionPinLaw", name := "version", desc := "(I)Lcom/example/dosewright/dosewright/FhirVersion;" } : Jvm.MethodName) method_2_code (1 : Nat) (Option.some (Jvm.ClassFile.FieldType.object "com/example/dosewright/dosewright/FhirVersion"))).before args0 about1 = true := code_word (m := ⟨1, 1⟩) (meth := k1m1) (c := k1c1) (by decide +kernel) rfl rfl rfl (by decide +kernel)
set_option maxRecDepth 65536 in
theorem w_c2 : (Jvm.Cond.code ({ cls := "com/example/dosewright/dosewright/RenderOptionsWithFhirVersionPinLaw", name := "style", desc := "(I)Lcom/example/dosewright/dosewright/DateStyle;" } : Jvm.MethodName) method_3_code (2 : Nat) (Option.some (Jvm.ClassFile.FieldType.object "com/example/dosewright/dosewright/DateStyle"))).before args0 about1 = true := code_word (m := ⟨1, 2⟩) (meth := k1m2) (c := k1c2) (by decide +kernel) rfl rfl rfl (by decide +kernel)
set_option maxRecDepth 65536 in
theorem w_c3 : (Jvm.Cond.code ({ cls := "com/example/dosewright/dosewright/RenderOptionsWithFhirVersionPinLaw", name := "kind", desc := "(I)Lcom/example/dosewright/dosewright/LineKind;" } : Jvm.MethodName) method_4_code (1 : Nat) (Option.some (Jvm.ClassFile.FieldType.object "com/example/dosewright/dosewright/LineKind"))).before args0 about1 = true := code_word (m := ⟨1, 3⟩) (meth := k1m3) (c := k1c3) (by decide +kernel) rfl rfl rfl (by decide +kernel)
set_option maxRecDepth 65536 in
theorem w_c4 : (Jvm.Cond.code ({ cls := "com/example/dosewright/dosewright/RenderOptions", name := "<init>", desc := "(Lcom/example/dosewright/dosewright/FhirVersion;Lcom/example/dosewright/dosewright/DateStyle;Lcom/example/dosewright/dosewright/LineKind;)V" } : Jvm.MethodName) prog_24_method_1_code (4 : Nat) (Option.none : Option Jvm.ClassFile.FieldType)).before args0 about1 = true := code_word (m := ⟨10, 0⟩) (meth := k10m0) (c := k10c0) (by decide +kernel) rfl rfl rfl (by decide +kernel)
set_option maxRecDepth 65536 in
theorem w_c5 : (Jvm.Cond.code ({ cls := "java/lang/Record", name := "<init>", desc := "()V" } : Jvm.MethodName) jdk_30_method_1_code (1 : Nat) (Option.none : Option Jvm.ClassFile.FieldType)).before args0 about1 = true := code_word (m := ⟨9, 0⟩) (meth := k9m0) (c := k9c0) (by decide +kernel) rfl rfl rfl (by decide +kernel)
set_option maxRecDepth 65536 in
theorem w_c6 : (Jvm.Cond.code ({ cls := "java/lang/Object", name := "<init>", desc := "()V" } : Jvm.MethodName) object_method_1_code (1 : Nat) (Option.none : Option Jvm.ClassFile.FieldType)).before args0 about1 = true := code_word (m := ⟨0, 0⟩) (meth := k0m0) (c := k0c0) (by decide +kernel) rfl rfl rfl (by decide +kernel)
set_option maxRecDepth 65536 in
theorem w_c7 : (Jvm.Cond.code ({ cls := "java/util/Objects", name := "requireNonNull", desc := "(Ljava/lang/Object;Ljava/lang/String;)Ljava/lang/Object;" } : Jvm.MethodName) jdk_31_method_11_code (2 : Nat) (Option.some (Jvm.ClassFile.FieldType.object "java/lang/Object"))).before args0 about1 = true := code_word (m := ⟨14, 1⟩) (meth := k14m1) (c := k14c1) (by decide +kernel) rfl rfl rfl (by decide +kernel)
set_option maxRecDepth 65536 in
theorem w_c8 : (Jvm.Cond.code ({ cls := "com/example/dosewright/dosewright/RenderOptions", name := "withFhirVersion", desc := "(Lcom/example/dosewright/dosewright/FhirVersion;)Lcom/example/dosewright/dosewright/RenderOptions;" } : Jvm.MethodName) prog_24_method_2_code (2 : Nat) (Option.some (Jvm.ClassFile.FieldType.object "com/example/dosewright/dosewright/RenderOptions"))).before args0 about1 = true := code_word (m := ⟨10, 1⟩) (meth := k10m1) (c := k10c1) (by decide +kernel) rfl rfl rfl (by decide +kernel)
set_option maxRecDepth 65536 in
theorem w_c9 : (Jvm.Cond.code ({ cls := "com/example/dosewright/dosewright/RenderOptions", name := "fhirVersion", desc := "()Lcom/example/dosewright/dosewright/FhirVersion;" } : Jvm.MethodName) prog_24_method_8_code (1 : Nat) (Option.some (Jvm.ClassFile.FieldType.object "com/example/dosewright/dosewright/FhirVersion"))).before args0 about1 = true := code_word (m := ⟨10, 2⟩) (meth := k10m2) (c := k10c2) (by decide +kernel) rfl rfl rfl (by decide +kernel)
set_option maxRecDepth 65536 in
theorem w_c10 : (Jvm.Cond.code ({ cls := "com/example/dosewright/dosewright/RenderOptions", name := "dateStyle", desc := "()Lcom/example/dosewright/dosewright/DateStyle;" } : Jvm.MethodName) prog_24_method_9_code (1 : Nat) (Option.some (Jvm.ClassFile.FieldType.object "com/example/dosewright/dosewright/DateStyle"))).before args0 about1 = true := code_word (m := ⟨10, 3⟩) (meth := k10m3) (c := k10c3) (by decide +kernel) rfl rfl rfl (by decide +kernel)
set_option maxRecDepth 65536 in
theorem w_c11 : (Jvm.Cond.code ({ cls := "com/example/dosewright/dosewright/RenderOptions", name := "lineKind", desc := "()Lcom/example/dosewright/dosewright/LineKind;" } : Jvm.MethodName) prog_24_method_10_code (1 : Nat) (Option.some (Jvm.ClassFile.FieldType.object "com/example/dosewright/dosewright/LineKind"))).before args0 about1 = true := code_word (m := ⟨10, 4⟩) (meth := k10m4) (c := k10c4) (by decide +kernel) rfl rfl rfl (by decide +kernel)
def codes1 : List Jvm.Cond := [Jvm.Cond.code x code maxLocals ret, Jvm.Cond.code ({ cls := "com/example/dosewright/dosewright/RenderOptionsWithFhirVersionPinLaw", name := "version", desc := "(I)Lcom/example/dosewright/dosewright/FhirVersion;" } : Jvm.MethodName) method_2_code (1 : Nat) (Option.some (Jvm.ClassFile.FieldType.object "com/example/dosewright/dosewright/FhirVersion")), Jvm.Cond.code ({ cls := "com/example/dosewright/dosewright/RenderOptionsWithFhirVersionPinLaw", name := "style", desc := "(I)Lcom/example/dosewright/dosewright/DateStyle;" } : Jvm.MethodName) method_3_code (2 : Nat) (Option.some (Jvm.ClassFile.FieldType.object "com/example/dosewright/dosewright/DateStyle")), Jvm.Cond.code ({ cls := "com/example/dosewright/dosewright/RenderOptionsWithFhirVersionPinLaw", name := "kind", desc := "(I)Lcom/example/dosewright/dosewright/LineKind;" } : Jvm.MethodName) method_4_code (1 : Nat) (Option.some (Jvm.ClassFile.FieldType.object "com/example/dosewright/dosewright/LineKind")), Jvm.Cond.code ({ cls := "com/example/dosewright/dosewright/RenderOptions", name := "<init>", desc := "(Lcom/example/dosewright/dosewright/FhirVersion;Lcom/example/dosewright/dosewright/DateStyle;Lcom/example/dosewright/dosewright/LineKind;)V" } : Jvm.MethodName) prog_24_method_1_code (4 : Nat) (Option.none : Option Jvm.ClassFile.FieldType), Jvm.Cond.code ({ cls := "java/lang/Record", name := "<init>", desc := "()V" } : Jvm.MethodName) jdk_30_method_1_code (1 : Nat) (Option.none : Option Jvm.ClassFile.FieldType), Jvm.Cond.code ({ cls := "java/lang/Object", name := "<init>", desc := "()V" } : Jvm.MethodName) object_method_1_code (1 : Nat) (Option.none : Option Jvm.ClassFile.FieldType), Jvm.Cond.code ({ cls := "java/util/Objects", name := "requireNonNull", desc := "(Ljava/lang/Object;Ljava/lang/String;)Ljava/lang/Object;" } : Jvm.MethodName) jdk_31_method_11_code (2 : Nat) (Option.some (Jvm.ClassFile.FieldType.object "java/lang/Object")), Jvm.Cond.code ({ cls := "com/example/dosewright/dosewright/RenderOptions", name := "withFhirVersion", desc := "(Lcom/example/dosewright/dosewright/FhirVersion;)Lcom/example/dosewright/dosewright/RenderOptions;" } : Jvm.MethodName) prog_24_method_2_code (2 : Nat) (Option.some (Jvm.ClassFile.FieldType.object "com/example/dosewright/dosewright/RenderOptions")), Jvm.Cond.code ({ cls := "com/example/dosewright/dosewright/RenderOptions", name := "fhirVersion", desc := "()Lcom/example/dosewright/dosewright/FhirVersion;" } : Jvm.MethodName) prog_24_method_8_code (1 : Nat) (Option.some (Jvm.ClassFile.FieldType.object "com/example/dosewright/dosewright/FhirVersion")), Jvm.Cond.code ({ cls := "com/example/dosewright/dosewright/RenderOptions", name := "dateStyle", desc := "()Lcom/example/dosewright/dosewright/DateStyle;" } : Jvm.MethodName) prog_24_method_9_code (1 : Nat) (Option.some (Jvm.ClassFile.FieldType.object "com/example/dosewright/dosewright/DateStyle")), Jvm.Cond.code ({ cls := "com/example/dosewright/dosewright/RenderOptions", name := "lineKind", desc := "()Lcom/example/dosewright/dosewright/LineKind;" } : Jvm.MethodName) prog_24_method_10_code (1 : Nat) (Option.some (Jvm.ClassFile.FieldType.object "com/example/dosewright/dosewright/LineKind"))]
set_option maxRecDepth 65536 in
theorem codes_eq : words1.filter isCode = codes1 := rfl
theorem w_codes : ∀ c ∈ words1.filter isCode, c.before args0 about1 = true := by
  rw [codes_eq]
  intro c hc
  simp only [codes1, List.mem_cons, List.not_mem_nil, or_false] at hc
  rcases hc with rfl | rfl | rfl | rfl | rfl | rfl | rfl | rfl | rfl | rfl | rfl | rfl
  · exact w_c0
  · exact w_c1
  · exact w_c2
  · exact w_c3
  · exact w_c4
  · exact w_c5
  · exact w_c6
  · exact w_c7
  · exact w_c8
  · exact w_c9
  · exact w_c10
  · exact w_c11
set_option maxRecDepth 65536 in
theorem w_t1 : (words1.take 24).all (fun c => isCode c || c.before args0 about1) = true := by decide +kernel
set_option maxRecDepth 65536 in
theorem w_t2 : ((words1.drop 24).take 24).all (fun c => isCode c || c.before args0 about1) = true := by decide +kernel
set_option maxRecDepth 65536 in
theorem w_t3 : (((words1.drop 24).drop 24).take 24).all (fun c => isCode c || c.before args0 about1) = true := by decide +kernel
set_option maxRecDepth 65536 in
theorem w_t4 : (((words1.drop 24).drop 24).drop 24).all (fun c => isCode c || c.before args0 about1) = true := by decide +kernel
theorem w_tables : (allAtoms (Jvm.Cond.code x code maxLocals ret :: tables_1)).before args0 about1 = true := by
  rw [allAtoms_all]
  show words1.all (fun c => c.before args0 about1) = true
  refine all_split ?_ w_codes
  rw [← List.take_append_drop 24 words1, List.all_append, w_t1, ← List.take_append_drop 24 (words1.drop 24), List.all_append, w_t2, ← List.take_append_drop 24 ((words1.drop 24).drop 24), List.all_append, w_t3, w_t4]
  rfl
set_option maxRecDepth 65536 in
theorem w_case : (Jvm.Cond.and given_1 narrow_1).before args0 about1 = true := by decide +kernel
theorem w_applies : (headSpec (Jvm.Cond.code x code maxLocals ret :: tables_1) room_1).applies x e0.platform about1 = true :=
  (Spec.applies_iff w_frames).mpr ⟨w_running, w_runnable, w_alone, w_named, w_hears, w_ripe, w_room, w_tables⟩
theorem atStart : AtStart classFile x code maxLocals ret World_1 tables_1 room_1 Calls_1 rest_1 Pre_1 launch0 p0 e0 about1 theMethod args0 below0 :=
  ⟨lists_1, trivial, launch0.admits_env _ _ _, launch0.least_env, fairChoices_fair.cas, fairChoices_fair.clock, w_frames, w_args, w_heap, w_applies, trivial, trivial, w_case⟩
end start1
theorem witness_1 : WitnessClaimed_1 := ⟨start1.p0, start1.e0, start1.about1, start1.theMethod, start1.args0, start1.below0, start1.atStart⟩
end Jvm.Pilot.@@N@@
