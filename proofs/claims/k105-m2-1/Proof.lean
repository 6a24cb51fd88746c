import JvmDerived
import JvmDerived.Pilot.@@N@@Statement
import JvmDerived.Pilot.@@N@@Code
set_option linter.unusedVariables false
set_option linter.unusedSimpArgs false
namespace Jvm.Pilot.@@N@@
open Jvm Jvm.ClassFile Sem Op Lib Jvm.Free Jvm.Stand Jvm.LawKit Jvm.RoadKit Bundle Jvm.Pilot.@@N@@.Jvm.D
theorem wd {d : Jvm.Cond} (i : Nat) (h : tables_1[i]? = some d) : d ∈ tables_1 := List.mem_of_getElem? h
def Go (tb : Tables) (e : Env) (below : List Frame) (S0 S : State) : Prop := ∀ t, Steps tb e below S t → Steps tb e below S0 t
theorem own_old_le {Z : State} {n0 : Nat} {h : Heap} (O : Old Z n0 h) : n0 ≤ h.size := O.1 ▸ O.2.1
theorem own_lcmp_self (x : Int64) : lcmpW x x = 0 := by rw [lcW, lc_eq]
theorem own_ne {Z : State} {h : Heap} {a b : Addr} {C n d : String} {i j : Int32} (F : Fld Z h a C n d (.int i)) (G : Fld Z h b C n d (.int j)) (q : i ≠ j) : a ≠ b := F.ne G fun e => q (Value.int.inj e)
theorem own_narrow_ref {v : Value} {n : String} (h : v.isRef = true) : narrow (.object n) v = v := by rcases ref_cases h with rfl | ⟨_, rfl⟩ <;> rfl
theorem own_fits_ref {v : Value} {n : String} (h : v.isRef = true) : fits (.object n) v = true := by rcases ref_cases h with rfl | ⟨_, rfl⟩ <;> rfl
theorem own_narrow_bool {z : Int32} (h : z = 0 ∨ z = 1) : narrow .boolean (.int z) = .int z := by rcases h with rfl | rfl <;> rfl
theorem own_fits_bool {z : Int32} (h : z = 0 ∨ z = 1) : fits .boolean (.int z) = true := by rcases h with rfl | rfl <;> rfl
def QV (w : Option Value) (h0 : Heap) (n0 : Nat) (v : Option Value) (h : Heap) (L : List Loc) : Prop := v = w ∧ Fr n0 L ∧ h = h0
def Q0 (n0 : Nat) (v : Option Value) (h : Heap) (L : List Loc) : Prop := v = some (.int (1 : Int32)) ∧ Fr n0 L
abbrev y_0 : MethodName := ⟨"java/lang/Record", "<init>", "()V"⟩
abbrev y_1 : MethodName := ⟨"com/example/stationgraph/stationgraph/station/PlannedChanges$Change", "<init>", "(Ljava/lang/String;Ljava/lang/String;IIZLcom/example/stationgraph/stationgraph/station/PathwayDirection;)V"⟩
abbrev y_2 : MethodName := ⟨"com/example/stationgraph/stationgraph/station/ChangeCoversPinLaw", "direction", "(I)Lcom/example/stationgraph/stationgraph/station/PathwayDirection;"⟩
abbrev y_3 : MethodName := ⟨"com/example/stationgraph/stationgraph/station/PlannedChanges$Change", "covers", "(I)Z"⟩
theorem d1_0 : decode method_2_code 0 = .ok (.iload_n 0, 1) := by decide +kernel
theorem d1_1 : decode method_2_code 1 = .ok (.iconst 3, 1) := by decide +kernel
theorem d1_2 : decode method_2_code 2 = .ok (.iand, 1) := by decide +kernel
theorem d1_3 : decode method_2_code 3 = .ok (.istore_n 1, 1) := by decide +kernel
theorem d1_4 : decode method_2_code 4 = .ok (.iload_n 1, 1) := by decide +kernel
theorem d1_5 : decode method_2_code 5 = .ok (.ifCond .ne 5, 3) := by decide +kernel
theorem d1_8 : decode method_2_code 8 = .ok (.aconst_null, 1) := by decide +kernel
theorem d1_9 : decode method_2_code 9 = .ok (.areturn, 1) := by decide +kernel
theorem d1_10 : decode method_2_code 10 = .ok (.iload_n 1, 1) := by decide +kernel
theorem d1_11 : decode method_2_code 11 = .ok (.iconst 1, 1) := by decide +kernel
theorem d1_12 : decode method_2_code 12 = .ok (.if_icmp .ne 7, 3) := by decide +kernel
theorem d1_15 : decode method_2_code 15 = .ok (.getstatic 7, 3) := by decide +kernel
theorem d1_18 : decode method_2_code 18 = .ok (.areturn, 1) := by decide +kernel
theorem d1_19 : decode method_2_code 19 = .ok (.iload_n 1, 1) := by decide +kernel
theorem d1_20 : decode method_2_code 20 = .ok (.iconst 2, 1) := by decide +kernel
theorem d1_21 : decode method_2_code 21 = .ok (.if_icmp .ne 7, 3) := by decide +kernel
theorem d1_24 : decode method_2_code 24 = .ok (.getstatic 13, 3) := by decide +kernel
theorem d1_27 : decode method_2_code 27 = .ok (.areturn, 1) := by decide +kernel
theorem d1_28 : decode method_2_code 28 = .ok (.getstatic 16, 3) := by decide +kernel
theorem d1_31 : decode method_2_code 31 = .ok (.areturn, 1) := by decide +kernel
theorem d2_0 : decode prog_69_method_1_code 0 = .ok (.aload_n 0, 1) := by decide +kernel
theorem d2_1 : decode prog_69_method_1_code 1 = .ok (.invokespecial 1, 3) := by decide +kernel
theorem d2_4 : decode prog_69_method_1_code 4 = .ok (.aload_n 0, 1) := by decide +kernel
theorem d2_5 : decode prog_69_method_1_code 5 = .ok (.aload_n 1, 1) := by decide +kernel
theorem d2_6 : decode prog_69_method_1_code 6 = .ok (.putfield 7, 3) := by decide +kernel
theorem d2_9 : decode prog_69_method_1_code 9 = .ok (.aload_n 0, 1) := by decide +kernel
theorem d2_10 : decode prog_69_method_1_code 10 = .ok (.aload_n 2, 1) := by decide +kernel
theorem d2_11 : decode prog_69_method_1_code 11 = .ok (.putfield 13, 3) := by decide +kernel
theorem d2_14 : decode prog_69_method_1_code 14 = .ok (.aload_n 0, 1) := by decide +kernel
theorem d2_15 : decode prog_69_method_1_code 15 = .ok (.iload_n 3, 1) := by decide +kernel
theorem d2_16 : decode prog_69_method_1_code 16 = .ok (.putfield 16, 3) := by decide +kernel
theorem d2_19 : decode prog_69_method_1_code 19 = .ok (.aload_n 0, 1) := by decide +kernel
theorem d2_20 : decode prog_69_method_1_code 20 = .ok (.iload 4, 2) := by decide +kernel
theorem d2_22 : decode prog_69_method_1_code 22 = .ok (.putfield 20, 3) := by decide +kernel
theorem d2_25 : decode prog_69_method_1_code 25 = .ok (.aload_n 0, 1) := by decide +kernel
theorem d2_26 : decode prog_69_method_1_code 26 = .ok (.iload 5, 2) := by decide +kernel
theorem d2_28 : decode prog_69_method_1_code 28 = .ok (.putfield 23, 3) := by decide +kernel
theorem d2_31 : decode prog_69_method_1_code 31 = .ok (.aload_n 0, 1) := by decide +kernel
theorem d2_32 : decode prog_69_method_1_code 32 = .ok (.aload 6, 2) := by decide +kernel
theorem d2_34 : decode prog_69_method_1_code 34 = .ok (.putfield 27, 3) := by decide +kernel
theorem d2_37 : decode prog_69_method_1_code 37 = .ok (.return_, 1) := by decide +kernel
theorem d3_0 : decode jdk_30_method_1_code 0 = .ok (.aload_n 0, 1) := by decide +kernel
theorem d3_1 : decode jdk_30_method_1_code 1 = .ok (.invokespecial 1, 3) := by decide +kernel
theorem d3_4 : decode jdk_30_method_1_code 4 = .ok (.return_, 1) := by decide +kernel
theorem d5_0 : decode prog_69_method_2_code 0 = .ok (.aload_n 0, 1) := by decide +kernel
theorem d5_1 : decode prog_69_method_2_code 1 = .ok (.getfield 16, 3) := by decide +kernel
theorem d5_4 : decode prog_69_method_2_code 4 = .ok (.iload_n 1, 1) := by decide +kernel
theorem d5_5 : decode prog_69_method_2_code 5 = .ok (.if_icmp .gt 15, 3) := by decide +kernel
theorem d5_8 : decode prog_69_method_2_code 8 = .ok (.iload_n 1, 1) := by decide +kernel
theorem d5_9 : decode prog_69_method_2_code 9 = .ok (.aload_n 0, 1) := by decide +kernel
theorem d5_10 : decode prog_69_method_2_code 10 = .ok (.getfield 20, 3) := by decide +kernel
theorem d5_13 : decode prog_69_method_2_code 13 = .ok (.if_icmp .ge 7, 3) := by decide +kernel
theorem d5_16 : decode prog_69_method_2_code 16 = .ok (.iconst 1, 1) := by decide +kernel
theorem d5_17 : decode prog_69_method_2_code 17 = .ok (.goto 4, 3) := by decide +kernel
theorem d5_20 : decode prog_69_method_2_code 20 = .ok (.iconst 0, 1) := by decide +kernel
theorem d5_21 : decode prog_69_method_2_code 21 = .ok (.ireturn, 1) := by decide +kernel
theorem pn_0 : plainName "java/lang/Record" = true := by first | (simp [plainName, overriddenIn]; done) | decide +kernel
theorem pn_1 : plainName "com/example/stationgraph/stationgraph/station/PlannedChanges$Change" = true := by first | (simp [plainName, overriddenIn]; done) | decide +kernel
theorem pn_2 : plainName "com/example/stationgraph/stationgraph/station/ChangeCoversPinLaw" = true := by first | (simp [plainName, overriddenIn]; done) | decide +kernel
theorem pd_0 : parseMethodDescriptor "()V" = some ⟨[], none⟩ := by decide +kernel
theorem pd_1 : parseMethodDescriptor "(I)Lcom/example/stationgraph/stationgraph/station/PathwayDirection;" = some ⟨[.int], some (.object "com/example/stationgraph/stationgraph/station/PathwayDirection")⟩ := by decide +kernel
theorem pd_2 : parseMethodDescriptor "(Ljava/lang/String;Ljava/lang/String;IIZLcom/example/stationgraph/stationgraph/station/PathwayDirection;)V" = some ⟨[(.object "java/lang/String"), (.object "java/lang/String"), .int, .int, .boolean, (.object "com/example/stationgraph/stationgraph/station/PathwayDirection")], none⟩ := by decide +kernel
theorem pd_3 : parseMethodDescriptor "(I)Z" = some ⟨[.int], some .boolean⟩ := by decide +kernel
theorem own_strs {Z : State} {a0 : Array Value} (hw : ∀ d ∈ tables_1, d.before a0 Z = true) : ∀ a ∈ Bundle.stringAtoms, a.before a0 Z = true := by
  intro a ha
  simp only [Bundle.stringAtoms, List.mem_cons, List.not_mem_nil, or_false] at ha
  rcases ha with rfl | rfl | rfl | rfl | rfl | rfl | rfl
  · exact (hw _ (wd 4 rfl))
  · exact (hw _ (wd 5 rfl))
  · exact (hw _ (wd 6 rfl))
  · exact (hw _ (wd 7 rfl))
  · exact (hw _ (wd 8 rfl))
  · exact (hw _ (wd 9 rfl))
  · exact (hw _ (wd 10 rfl))
theorem own_cases_4 {y : Int32} (h0 : 0 ≤ y.toInt) (h1 : y.toInt < 4) : y = 0 ∨ y = 1 ∨ y = 2 ∨ y = 3 := by
  have h : y.toInt = 0 ∨ y.toInt = 1 ∨ y.toInt = 2 ∨ y.toInt = 3 := by omega
  rcases h with h | h | h | h
  · exact (Or.inl (Int32.toInt_inj.mp (h.trans (show (0 : Int) = (0 : Int32).toInt from by decide))))
  · exact (Or.inr (Or.inl (Int32.toInt_inj.mp (h.trans (show (1 : Int) = (1 : Int32).toInt from by decide)))))
  · exact (Or.inr (Or.inr (Or.inl (Int32.toInt_inj.mp (h.trans (show (2 : Int) = (2 : Int32).toInt from by decide))))))
  · exact (Or.inr (Or.inr (Or.inr (Int32.toInt_inj.mp (h.trans (show (3 : Int) = (3 : Int32).toInt from by decide))))))
theorem own_mask_4 (x : Int32) : x &&& 3 = 0 ∨ x &&& 3 = 1 ∨ x &&& 3 = 2 ∨ x &&& 3 = 3 := by
  have h := c_and x 3 (by decide)
  have e : (3 : Int32).toInt = 3 := by decide
  exact own_cases_4 h.1 (by omega)
theorem own_sub64 (a b : Int32) : (a.toInt64 - b.toInt64).toInt = a.toInt - b.toInt := by
  have := a.toInt_lt; have := a.le_toInt; have := b.toInt_lt; have := b.le_toInt
  rw [Int64.toInt_sub, Int32.toInt_toInt64, Int32.toInt_toInt64]
  exact Int.bmod_eq_of_le (by omega) (by omega)
theorem own_sub_lt (a b : Int32) : lcmpW (a.toInt64 - b.toInt64) 0 < 0 ↔ a < b := by
  rw [lcW, lc_lt, Int64.lt_iff_toInt_lt, own_sub64, Int32.lt_iff_toInt_lt]
  have : (0 : Int64).toInt = 0 := rfl
  omega
theorem own_sub_gt (a b : Int32) : 0 < lcmpW (a.toInt64 - b.toInt64) 0 ↔ b < a := by
  rw [lcW, lc_gt, Int64.lt_iff_toInt_lt, own_sub64, Int32.lt_iff_toInt_lt]
  have : (0 : Int64).toInt = 0 := rfl
  omega
def Own (Z : State) (a_FORWARDS a_BOTH a_BACKWARDS : Addr) : Prop := Sta Z Z.heap "com/example/stationgraph/stationgraph/station/PathwayDirection" "FORWARDS" "Lcom/example/stationgraph/stationgraph/station/PathwayDirection;" (.ref a_FORWARDS) ∧ Exa Z Z.heap a_FORWARDS "com/example/stationgraph/stationgraph/station/PathwayDirection" ∧ Sta Z Z.heap "com/example/stationgraph/stationgraph/station/PathwayDirection" "BOTH" "Lcom/example/stationgraph/stationgraph/station/PathwayDirection;" (.ref a_BOTH) ∧ Exa Z Z.heap a_BOTH "com/example/stationgraph/stationgraph/station/PathwayDirection" ∧ Sta Z Z.heap "com/example/stationgraph/stationgraph/station/PathwayDirection" "BACKWARDS" "Lcom/example/stationgraph/stationgraph/station/PathwayDirection;" (.ref a_BACKWARDS) ∧ Exa Z Z.heap a_BACKWARDS "com/example/stationgraph/stationgraph/station/PathwayDirection"
theorem own_fld {args : Array Value} {s : State} {t : Term} {C n d : String} {a : Addr} {k : Int32} (ev : t.eval args s none [] s = some (.ref a)) (h : (Jvm.Cond.eq (.field t C n d) (.int k)).value args s none s [] = some true) : Fld s s.heap a C n d (.int k) := by
  refine Fld.start ?_
  obtain ⟨u, w, h1, h2, h3, h4⟩ := cmp_v (Or.inl h)
  have e2 : w = .int k := (Option.some.inj h2).symm
  subst e2
  obtain ⟨z, rfl⟩ := h4
  rw [fld_at ev] at h1
  rw [h1]
  have q : (Jvm.Cond.eq (.field t C n d) (.int k)).value args s none s [] = some (decide (z = k)) := by simp [Cond.value, Term.eval, ev, h1]
  have := gotT q h
  rw [this]
def QN (h0 : Heap) (n0 : Nat) (v : Option Value) (h : Heap) (L : List Loc) : Prop := ∃ w : Value, v = some w ∧ w.isRef = true ∧ Fr n0 L ∧ h = h0
def QI_r (Z : State) (a : Addr) (x0 : Addr) (x1 : Addr) (x2 : Int32) (x3 : Int32) (x4 : Int32) (x5 : Value) (h0 : Heap) (n0 : Nat) (v : Option Value) (h : Heap) (L : List Loc) : Prop := v = none ∧ Fr n0 L ∧ Keep h0 h [a] ∧ Fld Z h a "com/example/stationgraph/stationgraph/station/PlannedChanges$Change" "pathwayId" "Ljava/lang/String;" (.ref x0) ∧ Fld Z h a "com/example/stationgraph/stationgraph/station/PlannedChanges$Change" "serviceId" "Ljava/lang/String;" (.ref x1) ∧ Fld Z h a "com/example/stationgraph/stationgraph/station/PlannedChanges$Change" "start" "I" (.int x2) ∧ Fld Z h a "com/example/stationgraph/stationgraph/station/PlannedChanges$Change" "end" "I" (.int x3) ∧ Fld Z h a "com/example/stationgraph/stationgraph/station/PlannedChanges$Change" "closed" "Z" (.int x4) ∧ Fld Z h a "com/example/stationgraph/stationgraph/station/PlannedChanges$Change" "direction" "Lcom/example/stationgraph/stationgraph/station/PathwayDirection;" x5
def QM_r (Z : State) (x0 : Addr) (x1 : Addr) (x2 : Int32) (x3 : Int32) (x4 : Int32) (x5 : Value) (h0 : Heap) (n0 : Nat) (v : Option Value) (h : Heap) (L : List Loc) : Prop := ∃ b : Addr, v = some (.ref b) ∧ Fr n0 L ∧ Keep h0 h [] ∧ n0 ≤ b ∧ h0.size ≤ b ∧ Exa Z h b "com/example/stationgraph/stationgraph/station/PlannedChanges$Change" ∧ Fld Z h b "com/example/stationgraph/stationgraph/station/PlannedChanges$Change" "pathwayId" "Ljava/lang/String;" (.ref x0) ∧ Fld Z h b "com/example/stationgraph/stationgraph/station/PlannedChanges$Change" "serviceId" "Ljava/lang/String;" (.ref x1) ∧ Fld Z h b "com/example/stationgraph/stationgraph/station/PlannedChanges$Change" "start" "I" (.int x2) ∧ Fld Z h b "com/example/stationgraph/stationgraph/station/PlannedChanges$Change" "end" "I" (.int x3) ∧ Fld Z h b "com/example/stationgraph/stationgraph/station/PlannedChanges$Change" "closed" "Z" (.int x4) ∧ Fld Z h b "com/example/stationgraph/stationgraph/station/PlannedChanges$Change" "direction" "Lcom/example/stationgraph/stationgraph/station/PathwayDirection;" x5
set_option maxRecDepth 65536 in
set_option maxHeartbeats 40000000 in
theorem dr (l : Launch) (Z : State) (a0 : Array Value) (hw : ∀ d ∈ tables_1, d.before a0 Z = true) (ws : List Jvm.Cond) (a_FORWARDS a_BOTH a_BACKWARDS : Addr) (G : Own Z a_FORWARDS a_BOTH a_BACKWARDS) (q1 : Int32) (h0 : Heap) (n0 : Nat) (O0 : Old Z n0 h0)  :
    MetFree l y_2 (head1 (Jvm.Cond.code y_2 method_2_code 2 (some (.object "com/example/stationgraph/stationgraph/station/PathwayDirection")) :: ws) ({ frames := 0, cells := 0, slots := 0, locals := 0 } : Room)) (fun a U => a = #[(.int q1)] ∧ Z.Warmed39 U.vm ∧ U.heap = h0) (fun _ _ _ _ _ => True) (fun _ U o U' => ∃ v L, o = .returned v ∧ QN h0 n0 v U'.heap L ∧ FrameEnd U o U' L ({ frames := 0, cells := 0, slots := 0, locals := 0 } : Room).cells ({ frames := 0, cells := 0, slots := 0, locals := 0 } : Room).slots) := by
  refine MetFree.of_bodySF (plainFor_of_name pn_2) hisR ?_
  intro p e s m args below meth c s₁ Bd hml0 hP hK
  obtain ⟨rfl, hZ, hh⟩ := hP
  have hx := Bd.exec
  have hby := Bd.bytes
  have hml : c.maxLocals = 2 := hml0
  have hown : s.vm.findClass "com/example/stationgraph/stationgraph/station/ChangeCoversPinLaw" = some m.cls := findClass_of_methodNamed Bd.named
  have hnm := (name_of_methodNamed Bd.named Bd.method).1
  have X0 : Stand p l e ({ frames := 0, cells := 0, slots := 0, locals := 0 } : Room) s m #[(.int q1)] below meth c s₁ [] 0 0 := Stand.of_body Bd
  have e0 : s₁.heap = h0 := by rw [← hh, Bd.state]; rfl
  have N0 := Fr.nil n0
  have K0 := Keep.refl h0 []
  have k0 : Go p.tables e below (s₁.setTop (entryFrame m #[(.int q1)] 2)) (s₁.setTop (mkF m 0 #[iv q1, .unset] [])) := fun t k => castTop (by first | rfl | (simp [entryFrame, mkF, argsToLocals, Value.category]; done)) k
  have ⟨S_FORWARDS, E_FORWARDS, S_BOTH, E_BOTH, S_BACKWARDS, E_BACKWARDS⟩ := G
  rcases own_mask_4 q1 with hi | hi | hi | hi
  · skip
    have k_73 : Go p.tables e below (s₁.setTop (entryFrame m #[(.int q1)] 2)) (s₁.setTop (mkF m 9 #[iv q1, iv 0] [.null])) := fun t q => by
      refine k0 t ?_
      refine XS.iloadN X0.here hx rfl (hb hby d1_0) rfl ?_
      show Steps _ _ _ (s₁.setTop (mkF m 1 #[iv q1, .unset] [(.int q1)])) _
      refine XS.iconst X0.here hx rfl (hb hby d1_1) ?_
      show Steps _ _ _ (s₁.setTop (mkF m 2 #[iv q1, .unset] [(.int 3), (.int q1)])) _
      refine XS.iand X0.here hx rfl (hb hby d1_2) rfl ?_
      show Steps _ _ _ (s₁.setTop (mkF m 3 #[iv q1, .unset] [(.int (q1 &&& (3 : Int32)))])) _
      rw [hi]
      show Steps _ _ _ (s₁.setTop (mkF m 3 #[iv q1, .unset] [(.int 0)])) _
      refine XS.istoreN X0.here hx rfl (hb hby d1_3) rfl (l' := #[iv q1, iv 0]) rfl ?_
      show Steps _ _ _ (s₁.setTop (mkF m 4 #[iv q1, iv 0] [])) _
      refine XS.iloadN X0.here hx rfl (hb hby d1_4) rfl ?_
      show Steps _ _ _ (s₁.setTop (mkF m 5 #[iv q1, iv 0] [(.int 0)])) _
      refine XS.ifNo X0.here hx rfl (hb hby d1_5) rfl (by decide) ?_
      show Steps _ _ _ (s₁.setTop (mkF m 8 #[iv q1, iv 0] [])) _
      refine XS.aconstNull X0.here hx rfl (hb hby d1_8) ?_
      show Steps _ _ _ (s₁.setTop (mkF m 9 #[iv q1, iv 0] [.null])) _
      exact q
    obtain ⟨fs, hr, hrun, hended, hW, hsame⟩ := X0.leave (v := some .null) (fun h => by rw [Bd.returns] at h; cases h)
    refine ⟨_, _, k_73 _ ?_, hrun, hended, _, _, rfl, ?_, ⟨_, rfl⟩, hW, hsame.mono (by decide) (by decide)⟩
    · exact retOut X0 hx Bd.returns rfl (Or.inr (Or.inr (Or.inr (Or.inr ⟨rfl, rfl, rfl⟩)))) (hb hby d1_9) hr
    · show QN h0 n0 _ s₁.heap _
      rw [e0]
      exact ⟨_, rfl, rfl, N0, rfl⟩
  · skip
    have k_74 : Go p.tables e below (s₁.setTop (entryFrame m #[(.int q1)] 2)) (s₁.setTop (mkF m 15 #[iv q1, iv 1] [])) := fun t q => by
      refine k0 t ?_
      refine XS.iloadN X0.here hx rfl (hb hby d1_0) rfl ?_
      show Steps _ _ _ (s₁.setTop (mkF m 1 #[iv q1, .unset] [(.int q1)])) _
      refine XS.iconst X0.here hx rfl (hb hby d1_1) ?_
      show Steps _ _ _ (s₁.setTop (mkF m 2 #[iv q1, .unset] [(.int 3), (.int q1)])) _
      refine XS.iand X0.here hx rfl (hb hby d1_2) rfl ?_
      show Steps _ _ _ (s₁.setTop (mkF m 3 #[iv q1, .unset] [(.int (q1 &&& (3 : Int32)))])) _
      rw [hi]
      show Steps _ _ _ (s₁.setTop (mkF m 3 #[iv q1, .unset] [(.int 1)])) _
      refine XS.istoreN X0.here hx rfl (hb hby d1_3) rfl (l' := #[iv q1, iv 1]) rfl ?_
      show Steps _ _ _ (s₁.setTop (mkF m 4 #[iv q1, iv 1] [])) _
      refine XS.iloadN X0.here hx rfl (hb hby d1_4) rfl ?_
      show Steps _ _ _ (s₁.setTop (mkF m 5 #[iv q1, iv 1] [(.int 1)])) _
      refine XS.ifYes X0.here hx rfl (pc0 := 5) (pc' := 10) rfl (hb hby d1_5) rfl (by decide) (by decide) (by decide) ?_
      show Steps _ _ _ (s₁.setTop (mkF m 10 #[iv q1, iv 1] [])) _
      refine XS.iloadN X0.here hx rfl (hb hby d1_10) rfl ?_
      show Steps _ _ _ (s₁.setTop (mkF m 11 #[iv q1, iv 1] [(.int 1)])) _
      refine XS.iconst X0.here hx rfl (hb hby d1_11) ?_
      show Steps _ _ _ (s₁.setTop (mkF m 12 #[iv q1, iv 1] [(.int 1), (.int 1)])) _
      refine XS.icmpNo X0.here hx rfl (hb hby d1_12) rfl (by decide) ?_
      show Steps _ _ _ (s₁.setTop (mkF m 15 #[iv q1, iv 1] [])) _
      exact q
    obtain ⟨T75, X75, e75, st75⟩ := getS2 X0 hx hZ hown (host := "") (Or.inl (hw _ (wd 16 rfl))) Via.refl e0 (S_FORWARDS.ext O0.2) (g := (mkF m 15 #[iv q1, iv 1] [])) rfl (hb hby d1_15)
    have k_76 : Go p.tables e below (s₁.setTop (entryFrame m #[(.int q1)] 2)) (T75.setTop (mkF m 18 #[iv q1, iv 1] [(.ref a_FORWARDS)])) := fun t q => by
      refine k_74 t ?_
      refine st75 _ ?_
      show Steps _ _ _ (T75.setTop (mkF m 18 #[iv q1, iv 1] [(.ref a_FORWARDS)])) _
      exact q
    obtain ⟨fs, hr, hrun, hended, hW, hsame⟩ := X75.leave (v := some (.ref a_FORWARDS)) (fun h => by rw [Bd.returns] at h; cases h)
    refine ⟨_, _, k_76 _ ?_, hrun, hended, _, _, rfl, ?_, ⟨_, rfl⟩, hW, hsame.mono (by decide) (by decide)⟩
    · exact retOut X75 hx Bd.returns rfl (Or.inr (Or.inr (Or.inr (Or.inr ⟨rfl, rfl, rfl⟩)))) (hb hby d1_18) hr
    · show QN h0 n0 _ T75.heap _
      rw [e75]
      exact ⟨_, rfl, rfl, N0, rfl⟩
  · skip
    have k_77 : Go p.tables e below (s₁.setTop (entryFrame m #[(.int q1)] 2)) (s₁.setTop (mkF m 24 #[iv q1, iv 2] [])) := fun t q => by
      refine k0 t ?_
      refine XS.iloadN X0.here hx rfl (hb hby d1_0) rfl ?_
      show Steps _ _ _ (s₁.setTop (mkF m 1 #[iv q1, .unset] [(.int q1)])) _
      refine XS.iconst X0.here hx rfl (hb hby d1_1) ?_
      show Steps _ _ _ (s₁.setTop (mkF m 2 #[iv q1, .unset] [(.int 3), (.int q1)])) _
      refine XS.iand X0.here hx rfl (hb hby d1_2) rfl ?_
      show Steps _ _ _ (s₁.setTop (mkF m 3 #[iv q1, .unset] [(.int (q1 &&& (3 : Int32)))])) _
      rw [hi]
      show Steps _ _ _ (s₁.setTop (mkF m 3 #[iv q1, .unset] [(.int 2)])) _
      refine XS.istoreN X0.here hx rfl (hb hby d1_3) rfl (l' := #[iv q1, iv 2]) rfl ?_
      show Steps _ _ _ (s₁.setTop (mkF m 4 #[iv q1, iv 2] [])) _
      refine XS.iloadN X0.here hx rfl (hb hby d1_4) rfl ?_
      show Steps _ _ _ (s₁.setTop (mkF m 5 #[iv q1, iv 2] [(.int 2)])) _
      refine XS.ifYes X0.here hx rfl (pc0 := 5) (pc' := 10) rfl (hb hby d1_5) rfl (by decide) (by decide) (by decide) ?_
      show Steps _ _ _ (s₁.setTop (mkF m 10 #[iv q1, iv 2] [])) _
      refine XS.iloadN X0.here hx rfl (hb hby d1_10) rfl ?_
      show Steps _ _ _ (s₁.setTop (mkF m 11 #[iv q1, iv 2] [(.int 2)])) _
      refine XS.iconst X0.here hx rfl (hb hby d1_11) ?_
      show Steps _ _ _ (s₁.setTop (mkF m 12 #[iv q1, iv 2] [(.int 1), (.int 2)])) _
      refine XS.icmpYes X0.here hx rfl (pc0 := 12) (pc' := 19) rfl (hb hby d1_12) rfl (by decide) (by decide) (by decide) ?_
      show Steps _ _ _ (s₁.setTop (mkF m 19 #[iv q1, iv 2] [])) _
      refine XS.iloadN X0.here hx rfl (hb hby d1_19) rfl ?_
      show Steps _ _ _ (s₁.setTop (mkF m 20 #[iv q1, iv 2] [(.int 2)])) _
      refine XS.iconst X0.here hx rfl (hb hby d1_20) ?_
      show Steps _ _ _ (s₁.setTop (mkF m 21 #[iv q1, iv 2] [(.int 2), (.int 2)])) _
      refine XS.icmpNo X0.here hx rfl (hb hby d1_21) rfl (by decide) ?_
      show Steps _ _ _ (s₁.setTop (mkF m 24 #[iv q1, iv 2] [])) _
      exact q
    obtain ⟨T78, X78, e78, st78⟩ := getS2 X0 hx hZ hown (host := "") (Or.inl (hw _ (wd 47 rfl))) Via.refl e0 (S_BOTH.ext O0.2) (g := (mkF m 24 #[iv q1, iv 2] [])) rfl (hb hby d1_24)
    have k_79 : Go p.tables e below (s₁.setTop (entryFrame m #[(.int q1)] 2)) (T78.setTop (mkF m 27 #[iv q1, iv 2] [(.ref a_BOTH)])) := fun t q => by
      refine k_77 t ?_
      refine st78 _ ?_
      show Steps _ _ _ (T78.setTop (mkF m 27 #[iv q1, iv 2] [(.ref a_BOTH)])) _
      exact q
    obtain ⟨fs, hr, hrun, hended, hW, hsame⟩ := X78.leave (v := some (.ref a_BOTH)) (fun h => by rw [Bd.returns] at h; cases h)
    refine ⟨_, _, k_79 _ ?_, hrun, hended, _, _, rfl, ?_, ⟨_, rfl⟩, hW, hsame.mono (by decide) (by decide)⟩
    · exact retOut X78 hx Bd.returns rfl (Or.inr (Or.inr (Or.inr (Or.inr ⟨rfl, rfl, rfl⟩)))) (hb hby d1_27) hr
    · show QN h0 n0 _ T78.heap _
      rw [e78]
      exact ⟨_, rfl, rfl, N0, rfl⟩
  · skip
    have k_80 : Go p.tables e below (s₁.setTop (entryFrame m #[(.int q1)] 2)) (s₁.setTop (mkF m 28 #[iv q1, iv 3] [])) := fun t q => by
      refine k0 t ?_
      refine XS.iloadN X0.here hx rfl (hb hby d1_0) rfl ?_
      show Steps _ _ _ (s₁.setTop (mkF m 1 #[iv q1, .unset] [(.int q1)])) _
      refine XS.iconst X0.here hx rfl (hb hby d1_1) ?_
      show Steps _ _ _ (s₁.setTop (mkF m 2 #[iv q1, .unset] [(.int 3), (.int q1)])) _
      refine XS.iand X0.here hx rfl (hb hby d1_2) rfl ?_
      show Steps _ _ _ (s₁.setTop (mkF m 3 #[iv q1, .unset] [(.int (q1 &&& (3 : Int32)))])) _
      rw [hi]
      show Steps _ _ _ (s₁.setTop (mkF m 3 #[iv q1, .unset] [(.int 3)])) _
      refine XS.istoreN X0.here hx rfl (hb hby d1_3) rfl (l' := #[iv q1, iv 3]) rfl ?_
      show Steps _ _ _ (s₁.setTop (mkF m 4 #[iv q1, iv 3] [])) _
      refine XS.iloadN X0.here hx rfl (hb hby d1_4) rfl ?_
      show Steps _ _ _ (s₁.setTop (mkF m 5 #[iv q1, iv 3] [(.int 3)])) _
      refine XS.ifYes X0.here hx rfl (pc0 := 5) (pc' := 10) rfl (hb hby d1_5) rfl (by decide) (by decide) (by decide) ?_
      show Steps _ _ _ (s₁.setTop (mkF m 10 #[iv q1, iv 3] [])) _
      refine XS.iloadN X0.here hx rfl (hb hby d1_10) rfl ?_
      show Steps _ _ _ (s₁.setTop (mkF m 11 #[iv q1, iv 3] [(.int 3)])) _
      refine XS.iconst X0.here hx rfl (hb hby d1_11) ?_
      show Steps _ _ _ (s₁.setTop (mkF m 12 #[iv q1, iv 3] [(.int 1), (.int 3)])) _
      refine XS.icmpYes X0.here hx rfl (pc0 := 12) (pc' := 19) rfl (hb hby d1_12) rfl (by decide) (by decide) (by decide) ?_
      show Steps _ _ _ (s₁.setTop (mkF m 19 #[iv q1, iv 3] [])) _
      refine XS.iloadN X0.here hx rfl (hb hby d1_19) rfl ?_
      show Steps _ _ _ (s₁.setTop (mkF m 20 #[iv q1, iv 3] [(.int 3)])) _
      refine XS.iconst X0.here hx rfl (hb hby d1_20) ?_
      show Steps _ _ _ (s₁.setTop (mkF m 21 #[iv q1, iv 3] [(.int 2), (.int 3)])) _
      refine XS.icmpYes X0.here hx rfl (pc0 := 21) (pc' := 28) rfl (hb hby d1_21) rfl (by decide) (by decide) (by decide) ?_
      show Steps _ _ _ (s₁.setTop (mkF m 28 #[iv q1, iv 3] [])) _
      exact q
    obtain ⟨T81, X81, e81, st81⟩ := getS2 X0 hx hZ hown (host := "") (Or.inl (hw _ (wd 49 rfl))) Via.refl e0 (S_BACKWARDS.ext O0.2) (g := (mkF m 28 #[iv q1, iv 3] [])) rfl (hb hby d1_28)
    have k_82 : Go p.tables e below (s₁.setTop (entryFrame m #[(.int q1)] 2)) (T81.setTop (mkF m 31 #[iv q1, iv 3] [(.ref a_BACKWARDS)])) := fun t q => by
      refine k_80 t ?_
      refine st81 _ ?_
      show Steps _ _ _ (T81.setTop (mkF m 31 #[iv q1, iv 3] [(.ref a_BACKWARDS)])) _
      exact q
    obtain ⟨fs, hr, hrun, hended, hW, hsame⟩ := X81.leave (v := some (.ref a_BACKWARDS)) (fun h => by rw [Bd.returns] at h; cases h)
    refine ⟨_, _, k_82 _ ?_, hrun, hended, _, _, rfl, ?_, ⟨_, rfl⟩, hW, hsame.mono (by decide) (by decide)⟩
    · exact retOut X81 hx Bd.returns rfl (Or.inr (Or.inr (Or.inr (Or.inr ⟨rfl, rfl, rfl⟩)))) (hb hby d1_31) hr
    · show QN h0 n0 _ T81.heap _
      rw [e81]
      exact ⟨_, rfl, rfl, N0, rfl⟩
set_option maxRecDepth 65536 in
set_option maxHeartbeats 40000000 in
theorem cv (l : Launch) (Z : State) (a0 : Array Value) (hw : ∀ d ∈ tables_1, d.before a0 Z = true) (ws : List Jvm.Cond) (a_FORWARDS a_BOTH a_BACKWARDS : Addr) (G : Own Z a_FORWARDS a_BOTH a_BACKWARDS) (a1 : Addr) (x u z r : Int32) (h0 : Heap) (n0 : Nat) (O0 : Old Z n0 h0) (F0 : Fld Z h0 a1 "com/example/stationgraph/stationgraph/station/PlannedChanges$Change" "start" "I" (.int u)) (F1 : Fld Z h0 a1 "com/example/stationgraph/stationgraph/station/PlannedChanges$Change" "end" "I" (.int z)) (hres : r = if ¬ x < u ∧ x < z then 1 else 0) :
    MetFree l y_3 (head1 (Jvm.Cond.code y_3 prog_69_method_2_code 2 (some .boolean) :: ws) ({ frames := 0, cells := 0, slots := 0, locals := 0 } : Room)) (fun a U => a = #[(.ref a1), (.int x)] ∧ Z.Warmed39 U.vm ∧ U.heap = h0) (fun _ _ _ _ _ => True) (fun _ U o U' => ∃ v L, o = .returned v ∧ QV (some (.int r)) h0 n0 v U'.heap L ∧ FrameEnd U o U' L ({ frames := 0, cells := 0, slots := 0, locals := 0 } : Room).cells ({ frames := 0, cells := 0, slots := 0, locals := 0 } : Room).slots) := by
  refine MetFree.of_bodySF (plainFor_of_name pn_1) hisR ?_
  intro p e s m args below meth c s₁ Bd hml0 hP hK
  obtain ⟨rfl, hZ, hh⟩ := hP
  have hx := Bd.exec
  have hby := Bd.bytes
  have hml : c.maxLocals = 2 := hml0
  have hown : s.vm.findClass "com/example/stationgraph/stationgraph/station/PlannedChanges$Change" = some m.cls := findClass_of_methodNamed Bd.named
  have hnm := (name_of_methodNamed Bd.named Bd.method).1
  have X0 : Stand p l e ({ frames := 0, cells := 0, slots := 0, locals := 0 } : Room) s m #[(.ref a1), (.int x)] below meth c s₁ [] 0 0 := Stand.of_body Bd
  have e0 : s₁.heap = h0 := by rw [← hh, Bd.state]; rfl
  have N0 := Fr.nil n0
  have K0 := Keep.refl h0 []
  have k0 : Go p.tables e below (s₁.setTop (entryFrame m #[(.ref a1), (.int x)] 2)) (s₁.setTop (mkF m 0 #[rv a1, iv x] [])) := fun t k => castTop (by first | rfl | (simp [entryFrame, mkF, argsToLocals, Value.category]; done)) k
  have ⟨S_FORWARDS, E_FORWARDS, S_BOTH, E_BOTH, S_BACKWARDS, E_BACKWARDS⟩ := G
  rcases Decidable.em (x < u) with h1 | h1
  · skip
    have k_83 : Go p.tables e below (s₁.setTop (entryFrame m #[(.ref a1), (.int x)] 2)) (s₁.setTop (mkF m 1 #[rv a1, iv x] [(.ref a1)])) := fun t q => by
      refine k0 t ?_
      refine XS.aloadN X0.here hx rfl (hb hby d5_0) rfl rfl ?_
      show Steps _ _ _ (s₁.setTop (mkF m 1 #[rv a1, iv x] [(.ref a1)])) _
      exact q
    obtain ⟨T84, X84, e84, st84⟩ := getF X0 hx hZ hown (host := "") (Or.inl (hw _ (wd 34 rfl))) Via.refl e0 F0 (g := (mkF m 1 #[rv a1, iv x] [(.ref a1)])) rfl rfl (hb hby d5_1)
    have k_85 : Go p.tables e below (s₁.setTop (entryFrame m #[(.ref a1), (.int x)] 2)) (T84.setTop (mkF m 21 #[rv a1, iv x] [(.int 0)])) := fun t q => by
      refine k_83 t ?_
      refine st84 _ ?_
      show Steps _ _ _ (T84.setTop (mkF m 4 #[rv a1, iv x] [(.int u)])) _
      refine XS.iloadN X84.here hx rfl (hb hby d5_4) rfl ?_
      show Steps _ _ _ (T84.setTop (mkF m 5 #[rv a1, iv x] [(.int x), (.int u)])) _
      refine XS.icmpYes X84.here hx rfl (pc0 := 5) (pc' := 20) rfl (hb hby d5_5) rfl (tlt h1).2.2.1 (by decide) (by decide) ?_
      show Steps _ _ _ (T84.setTop (mkF m 20 #[rv a1, iv x] [])) _
      refine XS.iconst X84.here hx rfl (hb hby d5_20) ?_
      show Steps _ _ _ (T84.setTop (mkF m 21 #[rv a1, iv x] [(.int 0)])) _
      exact q
    obtain ⟨fs, hr, hrun, hended, hW, hsame⟩ := X84.leave (v := some (.int 0)) (fun h => by rw [Bd.returns] at h; cases h)
    refine ⟨_, _, k_85 _ ?_, hrun, hended, _, _, rfl, ?_, ⟨_, rfl⟩, hW, hsame.mono (by decide) (by decide)⟩
    · exact retN X84 hx (t := .boolean) Bd.returns (by simp) (hb hby d5_21) hr
    · show QV (some (.int r)) h0 n0 _ T84.heap _
      rw [e84]
      exact ⟨by rw [hres]; simp [h1], N0, rfl⟩
  · skip
    rcases Decidable.em (x < z) with h2 | h2
    · skip
      have k_86 : Go p.tables e below (s₁.setTop (entryFrame m #[(.ref a1), (.int x)] 2)) (s₁.setTop (mkF m 1 #[rv a1, iv x] [(.ref a1)])) := fun t q => by
        refine k0 t ?_
        refine XS.aloadN X0.here hx rfl (hb hby d5_0) rfl rfl ?_
        show Steps _ _ _ (s₁.setTop (mkF m 1 #[rv a1, iv x] [(.ref a1)])) _
        exact q
      obtain ⟨T87, X87, e87, st87⟩ := getF X0 hx hZ hown (host := "") (Or.inl (hw _ (wd 34 rfl))) Via.refl e0 F0 (g := (mkF m 1 #[rv a1, iv x] [(.ref a1)])) rfl rfl (hb hby d5_1)
      have k_88 : Go p.tables e below (s₁.setTop (entryFrame m #[(.ref a1), (.int x)] 2)) (T87.setTop (mkF m 10 #[rv a1, iv x] [(.ref a1), (.int x)])) := fun t q => by
        refine k_86 t ?_
        refine st87 _ ?_
        show Steps _ _ _ (T87.setTop (mkF m 4 #[rv a1, iv x] [(.int u)])) _
        refine XS.iloadN X87.here hx rfl (hb hby d5_4) rfl ?_
        show Steps _ _ _ (T87.setTop (mkF m 5 #[rv a1, iv x] [(.int x), (.int u)])) _
        refine XS.icmpNo X87.here hx rfl (hb hby d5_5) rfl (flt h1).2.2.1 ?_
        show Steps _ _ _ (T87.setTop (mkF m 8 #[rv a1, iv x] [])) _
        refine XS.iloadN X87.here hx rfl (hb hby d5_8) rfl ?_
        show Steps _ _ _ (T87.setTop (mkF m 9 #[rv a1, iv x] [(.int x)])) _
        refine XS.aloadN X87.here hx rfl (hb hby d5_9) rfl rfl ?_
        show Steps _ _ _ (T87.setTop (mkF m 10 #[rv a1, iv x] [(.ref a1), (.int x)])) _
        exact q
      obtain ⟨T89, X89, e89, st89⟩ := getF X87 hx hZ hown (host := "") (Or.inl (hw _ (wd 36 rfl))) Via.refl e87 F1 (g := (mkF m 10 #[rv a1, iv x] [(.ref a1), (.int x)])) rfl rfl (hb hby d5_10)
      have k_90 : Go p.tables e below (s₁.setTop (entryFrame m #[(.ref a1), (.int x)] 2)) (T89.setTop (mkF m 21 #[rv a1, iv x] [(.int 1)])) := fun t q => by
        refine k_88 t ?_
        refine st89 _ ?_
        show Steps _ _ _ (T89.setTop (mkF m 13 #[rv a1, iv x] [(.int z), (.int x)])) _
        refine XS.icmpNo X89.here hx rfl (hb hby d5_13) rfl (tlt h2).2.1 ?_
        show Steps _ _ _ (T89.setTop (mkF m 16 #[rv a1, iv x] [])) _
        refine XS.iconst X89.here hx rfl (hb hby d5_16) ?_
        show Steps _ _ _ (T89.setTop (mkF m 17 #[rv a1, iv x] [(.int 1)])) _
        refine XS.goto X89.here hx rfl (pc0 := 17) (pc' := 21) rfl (hb hby d5_17) (by decide) (by decide) ?_
        show Steps _ _ _ (T89.setTop (mkF m 21 #[rv a1, iv x] [(.int 1)])) _
        exact q
      obtain ⟨fs, hr, hrun, hended, hW, hsame⟩ := X89.leave (v := some (.int 1)) (fun h => by rw [Bd.returns] at h; cases h)
      refine ⟨_, _, k_90 _ ?_, hrun, hended, _, _, rfl, ?_, ⟨_, rfl⟩, hW, hsame.mono (by decide) (by decide)⟩
      · exact retN X89 hx (t := .boolean) Bd.returns (by simp) (hb hby d5_21) hr
      · show QV (some (.int r)) h0 n0 _ T89.heap _
        rw [e89]
        exact ⟨by rw [hres]; simp [h1, h2], N0, rfl⟩
    · skip
      have k_91 : Go p.tables e below (s₁.setTop (entryFrame m #[(.ref a1), (.int x)] 2)) (s₁.setTop (mkF m 1 #[rv a1, iv x] [(.ref a1)])) := fun t q => by
        refine k0 t ?_
        refine XS.aloadN X0.here hx rfl (hb hby d5_0) rfl rfl ?_
        show Steps _ _ _ (s₁.setTop (mkF m 1 #[rv a1, iv x] [(.ref a1)])) _
        exact q
      obtain ⟨T92, X92, e92, st92⟩ := getF X0 hx hZ hown (host := "") (Or.inl (hw _ (wd 34 rfl))) Via.refl e0 F0 (g := (mkF m 1 #[rv a1, iv x] [(.ref a1)])) rfl rfl (hb hby d5_1)
      have k_93 : Go p.tables e below (s₁.setTop (entryFrame m #[(.ref a1), (.int x)] 2)) (T92.setTop (mkF m 10 #[rv a1, iv x] [(.ref a1), (.int x)])) := fun t q => by
        refine k_91 t ?_
        refine st92 _ ?_
        show Steps _ _ _ (T92.setTop (mkF m 4 #[rv a1, iv x] [(.int u)])) _
        refine XS.iloadN X92.here hx rfl (hb hby d5_4) rfl ?_
        show Steps _ _ _ (T92.setTop (mkF m 5 #[rv a1, iv x] [(.int x), (.int u)])) _
        refine XS.icmpNo X92.here hx rfl (hb hby d5_5) rfl (flt h1).2.2.1 ?_
        show Steps _ _ _ (T92.setTop (mkF m 8 #[rv a1, iv x] [])) _
        refine XS.iloadN X92.here hx rfl (hb hby d5_8) rfl ?_
        show Steps _ _ _ (T92.setTop (mkF m 9 #[rv a1, iv x] [(.int x)])) _
        refine XS.aloadN X92.here hx rfl (hb hby d5_9) rfl rfl ?_
        show Steps _ _ _ (T92.setTop (mkF m 10 #[rv a1, iv x] [(.ref a1), (.int x)])) _
        exact q
      obtain ⟨T94, X94, e94, st94⟩ := getF X92 hx hZ hown (host := "") (Or.inl (hw _ (wd 36 rfl))) Via.refl e92 F1 (g := (mkF m 10 #[rv a1, iv x] [(.ref a1), (.int x)])) rfl rfl (hb hby d5_10)
      have k_95 : Go p.tables e below (s₁.setTop (entryFrame m #[(.ref a1), (.int x)] 2)) (T94.setTop (mkF m 21 #[rv a1, iv x] [(.int 0)])) := fun t q => by
        refine k_93 t ?_
        refine st94 _ ?_
        show Steps _ _ _ (T94.setTop (mkF m 13 #[rv a1, iv x] [(.int z), (.int x)])) _
        refine XS.icmpYes X94.here hx rfl (pc0 := 13) (pc' := 20) rfl (hb hby d5_13) rfl (flt h2).2.1 (by decide) (by decide) ?_
        show Steps _ _ _ (T94.setTop (mkF m 20 #[rv a1, iv x] [])) _
        refine XS.iconst X94.here hx rfl (hb hby d5_20) ?_
        show Steps _ _ _ (T94.setTop (mkF m 21 #[rv a1, iv x] [(.int 0)])) _
        exact q
      obtain ⟨fs, hr, hrun, hended, hW, hsame⟩ := X94.leave (v := some (.int 0)) (fun h => by rw [Bd.returns] at h; cases h)
      refine ⟨_, _, k_95 _ ?_, hrun, hended, _, _, rfl, ?_, ⟨_, rfl⟩, hW, hsame.mono (by decide) (by decide)⟩
      · exact retN X94 hx (t := .boolean) Bd.returns (by simp) (hb hby d5_21) hr
      · show QV (some (.int r)) h0 n0 _ T94.heap _
        rw [e94]
        exact ⟨by rw [hres]; simp [h1, h2], N0, rfl⟩
set_option maxRecDepth 65536 in
set_option maxHeartbeats 40000000 in
theorem rec0 (l : Launch) (Z : State) (a0 : Array Value) (hw : ∀ d ∈ tables_1, d.before a0 Z = true) (ws : List Jvm.Cond) (a_FORWARDS a_BOTH a_BACKWARDS : Addr) (G : Own Z a_FORWARDS a_BOTH a_BACKWARDS) (a1 : Addr) (h0 : Heap) (n0 : Nat) (O0 : Old Z n0 h0)  :
    MetFree l y_0 (head1 (Jvm.Cond.code y_0 jdk_30_method_1_code 1 none :: ws) ({ frames := 1, cells := 0, slots := 0, locals := 12 } : Room)) (fun a U => a = #[(.ref a1)] ∧ Z.Warmed39 U.vm ∧ U.heap = h0) (fun _ _ _ _ _ => True) (fun _ U o U' => ∃ v L, o = .returned v ∧ QV none h0 n0 v U'.heap L ∧ FrameEnd U o U' L ({ frames := 1, cells := 0, slots := 0, locals := 12 } : Room).cells ({ frames := 1, cells := 0, slots := 0, locals := 12 } : Room).slots) := by
  refine MetFree.of_bodySF (plainFor_of_name pn_0) hisR ?_
  intro p e s m args below meth c s₁ Bd hml0 hP hK
  obtain ⟨rfl, hZ, hh⟩ := hP
  have hx := Bd.exec
  have hby := Bd.bytes
  have hml : c.maxLocals = 1 := hml0
  have hown : s.vm.findClass "java/lang/Record" = some m.cls := findClass_of_methodNamed Bd.named
  have hnm := (name_of_methodNamed Bd.named Bd.method).1
  have X0 : Stand p l e ({ frames := 1, cells := 0, slots := 0, locals := 12 } : Room) s m #[(.ref a1)] below meth c s₁ [] 0 0 := Stand.of_body Bd
  have e0 : s₁.heap = h0 := by rw [← hh, Bd.state]; rfl
  have N0 := Fr.nil n0
  have K0 := Keep.refl h0 []
  have k0 : Go p.tables e below (s₁.setTop (entryFrame m #[(.ref a1)] 1)) (s₁.setTop (mkF m 0 #[rv a1] [])) := fun t k => castTop (by first | rfl | (simp [entryFrame, mkF, argsToLocals, Value.category]; done)) k
  have ⟨S_FORWARDS, E_FORWARDS, S_BOTH, E_BOTH, S_BACKWARDS, E_BACKWARDS⟩ := G
  have k_1 : Go p.tables e below (s₁.setTop (entryFrame m #[(.ref a1)] 1)) (s₁.setTop (mkF m 1 #[rv a1] [(.ref a1)])) := fun t q => by
    refine k0 t ?_
    refine XS.aloadN X0.here hx rfl (hb hby d3_0) rfl rfl ?_
    show Steps _ _ _ (s₁.setTop (mkF m 1 #[rv a1] [(.ref a1)])) _
    exact q
  obtain ⟨T2, X2, e2, st2⟩ := initO X0 hx hZ hown (hw _ (wd 27 rfl)) (hw _ (wd 28 rfl)) (hw _ (wd 29 rfl)) e0 (g := (mkF m 1 #[rv a1] [(.ref a1)])) rfl (by rw [hml]; rfl) rfl (hb hby d3_1) (by decide) (W := 0) (by show 2 * 0 + _ ≤ _; exact Nat.le_of_eq rfl) (by decide)
  have k_3 : Go p.tables e below (s₁.setTop (entryFrame m #[(.ref a1)] 1)) (T2.setTop (mkF m 4 #[rv a1] [])) := fun t q => by
    refine k_1 t ?_
    refine st2 _ ?_
    show Steps _ _ _ (T2.setTop (mkF m 4 #[rv a1] [])) _
    exact q
  obtain ⟨fs, hr, hrun, hended, hW, hsame⟩ := X2.leave (v := none) (fun _ => rfl)
  refine ⟨_, _, k_3 _ ?_, hrun, hended, _, _, rfl, ?_, ⟨_, rfl⟩, hW, hsame.mono (by decide) (by decide)⟩
  · exact X2.returnOut hx Bd.returns (hb hby d3_4) hr
  · show QV none h0 n0 _ T2.heap _
    rw [e2]
    exact ⟨rfl, N0, rfl⟩
set_option maxRecDepth 65536 in
set_option maxHeartbeats 40000000 in
theorem init_r (l : Launch) (Z : State) (a0 : Array Value) (hw : ∀ d ∈ tables_1, d.before a0 Z = true) (ws : List Jvm.Cond) (a_FORWARDS a_BOTH a_BACKWARDS : Addr) (G : Own Z a_FORWARDS a_BOTH a_BACKWARDS) (a1 : Addr) (x0 : Addr) (x1 : Addr) (x2 : Int32) (x3 : Int32) (x4 : Int32) (x5 : Value) (h0 : Heap) (n0 : Nat) (O0 : Old Z n0 h0) (E0 : Exa Z h0 a1 "com/example/stationgraph/stationgraph/station/PlannedChanges$Change") (F0_0 : Fld Z h0 a1 "com/example/stationgraph/stationgraph/station/PlannedChanges$Change" "pathwayId" "Ljava/lang/String;" .null) (F0_1 : Fld Z h0 a1 "com/example/stationgraph/stationgraph/station/PlannedChanges$Change" "serviceId" "Ljava/lang/String;" .null) (F0_2 : Fld Z h0 a1 "com/example/stationgraph/stationgraph/station/PlannedChanges$Change" "start" "I" (.int 0)) (F0_3 : Fld Z h0 a1 "com/example/stationgraph/stationgraph/station/PlannedChanges$Change" "end" "I" (.int 0)) (F0_4 : Fld Z h0 a1 "com/example/stationgraph/stationgraph/station/PlannedChanges$Change" "closed" "Z" (.int 0)) (F0_5 : Fld Z h0 a1 "com/example/stationgraph/stationgraph/station/PlannedChanges$Change" "direction" "Lcom/example/stationgraph/stationgraph/station/PathwayDirection;" .null) (g0 : n0 ≤ a1) (hz_x4 : x4 = 0 ∨ x4 = 1) (hr_x5 : x5.isRef = true) :
    MetFree l y_1 (head1 (Jvm.Cond.code y_1 prog_69_method_1_code 7 none :: ws) ({ frames := 2, cells := 0, slots := 0, locals := 24 } : Room)) (fun a U => a = #[(.ref a1), (.ref x0), (.ref x1), (.int x2), (.int x3), (.int x4), x5] ∧ Z.Warmed39 U.vm ∧ U.heap = h0) (fun _ _ _ _ _ => True) (fun _ U o U' => ∃ v L, o = .returned v ∧ QI_r Z a1 x0 x1 x2 x3 x4 x5 h0 n0 v U'.heap L ∧ FrameEnd U o U' L ({ frames := 2, cells := 0, slots := 0, locals := 24 } : Room).cells ({ frames := 2, cells := 0, slots := 0, locals := 24 } : Room).slots) := by
  refine MetFree.of_bodySF (plainFor_of_name pn_1) hisR ?_
  intro p e s m args below meth c s₁ Bd hml0 hP hK
  obtain ⟨rfl, hZ, hh⟩ := hP
  have hx := Bd.exec
  have hby := Bd.bytes
  have hml : c.maxLocals = 7 := hml0
  have hown : s.vm.findClass "com/example/stationgraph/stationgraph/station/PlannedChanges$Change" = some m.cls := findClass_of_methodNamed Bd.named
  have hnm := (name_of_methodNamed Bd.named Bd.method).1
  have X0 : Stand p l e ({ frames := 2, cells := 0, slots := 0, locals := 24 } : Room) s m #[(.ref a1), (.ref x0), (.ref x1), (.int x2), (.int x3), (.int x4), x5] below meth c s₁ [] 0 0 := Stand.of_body Bd
  have e0 : s₁.heap = h0 := by rw [← hh, Bd.state]; rfl
  have N0 := Fr.nil n0
  have K0 := Keep.refl h0 [a1]
  have k0 : Go p.tables e below (s₁.setTop (entryFrame m #[(.ref a1), (.ref x0), (.ref x1), (.int x2), (.int x3), (.int x4), x5] 7)) (s₁.setTop (mkF m 0 #[rv a1, rv x0, rv x1, iv x2, iv x3, iv x4, .val x5] [])) := fun t k => castTop (by rcases ref_cases hr_x5 with rfl | ⟨_, rfl⟩ <;> first | rfl | (simp [entryFrame, mkF, argsToLocals, Value.category]; done)) k
  have ⟨S_FORWARDS, E_FORWARDS, S_BOTH, E_BOTH, S_BACKWARDS, E_BACKWARDS⟩ := G
  have k_4 : Go p.tables e below (s₁.setTop (entryFrame m #[(.ref a1), (.ref x0), (.ref x1), (.int x2), (.int x3), (.int x4), x5] 7)) (s₁.setTop (mkF m 1 #[rv a1, rv x0, rv x1, iv x2, iv x3, iv x4, .val x5] [(.ref a1)])) := fun t q => by
    refine k0 t ?_
    refine XS.aloadN X0.here hx rfl (hb hby d2_0) rfl rfl ?_
    show Steps _ _ _ (s₁.setTop (mkF m 1 #[rv a1, rv x0, rv x1, iv x2, iv x3, iv x4, .val x5] [(.ref a1)])) _
    exact q
  obtain ⟨_, _, ⟨T5, L5, k5, n5⟩, -, X5, ⟨Lc5, hQ5, l5, y5, z5⟩, st5⟩ := X0.specialBack hx (y := y_0) rfl hown (mvT hZ (hw _ (wd 22 rfl))) (mvT hZ (hw _ (wd 23 rfl))) (mvT hZ (hw _ (wd 26 rfl))) (by decide) (backOf (W := 0) (rec0 l Z a0 hw [] a_FORWARDS a_BOTH a_BACKWARDS G a1 h0 n0 O0) hZ (hw _ (wd 26 rfl)) (hw _ (wd 25 rfl)) (by decide) (by decide)) (g := (mkF m 1 #[rv a1, rv x0, rv x1, iv x2, iv x3, iv x4, .val x5] [(.ref a1)])) rfl (by rw [hml]; rfl) (Steps.refl _) (a := a1) (argsL := []) (rest := []) (lenOf pd_0 rfl) rfl (by show 2 * 0 + _ ≤ _; exact Nat.le_of_eq rfl) (hb hby d2_1) (fun _ _ => ⟨rfl, e0, (by decide : 0 + 0 ≤ _), (by decide : 0 + 0 ≤ _)⟩)
  dsimp only [Pt.U, Pt.locs, Pt.cells, Pt.slots] at X5 l5 y5 z5 st5 hQ5
  subst l5 y5 z5
  obtain ⟨rfl, N5q, e5⟩ := hQ5
  have N5 := Fr.app N0 N5q
  have k_6 : Go p.tables e below (s₁.setTop (entryFrame m #[(.ref a1), (.ref x0), (.ref x1), (.int x2), (.int x3), (.int x4), x5] 7)) (T5.setTop (mkF m 6 #[rv a1, rv x0, rv x1, iv x2, iv x3, iv x4, .val x5] [(.ref x0), (.ref a1)])) := fun t q => by
    refine k_4 t ?_
    refine st5.trans ?_
    show Steps _ _ _ (T5.setTop (mkF m 4 #[rv a1, rv x0, rv x1, iv x2, iv x3, iv x4, .val x5] [])) _
    refine XS.aloadN X5.here hx rfl (hb hby d2_4) rfl rfl ?_
    show Steps _ _ _ (T5.setTop (mkF m 5 #[rv a1, rv x0, rv x1, iv x2, iv x3, iv x4, .val x5] [(.ref a1)])) _
    refine XS.aloadN X5.here hx rfl (hb hby d2_5) rfl rfl ?_
    show Steps _ _ _ (T5.setTop (mkF m 6 #[rv a1, rv x0, rv x1, iv x2, iv x3, iv x4, .val x5] [(.ref x0), (.ref a1)])) _
    exact q
  obtain ⟨T7, h7, X7, e7, W7, st7⟩ := putF X5 hx hZ hown (host := "") (Or.inl (hw _ (wd 30 rfl))) Via.refl e5 F0_0 E0 (Or.inr ⟨(hw _ (wd 31 rfl)), rfl, hnm⟩) (hw _ (wd 1 rfl)) (ty := (.object "java/lang/String")) (by decide) rfl rfl (g := (mkF m 6 #[rv a1, rv x0, rv x1, iv x2, iv x3, iv x4, .val x5] [(.ref x0), (.ref a1)])) rfl rfl (hb hby d2_6)
  have N7 := Fr.snoc X7 N5 g0
  have f_8 := Fld.same W7 F0_0
  have f_9 := Exa.wr W7 E0
  have f_10 := Fld.other W7 F0_1 (Or.inr (slot_ne (Or.inr (hw _ (wd 33 rfl))) (Or.inr (hw _ (wd 31 rfl))) (by decide) (t := (.object "java/lang/String")) (t' := (.object "java/lang/String")) (by decide) (by decide)))
  have f_11 := Fld.other W7 F0_2 (Or.inr (slot_ne (Or.inr (hw _ (wd 35 rfl))) (Or.inr (hw _ (wd 31 rfl))) (by decide) (t := .int) (t' := (.object "java/lang/String")) (by decide) (by decide)))
  have f_12 := Fld.other W7 F0_3 (Or.inr (slot_ne (Or.inr (hw _ (wd 37 rfl))) (Or.inr (hw _ (wd 31 rfl))) (by decide) (t := .int) (t' := (.object "java/lang/String")) (by decide) (by decide)))
  have f_13 := Fld.other W7 F0_4 (Or.inr (slot_ne (Or.inr (hw _ (wd 39 rfl))) (Or.inr (hw _ (wd 31 rfl))) (by decide) (t := .boolean) (t' := (.object "java/lang/String")) (by decide) (by decide)))
  have f_14 := Fld.other W7 F0_5 (Or.inr (slot_ne (Or.inr (hw _ (wd 41 rfl))) (Or.inr (hw _ (wd 31 rfl))) (by decide) (t := (.object "com/example/stationgraph/stationgraph/station/PathwayDirection")) (t' := (.object "java/lang/String")) (by decide) (by decide)))
  have O_15 := O0.wr W7 g0
  have K_16 := K0.wr W7 (Or.inl (List.mem_of_getElem? (i := 0) rfl))
  have k_17 : Go p.tables e below (s₁.setTop (entryFrame m #[(.ref a1), (.ref x0), (.ref x1), (.int x2), (.int x3), (.int x4), x5] 7)) (T7.setTop (mkF m 11 #[rv a1, rv x0, rv x1, iv x2, iv x3, iv x4, .val x5] [(.ref x1), (.ref a1)])) := fun t q => by
    refine k_6 t ?_
    refine st7 _ ?_
    show Steps _ _ _ (T7.setTop (mkF m 9 #[rv a1, rv x0, rv x1, iv x2, iv x3, iv x4, .val x5] [])) _
    refine XS.aloadN X7.here hx rfl (hb hby d2_9) rfl rfl ?_
    show Steps _ _ _ (T7.setTop (mkF m 10 #[rv a1, rv x0, rv x1, iv x2, iv x3, iv x4, .val x5] [(.ref a1)])) _
    refine XS.aloadN X7.here hx rfl (hb hby d2_10) rfl rfl ?_
    show Steps _ _ _ (T7.setTop (mkF m 11 #[rv a1, rv x0, rv x1, iv x2, iv x3, iv x4, .val x5] [(.ref x1), (.ref a1)])) _
    exact q
  obtain ⟨T18, h18, X18, e18, W18, st18⟩ := putF X7 hx hZ hown (host := "") (Or.inl (hw _ (wd 32 rfl))) Via.refl e7 f_10 f_9 (Or.inr ⟨(hw _ (wd 33 rfl)), rfl, hnm⟩) (hw _ (wd 1 rfl)) (ty := (.object "java/lang/String")) (by decide) rfl rfl (g := (mkF m 11 #[rv a1, rv x0, rv x1, iv x2, iv x3, iv x4, .val x5] [(.ref x1), (.ref a1)])) rfl rfl (hb hby d2_11)
  have N18 := Fr.snoc X18 N7 g0
  have f_19 := Fld.same W18 f_10
  have f_20 := Exa.wr W18 f_9
  have f_21 := Fld.other W18 f_11 (Or.inr (slot_ne (Or.inr (hw _ (wd 35 rfl))) (Or.inr (hw _ (wd 33 rfl))) (by decide) (t := .int) (t' := (.object "java/lang/String")) (by decide) (by decide)))
  have f_22 := Fld.other W18 f_12 (Or.inr (slot_ne (Or.inr (hw _ (wd 37 rfl))) (Or.inr (hw _ (wd 33 rfl))) (by decide) (t := .int) (t' := (.object "java/lang/String")) (by decide) (by decide)))
  have f_23 := Fld.other W18 f_13 (Or.inr (slot_ne (Or.inr (hw _ (wd 39 rfl))) (Or.inr (hw _ (wd 33 rfl))) (by decide) (t := .boolean) (t' := (.object "java/lang/String")) (by decide) (by decide)))
  have f_24 := Fld.other W18 f_14 (Or.inr (slot_ne (Or.inr (hw _ (wd 41 rfl))) (Or.inr (hw _ (wd 33 rfl))) (by decide) (t := (.object "com/example/stationgraph/stationgraph/station/PathwayDirection")) (t' := (.object "java/lang/String")) (by decide) (by decide)))
  have f_25 := Fld.other W18 f_8 (Or.inr (slot_ne (Or.inr (hw _ (wd 31 rfl))) (Or.inr (hw _ (wd 33 rfl))) (by decide) (t := (.object "java/lang/String")) (t' := (.object "java/lang/String")) (by decide) (by decide)))
  have O_26 := O_15.wr W18 g0
  have K_27 := K_16.wr W18 (Or.inl (List.mem_of_getElem? (i := 0) rfl))
  have k_28 : Go p.tables e below (s₁.setTop (entryFrame m #[(.ref a1), (.ref x0), (.ref x1), (.int x2), (.int x3), (.int x4), x5] 7)) (T18.setTop (mkF m 16 #[rv a1, rv x0, rv x1, iv x2, iv x3, iv x4, .val x5] [(.int x2), (.ref a1)])) := fun t q => by
    refine k_17 t ?_
    refine st18 _ ?_
    show Steps _ _ _ (T18.setTop (mkF m 14 #[rv a1, rv x0, rv x1, iv x2, iv x3, iv x4, .val x5] [])) _
    refine XS.aloadN X18.here hx rfl (hb hby d2_14) rfl rfl ?_
    show Steps _ _ _ (T18.setTop (mkF m 15 #[rv a1, rv x0, rv x1, iv x2, iv x3, iv x4, .val x5] [(.ref a1)])) _
    refine XS.iloadN X18.here hx rfl (hb hby d2_15) rfl ?_
    show Steps _ _ _ (T18.setTop (mkF m 16 #[rv a1, rv x0, rv x1, iv x2, iv x3, iv x4, .val x5] [(.int x2), (.ref a1)])) _
    exact q
  obtain ⟨T29, h29, X29, e29, W29, st29⟩ := putF X18 hx hZ hown (host := "") (Or.inl (hw _ (wd 34 rfl))) Via.refl e18 f_21 f_20 (Or.inr ⟨(hw _ (wd 35 rfl)), rfl, hnm⟩) (hw _ (wd 1 rfl)) (ty := .int) (by decide) rfl rfl (g := (mkF m 16 #[rv a1, rv x0, rv x1, iv x2, iv x3, iv x4, .val x5] [(.int x2), (.ref a1)])) rfl rfl (hb hby d2_16)
  have N29 := Fr.snoc X29 N18 g0
  have f_30 := Fld.same W29 f_21
  have f_31 := Exa.wr W29 f_20
  have f_32 := Fld.other W29 f_22 (Or.inr (slot_ne (Or.inr (hw _ (wd 37 rfl))) (Or.inr (hw _ (wd 35 rfl))) (by decide) (t := .int) (t' := .int) (by decide) (by decide)))
  have f_33 := Fld.other W29 f_23 (Or.inr (slot_ne (Or.inr (hw _ (wd 39 rfl))) (Or.inr (hw _ (wd 35 rfl))) (by decide) (t := .boolean) (t' := .int) (by decide) (by decide)))
  have f_34 := Fld.other W29 f_24 (Or.inr (slot_ne (Or.inr (hw _ (wd 41 rfl))) (Or.inr (hw _ (wd 35 rfl))) (by decide) (t := (.object "com/example/stationgraph/stationgraph/station/PathwayDirection")) (t' := .int) (by decide) (by decide)))
  have f_35 := Fld.other W29 f_25 (Or.inr (slot_ne (Or.inr (hw _ (wd 31 rfl))) (Or.inr (hw _ (wd 35 rfl))) (by decide) (t := (.object "java/lang/String")) (t' := .int) (by decide) (by decide)))
  have f_36 := Fld.other W29 f_19 (Or.inr (slot_ne (Or.inr (hw _ (wd 33 rfl))) (Or.inr (hw _ (wd 35 rfl))) (by decide) (t := (.object "java/lang/String")) (t' := .int) (by decide) (by decide)))
  have O_37 := O_26.wr W29 g0
  have K_38 := K_27.wr W29 (Or.inl (List.mem_of_getElem? (i := 0) rfl))
  have k_39 : Go p.tables e below (s₁.setTop (entryFrame m #[(.ref a1), (.ref x0), (.ref x1), (.int x2), (.int x3), (.int x4), x5] 7)) (T29.setTop (mkF m 22 #[rv a1, rv x0, rv x1, iv x2, iv x3, iv x4, .val x5] [(.int x3), (.ref a1)])) := fun t q => by
    refine k_28 t ?_
    refine st29 _ ?_
    show Steps _ _ _ (T29.setTop (mkF m 19 #[rv a1, rv x0, rv x1, iv x2, iv x3, iv x4, .val x5] [])) _
    refine XS.aloadN X29.here hx rfl (hb hby d2_19) rfl rfl ?_
    show Steps _ _ _ (T29.setTop (mkF m 20 #[rv a1, rv x0, rv x1, iv x2, iv x3, iv x4, .val x5] [(.ref a1)])) _
    refine XS.iload X29.here hx rfl (hb hby d2_20) rfl ?_
    show Steps _ _ _ (T29.setTop (mkF m 22 #[rv a1, rv x0, rv x1, iv x2, iv x3, iv x4, .val x5] [(.int x3), (.ref a1)])) _
    exact q
  obtain ⟨T40, h40, X40, e40, W40, st40⟩ := putF X29 hx hZ hown (host := "") (Or.inl (hw _ (wd 36 rfl))) Via.refl e29 f_32 f_31 (Or.inr ⟨(hw _ (wd 37 rfl)), rfl, hnm⟩) (hw _ (wd 1 rfl)) (ty := .int) (by decide) rfl rfl (g := (mkF m 22 #[rv a1, rv x0, rv x1, iv x2, iv x3, iv x4, .val x5] [(.int x3), (.ref a1)])) rfl rfl (hb hby d2_22)
  have N40 := Fr.snoc X40 N29 g0
  have f_41 := Fld.same W40 f_32
  have f_42 := Exa.wr W40 f_31
  have f_43 := Fld.other W40 f_33 (Or.inr (slot_ne (Or.inr (hw _ (wd 39 rfl))) (Or.inr (hw _ (wd 37 rfl))) (by decide) (t := .boolean) (t' := .int) (by decide) (by decide)))
  have f_44 := Fld.other W40 f_34 (Or.inr (slot_ne (Or.inr (hw _ (wd 41 rfl))) (Or.inr (hw _ (wd 37 rfl))) (by decide) (t := (.object "com/example/stationgraph/stationgraph/station/PathwayDirection")) (t' := .int) (by decide) (by decide)))
  have f_45 := Fld.other W40 f_35 (Or.inr (slot_ne (Or.inr (hw _ (wd 31 rfl))) (Or.inr (hw _ (wd 37 rfl))) (by decide) (t := (.object "java/lang/String")) (t' := .int) (by decide) (by decide)))
  have f_46 := Fld.other W40 f_36 (Or.inr (slot_ne (Or.inr (hw _ (wd 33 rfl))) (Or.inr (hw _ (wd 37 rfl))) (by decide) (t := (.object "java/lang/String")) (t' := .int) (by decide) (by decide)))
  have f_47 := Fld.other W40 f_30 (Or.inr (slot_ne (Or.inr (hw _ (wd 35 rfl))) (Or.inr (hw _ (wd 37 rfl))) (by decide) (t := .int) (t' := .int) (by decide) (by decide)))
  have O_48 := O_37.wr W40 g0
  have K_49 := K_38.wr W40 (Or.inl (List.mem_of_getElem? (i := 0) rfl))
  have k_50 : Go p.tables e below (s₁.setTop (entryFrame m #[(.ref a1), (.ref x0), (.ref x1), (.int x2), (.int x3), (.int x4), x5] 7)) (T40.setTop (mkF m 28 #[rv a1, rv x0, rv x1, iv x2, iv x3, iv x4, .val x5] [(.int x4), (.ref a1)])) := fun t q => by
    refine k_39 t ?_
    refine st40 _ ?_
    show Steps _ _ _ (T40.setTop (mkF m 25 #[rv a1, rv x0, rv x1, iv x2, iv x3, iv x4, .val x5] [])) _
    refine XS.aloadN X40.here hx rfl (hb hby d2_25) rfl rfl ?_
    show Steps _ _ _ (T40.setTop (mkF m 26 #[rv a1, rv x0, rv x1, iv x2, iv x3, iv x4, .val x5] [(.ref a1)])) _
    refine XS.iload X40.here hx rfl (hb hby d2_26) rfl ?_
    show Steps _ _ _ (T40.setTop (mkF m 28 #[rv a1, rv x0, rv x1, iv x2, iv x3, iv x4, .val x5] [(.int x4), (.ref a1)])) _
    exact q
  obtain ⟨T51, h51, X51, e51, W51, st51⟩ := putF X40 hx hZ hown (host := "") (Or.inl (hw _ (wd 38 rfl))) Via.refl e40 f_43 f_42 (Or.inr ⟨(hw _ (wd 39 rfl)), rfl, hnm⟩) (hw _ (wd 1 rfl)) (ty := .boolean) (by decide) (own_narrow_bool hz_x4) (own_fits_bool hz_x4) (g := (mkF m 28 #[rv a1, rv x0, rv x1, iv x2, iv x3, iv x4, .val x5] [(.int x4), (.ref a1)])) rfl rfl (hb hby d2_28)
  have N51 := Fr.snoc X51 N40 g0
  have f_52 := Fld.same W51 f_43
  have f_53 := Exa.wr W51 f_42
  have f_54 := Fld.other W51 f_44 (Or.inr (slot_ne (Or.inr (hw _ (wd 41 rfl))) (Or.inr (hw _ (wd 39 rfl))) (by decide) (t := (.object "com/example/stationgraph/stationgraph/station/PathwayDirection")) (t' := .boolean) (by decide) (by decide)))
  have f_55 := Fld.other W51 f_45 (Or.inr (slot_ne (Or.inr (hw _ (wd 31 rfl))) (Or.inr (hw _ (wd 39 rfl))) (by decide) (t := (.object "java/lang/String")) (t' := .boolean) (by decide) (by decide)))
  have f_56 := Fld.other W51 f_46 (Or.inr (slot_ne (Or.inr (hw _ (wd 33 rfl))) (Or.inr (hw _ (wd 39 rfl))) (by decide) (t := (.object "java/lang/String")) (t' := .boolean) (by decide) (by decide)))
  have f_57 := Fld.other W51 f_47 (Or.inr (slot_ne (Or.inr (hw _ (wd 35 rfl))) (Or.inr (hw _ (wd 39 rfl))) (by decide) (t := .int) (t' := .boolean) (by decide) (by decide)))
  have f_58 := Fld.other W51 f_41 (Or.inr (slot_ne (Or.inr (hw _ (wd 37 rfl))) (Or.inr (hw _ (wd 39 rfl))) (by decide) (t := .int) (t' := .boolean) (by decide) (by decide)))
  have O_59 := O_48.wr W51 g0
  have K_60 := K_49.wr W51 (Or.inl (List.mem_of_getElem? (i := 0) rfl))
  have k_61 : Go p.tables e below (s₁.setTop (entryFrame m #[(.ref a1), (.ref x0), (.ref x1), (.int x2), (.int x3), (.int x4), x5] 7)) (T51.setTop (mkF m 34 #[rv a1, rv x0, rv x1, iv x2, iv x3, iv x4, .val x5] [x5, (.ref a1)])) := fun t q => by
    refine k_50 t ?_
    refine st51 _ ?_
    show Steps _ _ _ (T51.setTop (mkF m 31 #[rv a1, rv x0, rv x1, iv x2, iv x3, iv x4, .val x5] [])) _
    refine XS.aloadN X51.here hx rfl (hb hby d2_31) rfl rfl ?_
    show Steps _ _ _ (T51.setTop (mkF m 32 #[rv a1, rv x0, rv x1, iv x2, iv x3, iv x4, .val x5] [(.ref a1)])) _
    refine XS.aload X51.here hx rfl (hb hby d2_32) rfl hr_x5 ?_
    show Steps _ _ _ (T51.setTop (mkF m 34 #[rv a1, rv x0, rv x1, iv x2, iv x3, iv x4, .val x5] [x5, (.ref a1)])) _
    exact q
  obtain ⟨T62, h62, X62, e62, W62, st62⟩ := putF X51 hx hZ hown (host := "") (Or.inl (hw _ (wd 40 rfl))) Via.refl e51 f_54 f_53 (Or.inr ⟨(hw _ (wd 41 rfl)), rfl, hnm⟩) (hw _ (wd 1 rfl)) (ty := (.object "com/example/stationgraph/stationgraph/station/PathwayDirection")) (by decide) (own_narrow_ref hr_x5) (own_fits_ref hr_x5) (g := (mkF m 34 #[rv a1, rv x0, rv x1, iv x2, iv x3, iv x4, .val x5] [x5, (.ref a1)])) rfl rfl (hb hby d2_34)
  have N62 := Fr.snoc X62 N51 g0
  have f_63 := Fld.same W62 f_54
  have f_64 := Exa.wr W62 f_53
  have f_65 := Fld.other W62 f_55 (Or.inr (slot_ne (Or.inr (hw _ (wd 31 rfl))) (Or.inr (hw _ (wd 41 rfl))) (by decide) (t := (.object "java/lang/String")) (t' := (.object "com/example/stationgraph/stationgraph/station/PathwayDirection")) (by decide) (by decide)))
  have f_66 := Fld.other W62 f_56 (Or.inr (slot_ne (Or.inr (hw _ (wd 33 rfl))) (Or.inr (hw _ (wd 41 rfl))) (by decide) (t := (.object "java/lang/String")) (t' := (.object "com/example/stationgraph/stationgraph/station/PathwayDirection")) (by decide) (by decide)))
  have f_67 := Fld.other W62 f_57 (Or.inr (slot_ne (Or.inr (hw _ (wd 35 rfl))) (Or.inr (hw _ (wd 41 rfl))) (by decide) (t := .int) (t' := (.object "com/example/stationgraph/stationgraph/station/PathwayDirection")) (by decide) (by decide)))
  have f_68 := Fld.other W62 f_58 (Or.inr (slot_ne (Or.inr (hw _ (wd 37 rfl))) (Or.inr (hw _ (wd 41 rfl))) (by decide) (t := .int) (t' := (.object "com/example/stationgraph/stationgraph/station/PathwayDirection")) (by decide) (by decide)))
  have f_69 := Fld.other W62 f_52 (Or.inr (slot_ne (Or.inr (hw _ (wd 39 rfl))) (Or.inr (hw _ (wd 41 rfl))) (by decide) (t := .boolean) (t' := (.object "com/example/stationgraph/stationgraph/station/PathwayDirection")) (by decide) (by decide)))
  have O_70 := O_59.wr W62 g0
  have K_71 := K_60.wr W62 (Or.inl (List.mem_of_getElem? (i := 0) rfl))
  have k_72 : Go p.tables e below (s₁.setTop (entryFrame m #[(.ref a1), (.ref x0), (.ref x1), (.int x2), (.int x3), (.int x4), x5] 7)) (T62.setTop (mkF m 37 #[rv a1, rv x0, rv x1, iv x2, iv x3, iv x4, .val x5] [])) := fun t q => by
    refine k_61 t ?_
    refine st62 _ ?_
    show Steps _ _ _ (T62.setTop (mkF m 37 #[rv a1, rv x0, rv x1, iv x2, iv x3, iv x4, .val x5] [])) _
    exact q
  obtain ⟨fs, hr, hrun, hended, hW, hsame⟩ := X62.leave (v := none) (fun _ => rfl)
  refine ⟨_, _, k_72 _ ?_, hrun, hended, _, _, rfl, ?_, ⟨_, rfl⟩, hW, hsame.mono (by decide) (by decide)⟩
  · exact X62.returnOut hx Bd.returns (hb hby d2_37) hr
  · show QI_r Z a1 x0 x1 x2 x3 x4 x5 h0 n0 _ T62.heap _
    rw [e62]
    exact ⟨rfl, N62, K_71, f_65, f_66, f_67, f_68, f_69, f_63⟩
set_option maxRecDepth 65536 in
set_option maxHeartbeats 40000000 in
theorem rm0 (l : Launch) (Z : State) (a0 : Array Value) (hw : ∀ d ∈ tables_1, d.before a0 Z = true) (ws : List Jvm.Cond) (a_FORWARDS a_BOTH a_BACKWARDS : Addr) (G : Own Z a_FORWARDS a_BOTH a_BACKWARDS) (q1 q2 q3 q4 : Int32) (h0 : Heap) (n0 : Nat) (O0 : Old Z n0 h0)  :
    MetFree l x (head1 (Jvm.Cond.code x code maxLocals ret :: ws) room_1) (fun a U => a = #[(.int q1), (.int q2), (.int q3), (.int q4)] ∧ Z.Warmed39 U.vm ∧ U.heap = h0) (fun _ _ _ _ _ => True) (fun _ U o U' => ∃ v L, o = .returned v ∧ Q0 n0 v U'.heap L ∧ ReturnedEndW U o U' L room_1.cells room_1.slots) := by
  refine MetFree.of_bodySF (plainFor_of_name pn_2) hisR ?_
  intro p e s m args below meth c s₁ Bd hml0 hP hK
  obtain ⟨rfl, hZ, hh⟩ := hP
  have hx := Bd.exec
  have hby := Bd.bytes
  have hml : c.maxLocals = 15 := hml0
  have hown : s.vm.findClass "com/example/stationgraph/stationgraph/station/ChangeCoversPinLaw" = some m.cls := findClass_of_methodNamed Bd.named
  have hnm := (name_of_methodNamed Bd.named Bd.method).1
  have X0 : Stand p l e room_1 (s.setVm s.vm) m #[(.int q1), (.int q2), (.int q3), (.int q4)] below meth c s₁ [] 0 0 := Stand.of_body Bd
  have e0 : s₁.heap = h0 := by rw [← hh, Bd.state]; rfl
  have N0 := Fr.nil n0
  have K0 := Keep.refl h0 []
  have k0 : Go p.tables e below (s₁.setTop (entryFrame m #[(.int q1), (.int q2), (.int q3), (.int q4)] maxLocals)) (s₁.setTop (mkF m 0 #[iv q1, iv q2, iv q3, iv q4, .unset, .unset, .unset, .unset, .unset, .unset, .unset, .unset, .unset, .unset, .unset] [])) := fun t k => castTop (by first | rfl | (simp [entryFrame, mkF, argsToLocals, Value.category, maxLocals]; done)) k
  have hS0 : s.Since s.vm h0.size := (State.WarmedH.refl s).since _
  have hk0 : h0.size ≤ h0.size := Nat.le_refl _
  have ⟨S_FORWARDS, E_FORWARDS, S_BOTH, E_BOTH, S_BACKWARDS, E_BACKWARDS⟩ := G
  obtain ⟨T96, r96, X96, e96, hz96, k_j96⟩ : ∃ (T' : State) (r96 : Int32), Stand p l e room_1 (s.setVm s.vm) m #[(.int q1), (.int q2), (.int q3), (.int q4)] below meth c T' [] 0 0 ∧ T'.heap = h0 ∧ (r96 = 0 ∨ r96 = 1) ∧ Go p.tables e below (s₁.setTop (entryFrame m #[(.int q1), (.int q2), (.int q3), (.int q4)] maxLocals)) (T'.setTop (mkF m 13 #[iv q1, iv q2, iv q3, iv q4, iv r96, .unset, .unset, .unset, .unset, .unset, .unset, .unset, .unset, .unset, .unset] [])) := by
    rcases Decidable.em (q4 &&& 4 = 0) with hi | hi
    · skip
      have k_97 : Go p.tables e below (s₁.setTop (entryFrame m #[(.int q1), (.int q2), (.int q3), (.int q4)] maxLocals)) (s₁.setTop (mkF m 13 #[iv q1, iv q2, iv q3, iv q4, iv 0, .unset, .unset, .unset, .unset, .unset, .unset, .unset, .unset, .unset, .unset] [])) := fun t q => by
        refine k0 t ?_
        refine XS.iloadN X0.here hx rfl (hb hby at_0) rfl ?_
        show Steps _ _ _ (s₁.setTop (mkF m 1 #[iv q1, iv q2, iv q3, iv q4, .unset, .unset, .unset, .unset, .unset, .unset, .unset, .unset, .unset, .unset, .unset] [(.int q4)])) _
        refine XS.iconst X0.here hx rfl (hb hby at_1) ?_
        show Steps _ _ _ (s₁.setTop (mkF m 2 #[iv q1, iv q2, iv q3, iv q4, .unset, .unset, .unset, .unset, .unset, .unset, .unset, .unset, .unset, .unset, .unset] [(.int 4), (.int q4)])) _
        refine XS.iand X0.here hx rfl (hb hby at_2) rfl ?_
        show Steps _ _ _ (s₁.setTop (mkF m 3 #[iv q1, iv q2, iv q3, iv q4, .unset, .unset, .unset, .unset, .unset, .unset, .unset, .unset, .unset, .unset, .unset] [(.int (q4 &&& (4 : Int32)))])) _
        refine XS.ifYes X0.here hx rfl (pc0 := 3) (pc' := 10) rfl (hb hby at_3) rfl ((if0 _ _).trans (teq hi).1) (by decide) (by decide) ?_
        show Steps _ _ _ (s₁.setTop (mkF m 10 #[iv q1, iv q2, iv q3, iv q4, .unset, .unset, .unset, .unset, .unset, .unset, .unset, .unset, .unset, .unset, .unset] [])) _
        refine XS.iconst X0.here hx rfl (hb hby at_10) ?_
        show Steps _ _ _ (s₁.setTop (mkF m 11 #[iv q1, iv q2, iv q3, iv q4, .unset, .unset, .unset, .unset, .unset, .unset, .unset, .unset, .unset, .unset, .unset] [(.int 0)])) _
        refine XS.istore X0.here hx rfl (hb hby at_11) rfl (l' := #[iv q1, iv q2, iv q3, iv q4, iv 0, .unset, .unset, .unset, .unset, .unset, .unset, .unset, .unset, .unset, .unset]) rfl ?_
        show Steps _ _ _ (s₁.setTop (mkF m 13 #[iv q1, iv q2, iv q3, iv q4, iv 0, .unset, .unset, .unset, .unset, .unset, .unset, .unset, .unset, .unset, .unset] [])) _
        exact q
      exact ⟨_, _, X0, e0, (by decide), k_97⟩
    · skip
      have k_98 : Go p.tables e below (s₁.setTop (entryFrame m #[(.int q1), (.int q2), (.int q3), (.int q4)] maxLocals)) (s₁.setTop (mkF m 13 #[iv q1, iv q2, iv q3, iv q4, iv 1, .unset, .unset, .unset, .unset, .unset, .unset, .unset, .unset, .unset, .unset] [])) := fun t q => by
        refine k0 t ?_
        refine XS.iloadN X0.here hx rfl (hb hby at_0) rfl ?_
        show Steps _ _ _ (s₁.setTop (mkF m 1 #[iv q1, iv q2, iv q3, iv q4, .unset, .unset, .unset, .unset, .unset, .unset, .unset, .unset, .unset, .unset, .unset] [(.int q4)])) _
        refine XS.iconst X0.here hx rfl (hb hby at_1) ?_
        show Steps _ _ _ (s₁.setTop (mkF m 2 #[iv q1, iv q2, iv q3, iv q4, .unset, .unset, .unset, .unset, .unset, .unset, .unset, .unset, .unset, .unset, .unset] [(.int 4), (.int q4)])) _
        refine XS.iand X0.here hx rfl (hb hby at_2) rfl ?_
        show Steps _ _ _ (s₁.setTop (mkF m 3 #[iv q1, iv q2, iv q3, iv q4, .unset, .unset, .unset, .unset, .unset, .unset, .unset, .unset, .unset, .unset, .unset] [(.int (q4 &&& (4 : Int32)))])) _
        refine XS.ifNo X0.here hx rfl (hb hby at_3) rfl ((if0 _ _).trans (feq hi).1) ?_
        show Steps _ _ _ (s₁.setTop (mkF m 6 #[iv q1, iv q2, iv q3, iv q4, .unset, .unset, .unset, .unset, .unset, .unset, .unset, .unset, .unset, .unset, .unset] [])) _
        refine XS.iconst X0.here hx rfl (hb hby at_6) ?_
        show Steps _ _ _ (s₁.setTop (mkF m 7 #[iv q1, iv q2, iv q3, iv q4, .unset, .unset, .unset, .unset, .unset, .unset, .unset, .unset, .unset, .unset, .unset] [(.int 1)])) _
        refine XS.goto X0.here hx rfl (pc0 := 7) (pc' := 11) rfl (hb hby at_7) (by decide) (by decide) ?_
        show Steps _ _ _ (s₁.setTop (mkF m 11 #[iv q1, iv q2, iv q3, iv q4, .unset, .unset, .unset, .unset, .unset, .unset, .unset, .unset, .unset, .unset, .unset] [(.int 1)])) _
        refine XS.istore X0.here hx rfl (hb hby at_11) rfl (l' := #[iv q1, iv q2, iv q3, iv q4, iv 1, .unset, .unset, .unset, .unset, .unset, .unset, .unset, .unset, .unset, .unset]) rfl ?_
        show Steps _ _ _ (s₁.setTop (mkF m 13 #[iv q1, iv q2, iv q3, iv q4, iv 1, .unset, .unset, .unset, .unset, .unset, .unset, .unset, .unset, .unset, .unset] [])) _
        exact q
      exact ⟨_, _, X0, e0, (by decide), k_98⟩
  obtain ⟨T99, h99, X99, e99, E99, A99, D99, -, st99⟩ := newO X96 hx hZ hown (hw _ (wd 0 rfl)) (hw _ (wd 1 rfl)) (hw _ (wd 2 rfl)) e96 (g := (mkF m 13 #[iv q1, iv q2, iv q3, iv q4, iv r96, .unset, .unset, .unset, .unset, .unset, .unset, .unset, .unset, .unset, .unset] [])) rfl (hb hby at_13) (by decide) (by decide)
  obtain ⟨b99, g99⟩ : ∃ z, z = h0.size := ⟨_, rfl⟩
  rw [← g99] at A99 D99 st99
  have g_b99 : n0 ≤ b99 := Nat.le_trans (own_old_le O0) (Nat.le_of_eq g99.symm)
  have sz_b99 : h0.size ≤ b99 := Nat.le_trans K0.1 (Nat.le_of_eq g99.symm)
  have O_100 := O0.ext E99
  have K_101 := K0.ext E99
  have hk_102 := Nat.le_trans hk0 E99.1
  have F99_pathwayId : Fld Z h99 b99 "com/example/stationgraph/stationgraph/station/PlannedChanges$Change" "pathwayId" "Ljava/lang/String;" .null := D99 (Or.inr (hw _ (wd 31 rfl))) (ty := (.object "java/lang/String")) (by decide)
  have F99_serviceId : Fld Z h99 b99 "com/example/stationgraph/stationgraph/station/PlannedChanges$Change" "serviceId" "Ljava/lang/String;" .null := D99 (Or.inr (hw _ (wd 33 rfl))) (ty := (.object "java/lang/String")) (by decide)
  have F99_start : Fld Z h99 b99 "com/example/stationgraph/stationgraph/station/PlannedChanges$Change" "start" "I" (.int 0) := D99 (Or.inr (hw _ (wd 35 rfl))) (ty := .int) (by decide)
  have F99_end : Fld Z h99 b99 "com/example/stationgraph/stationgraph/station/PlannedChanges$Change" "end" "I" (.int 0) := D99 (Or.inr (hw _ (wd 37 rfl))) (ty := .int) (by decide)
  have F99_closed : Fld Z h99 b99 "com/example/stationgraph/stationgraph/station/PlannedChanges$Change" "closed" "Z" (.int 0) := D99 (Or.inr (hw _ (wd 39 rfl))) (ty := .boolean) (by decide)
  have F99_direction : Fld Z h99 b99 "com/example/stationgraph/stationgraph/station/PlannedChanges$Change" "direction" "Lcom/example/stationgraph/stationgraph/station/PathwayDirection;" .null := D99 (Or.inr (hw _ (wd 41 rfl))) (ty := (.object "com/example/stationgraph/stationgraph/station/PathwayDirection")) (by decide)
  have k_103 : Go p.tables e below (s₁.setTop (entryFrame m #[(.int q1), (.int q2), (.int q3), (.int q4)] maxLocals)) (T99.setTop (mkF m 17 #[iv q1, iv q2, iv q3, iv q4, iv r96, .unset, .unset, .unset, .unset, .unset, .unset, .unset, .unset, .unset, .unset] [(.ref b99), (.ref b99)])) := fun t q => by
    refine k_j96 t ?_
    refine st99 _ ?_
    show Steps _ _ _ (T99.setTop (mkF m 16 #[iv q1, iv q2, iv q3, iv q4, iv r96, .unset, .unset, .unset, .unset, .unset, .unset, .unset, .unset, .unset, .unset] [(.ref b99)])) _
    refine XS.dup X99.here hx rfl (hb hby at_16) rfl rfl ?_
    show Steps _ _ _ (T99.setTop (mkF m 17 #[iv q1, iv q2, iv q3, iv q4, iv r96, .unset, .unset, .unset, .unset, .unset, .unset, .unset, .unset, .unset, .unset] [(.ref b99), (.ref b99)])) _
    exact q
  obtain ⟨sa104, T104, h104, kk104, X104, e104, E104, hS104, hk104, hZ104, hown104, st104⟩ := ldcS X99 hx hZ hown (hw _ (wd 3 rfl)) (own_strs hw) e99 hS0 hk_102 (g := (mkF m 17 #[iv q1, iv q2, iv q3, iv q4, iv r96, .unset, .unset, .unset, .unset, .unset, .unset, .unset, .unset, .unset, .unset] [(.ref b99), (.ref b99)])) rfl (hb hby at_17) (n := 4) (by decide) (by decide) (by decide) (by decide)
  have f_105 := Exa.ext E104 A99
  have f_106 := Fld.ext E104 F99_pathwayId
  have f_107 := Fld.ext E104 F99_serviceId
  have f_108 := Fld.ext E104 F99_start
  have f_109 := Fld.ext E104 F99_end
  have f_110 := Fld.ext E104 F99_closed
  have f_111 := Fld.ext E104 F99_direction
  have O_112 := O_100.ext E104
  have K_113 := K_101.ext E104
  have hk_114 := Nat.le_trans hk_102 E104.1
  have k_115 : Go p.tables e below (s₁.setTop (entryFrame m #[(.int q1), (.int q2), (.int q3), (.int q4)] maxLocals)) (T104.setTop (mkF m 19 #[iv q1, iv q2, iv q3, iv q4, iv r96, .unset, .unset, .unset, .unset, .unset, .unset, .unset, .unset, .unset, .unset] [(.ref sa104), (.ref b99), (.ref b99)])) := fun t q => by
    refine k_103 t ?_
    refine st104 _ ?_
    show Steps _ _ _ (T104.setTop (mkF m 19 #[iv q1, iv q2, iv q3, iv q4, iv r96, .unset, .unset, .unset, .unset, .unset, .unset, .unset, .unset, .unset, .unset] [(.ref sa104), (.ref b99), (.ref b99)])) _
    exact q
  obtain ⟨sa116, T116, h116, kk116, X116, e116, E116, hS116, hk116, hZ116, hown116, st116⟩ := ldcS X104 hx hZ104 hown104 (hw _ (wd 11 rfl)) (own_strs hw) e104 hS104 hk104 (g := (mkF m 19 #[iv q1, iv q2, iv q3, iv q4, iv r96, .unset, .unset, .unset, .unset, .unset, .unset, .unset, .unset, .unset, .unset] [(.ref sa104), (.ref b99), (.ref b99)])) rfl (hb hby at_19) (n := 4) (by decide) (by decide) (by decide) (by decide)
  have f_117 := Exa.ext E116 f_105
  have f_118 := Fld.ext E116 f_106
  have f_119 := Fld.ext E116 f_107
  have f_120 := Fld.ext E116 f_108
  have f_121 := Fld.ext E116 f_109
  have f_122 := Fld.ext E116 f_110
  have f_123 := Fld.ext E116 f_111
  have O_124 := O_112.ext E116
  have K_125 := K_113.ext E116
  have hk_126 := Nat.le_trans hk104 E116.1
  have k_127 : Go p.tables e below (s₁.setTop (entryFrame m #[(.int q1), (.int q2), (.int q3), (.int q4)] maxLocals)) (T116.setTop (mkF m 26 #[iv q1, iv q2, iv q3, iv q4, iv r96, .unset, .unset, .unset, .unset, .unset, .unset, .unset, .unset, .unset, .unset] [(.int q4), (.int r96), (.int q2), (.int q1), (.ref sa116), (.ref sa104), (.ref b99), (.ref b99)])) := fun t q => by
    refine k_115 t ?_
    refine st116 _ ?_
    show Steps _ _ _ (T116.setTop (mkF m 21 #[iv q1, iv q2, iv q3, iv q4, iv r96, .unset, .unset, .unset, .unset, .unset, .unset, .unset, .unset, .unset, .unset] [(.ref sa116), (.ref sa104), (.ref b99), (.ref b99)])) _
    refine XS.iloadN X116.here hx rfl (hb hby at_21) rfl ?_
    show Steps _ _ _ (T116.setTop (mkF m 22 #[iv q1, iv q2, iv q3, iv q4, iv r96, .unset, .unset, .unset, .unset, .unset, .unset, .unset, .unset, .unset, .unset] [(.int q1), (.ref sa116), (.ref sa104), (.ref b99), (.ref b99)])) _
    refine XS.iloadN X116.here hx rfl (hb hby at_22) rfl ?_
    show Steps _ _ _ (T116.setTop (mkF m 23 #[iv q1, iv q2, iv q3, iv q4, iv r96, .unset, .unset, .unset, .unset, .unset, .unset, .unset, .unset, .unset, .unset] [(.int q2), (.int q1), (.ref sa116), (.ref sa104), (.ref b99), (.ref b99)])) _
    refine XS.iload X116.here hx rfl (hb hby at_23) rfl ?_
    show Steps _ _ _ (T116.setTop (mkF m 25 #[iv q1, iv q2, iv q3, iv q4, iv r96, .unset, .unset, .unset, .unset, .unset, .unset, .unset, .unset, .unset, .unset] [(.int r96), (.int q2), (.int q1), (.ref sa116), (.ref sa104), (.ref b99), (.ref b99)])) _
    refine XS.iloadN X116.here hx rfl (hb hby at_25) rfl ?_
    show Steps _ _ _ (T116.setTop (mkF m 26 #[iv q1, iv q2, iv q3, iv q4, iv r96, .unset, .unset, .unset, .unset, .unset, .unset, .unset, .unset, .unset, .unset] [(.int q4), (.int r96), (.int q2), (.int q1), (.ref sa116), (.ref sa104), (.ref b99), (.ref b99)])) _
    exact q
  obtain ⟨_, _, ⟨T128, L128, k128, n128⟩, -, X128, ⟨Lc128, hQ128, l128, y128, z128⟩, st128⟩ := Jvm.LawKit.callS X116 hx (y := y_2) hown116 (mvT hZ116 (hw _ (wd 12 rfl))) (mvT hZ116 (hw _ (wd 13 rfl))) (mvT hZ116 (hw _ (wd 14 rfl))) (mvT hZ116 (hw _ (wd 15 rfl))) (by decide) (backOf (W := 7) (dr l Z a0 hw [] a_FORWARDS a_BOTH a_BACKWARDS G q4 h116 n0 O_124) hZ116 (hw _ (wd 15 rfl)) (hw _ (wd 14 rfl)) (by decide) (by decide)) (g := (mkF m 26 #[iv q1, iv q2, iv q3, iv q4, iv r96, .unset, .unset, .unset, .unset, .unset, .unset, .unset, .unset, .unset, .unset] [(.int q4), (.int r96), (.int q2), (.int q1), (.ref sa116), (.ref sa104), (.ref b99), (.ref b99)])) rfl (by rw [hml]; rfl) (argsL := [(.int q4)]) (rest := [(.int r96), (.int q2), (.int q1), (.ref sa116), (.ref sa104), (.ref b99), (.ref b99)]) (lenOf pd_1 rfl) rfl (by show 2 * 0 + _ ≤ _; exact Nat.le_of_eq rfl) (hb hby at_26) (fun _ _ => ⟨rfl, e116, (by decide : 5 + 0 ≤ _), (by decide : 22 + 0 ≤ _)⟩)
  dsimp only [Pt.U, Pt.locs, Pt.cells, Pt.slots] at X128 l128 y128 z128 st128 hQ128
  subst l128 y128 z128
  obtain ⟨v128, rfl, hv128, N128q, e128⟩ := hQ128
  have N128 := Fr.app N0 N128q
  have k_129 : Go p.tables e below (s₁.setTop (entryFrame m #[(.int q1), (.int q2), (.int q3), (.int q4)] maxLocals)) (T128.setTop (mkF m 29 #[iv q1, iv q2, iv q3, iv q4, iv r96, .unset, .unset, .unset, .unset, .unset, .unset, .unset, .unset, .unset, .unset] [v128, (.int r96), (.int q2), (.int q1), (.ref sa116), (.ref sa104), (.ref b99), (.ref b99)])) := fun t q => by
    refine k_127 t ?_
    refine st128 _ ?_
    show Steps _ _ _ (T128.setTop (mkF m 29 #[iv q1, iv q2, iv q3, iv q4, iv r96, .unset, .unset, .unset, .unset, .unset, .unset, .unset, .unset, .unset, .unset] [v128, (.int r96), (.int q2), (.int q1), (.ref sa116), (.ref sa104), (.ref b99), (.ref b99)])) _
    exact q
  obtain ⟨_, _, ⟨T130, L130, k130, n130⟩, -, X130, ⟨Lc130, hQ130, l130, y130, z130⟩, st130⟩ := X128.specialBack hx (y := y_1) rfl hown116 (mvT hZ116 (hw _ (wd 19 rfl))) (mvT hZ116 (hw _ (wd 20 rfl))) (mvT hZ116 (hw _ (wd 21 rfl))) (by decide) (backOf (W := 1) (init_r l Z a0 hw [] a_FORWARDS a_BOTH a_BACKWARDS G b99 sa104 sa116 q1 q2 r96 v128 h116 n0 O_124 f_117 f_118 f_119 f_120 f_121 f_122 f_123 g_b99 hz96 hv128) hZ116 (hw _ (wd 21 rfl)) (hw _ (wd 2 rfl)) (by decide) (by decide)) (g := (mkF m 29 #[iv q1, iv q2, iv q3, iv q4, iv r96, .unset, .unset, .unset, .unset, .unset, .unset, .unset, .unset, .unset, .unset] [v128, (.int r96), (.int q2), (.int q1), (.ref sa116), (.ref sa104), (.ref b99), (.ref b99)])) rfl (by rw [hml]; rfl) (Steps.refl _) (a := b99) (argsL := [(.ref sa104), (.ref sa116), (.int q1), (.int q2), (.int r96), v128]) (rest := [(.ref b99)]) (lenOf pd_2 rfl) rfl (by show 2 * 0 + _ ≤ _; exact Nat.le_of_eq rfl) (hb hby at_29) (fun _ _ => ⟨rfl, e128, (by decide : 5 + 0 ≤ _), (by decide : 22 + 0 ≤ _)⟩)
  dsimp only [Pt.U, Pt.locs, Pt.cells, Pt.slots] at X130 l130 y130 z130 st130 hQ130
  subst l130 y130 z130
  obtain ⟨rfl, N130q, K130, I130_0, I130_1, I130_2, I130_3, I130_4, I130_5⟩ := hQ130
  have N130 := Fr.app N128 N130q
  have f_131 := Exa.keep f_117 K130
  have O_138 := O_124.keep K130 (allS g_b99 all0)
  have K_139 := K_125.trans K130 (allS (Or.inr sz_b99) all0)
  have hk_140 := Nat.le_trans hk116 K130.1
  have k_141 : Go p.tables e below (s₁.setTop (entryFrame m #[(.int q1), (.int q2), (.int q3), (.int q4)] maxLocals)) (T130.setTop (mkF m 34 #[iv q1, iv q2, iv q3, iv q4, iv r96, rv b99, .unset, .unset, .unset, .unset, .unset, .unset, .unset, .unset, .unset] [])) := fun t q => by
    refine k_129 t ?_
    refine st130.trans ?_
    show Steps _ _ _ (T130.setTop (mkF m 32 #[iv q1, iv q2, iv q3, iv q4, iv r96, .unset, .unset, .unset, .unset, .unset, .unset, .unset, .unset, .unset, .unset] [(.ref b99)])) _
    refine XS.astore X130.here hx rfl (hb hby at_32) rfl rfl (l' := #[iv q1, iv q2, iv q3, iv q4, iv r96, rv b99, .unset, .unset, .unset, .unset, .unset, .unset, .unset, .unset, .unset]) rfl ?_
    show Steps _ _ _ (T130.setTop (mkF m 34 #[iv q1, iv q2, iv q3, iv q4, iv r96, rv b99, .unset, .unset, .unset, .unset, .unset, .unset, .unset, .unset, .unset] [])) _
    exact q
  rcases Decidable.em (q3 < q1) with hA | hA
  · skip
    rcases Decidable.em (q1 < q2) with hC | hC
    · skip
      have k_142 : Go p.tables e below (s₁.setTop (entryFrame m #[(.int q1), (.int q2), (.int q3), (.int q4)] maxLocals)) (T130.setTop (mkF m 89 #[iv q1, iv q2, iv q3, iv q4, iv r96, rv b99, .val (.long ((q3.toInt64) - (q1.toInt64))), .second, .val (.long ((q2.toInt64) - (q3.toInt64))), .second, iv 0, iv 1, .unset, .unset, .unset] [(.int q3), (.ref b99)])) := fun t q => by
        refine k_141 t ?_
        refine XS.iloadN X130.here hx rfl (hb hby at_34) rfl ?_
        show Steps _ _ _ (T130.setTop (mkF m 35 #[iv q1, iv q2, iv q3, iv q4, iv r96, rv b99, .unset, .unset, .unset, .unset, .unset, .unset, .unset, .unset, .unset] [(.int q3)])) _
        refine XS.i2l X130.here hx rfl (hb hby at_35) rfl ?_
        show Steps _ _ _ (T130.setTop (mkF m 36 #[iv q1, iv q2, iv q3, iv q4, iv r96, rv b99, .unset, .unset, .unset, .unset, .unset, .unset, .unset, .unset, .unset] [(.long (q3.toInt64))])) _
        refine XS.iloadN X130.here hx rfl (hb hby at_36) rfl ?_
        show Steps _ _ _ (T130.setTop (mkF m 37 #[iv q1, iv q2, iv q3, iv q4, iv r96, rv b99, .unset, .unset, .unset, .unset, .unset, .unset, .unset, .unset, .unset] [(.int q1), (.long (q3.toInt64))])) _
        refine XS.i2l X130.here hx rfl (hb hby at_37) rfl ?_
        show Steps _ _ _ (T130.setTop (mkF m 38 #[iv q1, iv q2, iv q3, iv q4, iv r96, rv b99, .unset, .unset, .unset, .unset, .unset, .unset, .unset, .unset, .unset] [(.long (q1.toInt64)), (.long (q3.toInt64))])) _
        refine XS.lsub X130.here hx rfl (hb hby at_38) rfl ?_
        show Steps _ _ _ (T130.setTop (mkF m 39 #[iv q1, iv q2, iv q3, iv q4, iv r96, rv b99, .unset, .unset, .unset, .unset, .unset, .unset, .unset, .unset, .unset] [(.long ((q3.toInt64) - (q1.toInt64)))])) _
        refine XS.lstore X130.here hx rfl (hb hby at_39) rfl (l' := #[iv q1, iv q2, iv q3, iv q4, iv r96, rv b99, .val (.long ((q3.toInt64) - (q1.toInt64))), .second, .unset, .unset, .unset, .unset, .unset, .unset, .unset]) rfl ?_
        show Steps _ _ _ (T130.setTop (mkF m 41 #[iv q1, iv q2, iv q3, iv q4, iv r96, rv b99, .val (.long ((q3.toInt64) - (q1.toInt64))), .second, .unset, .unset, .unset, .unset, .unset, .unset, .unset] [])) _
        refine XS.iloadN X130.here hx rfl (hb hby at_41) rfl ?_
        show Steps _ _ _ (T130.setTop (mkF m 42 #[iv q1, iv q2, iv q3, iv q4, iv r96, rv b99, .val (.long ((q3.toInt64) - (q1.toInt64))), .second, .unset, .unset, .unset, .unset, .unset, .unset, .unset] [(.int q2)])) _
        refine XS.i2l X130.here hx rfl (hb hby at_42) rfl ?_
        show Steps _ _ _ (T130.setTop (mkF m 43 #[iv q1, iv q2, iv q3, iv q4, iv r96, rv b99, .val (.long ((q3.toInt64) - (q1.toInt64))), .second, .unset, .unset, .unset, .unset, .unset, .unset, .unset] [(.long (q2.toInt64))])) _
        refine XS.iloadN X130.here hx rfl (hb hby at_43) rfl ?_
        show Steps _ _ _ (T130.setTop (mkF m 44 #[iv q1, iv q2, iv q3, iv q4, iv r96, rv b99, .val (.long ((q3.toInt64) - (q1.toInt64))), .second, .unset, .unset, .unset, .unset, .unset, .unset, .unset] [(.int q3), (.long (q2.toInt64))])) _
        refine XS.i2l X130.here hx rfl (hb hby at_44) rfl ?_
        show Steps _ _ _ (T130.setTop (mkF m 45 #[iv q1, iv q2, iv q3, iv q4, iv r96, rv b99, .val (.long ((q3.toInt64) - (q1.toInt64))), .second, .unset, .unset, .unset, .unset, .unset, .unset, .unset] [(.long (q3.toInt64)), (.long (q2.toInt64))])) _
        refine XS.lsub X130.here hx rfl (hb hby at_45) rfl ?_
        show Steps _ _ _ (T130.setTop (mkF m 46 #[iv q1, iv q2, iv q3, iv q4, iv r96, rv b99, .val (.long ((q3.toInt64) - (q1.toInt64))), .second, .unset, .unset, .unset, .unset, .unset, .unset, .unset] [(.long ((q2.toInt64) - (q3.toInt64)))])) _
        refine XS.lstore X130.here hx rfl (hb hby at_46) rfl (l' := #[iv q1, iv q2, iv q3, iv q4, iv r96, rv b99, .val (.long ((q3.toInt64) - (q1.toInt64))), .second, .val (.long ((q2.toInt64) - (q3.toInt64))), .second, .unset, .unset, .unset, .unset, .unset]) rfl ?_
        show Steps _ _ _ (T130.setTop (mkF m 48 #[iv q1, iv q2, iv q3, iv q4, iv r96, rv b99, .val (.long ((q3.toInt64) - (q1.toInt64))), .second, .val (.long ((q2.toInt64) - (q3.toInt64))), .second, .unset, .unset, .unset, .unset, .unset] [])) _
        refine XS.lload X130.here hx rfl (hb hby at_48) rfl ?_
        show Steps _ _ _ (T130.setTop (mkF m 50 #[iv q1, iv q2, iv q3, iv q4, iv r96, rv b99, .val (.long ((q3.toInt64) - (q1.toInt64))), .second, .val (.long ((q2.toInt64) - (q3.toInt64))), .second, .unset, .unset, .unset, .unset, .unset] [(.long ((q3.toInt64) - (q1.toInt64)))])) _
        refine XS.lconst X130.here hx rfl (hb hby at_50) ?_
        show Steps _ _ _ (T130.setTop (mkF m 51 #[iv q1, iv q2, iv q3, iv q4, iv r96, rv b99, .val (.long ((q3.toInt64) - (q1.toInt64))), .second, .val (.long ((q2.toInt64) - (q3.toInt64))), .second, .unset, .unset, .unset, .unset, .unset] [(.long (0 : Int64)), (.long ((q3.toInt64) - (q1.toInt64)))])) _
        refine XS.lcmp X130.here hx rfl (hb hby at_51) rfl ?_
        show Steps _ _ _ (T130.setTop (mkF m 52 #[iv q1, iv q2, iv q3, iv q4, iv r96, rv b99, .val (.long ((q3.toInt64) - (q1.toInt64))), .second, .val (.long ((q2.toInt64) - (q3.toInt64))), .second, .unset, .unset, .unset, .unset, .unset] [(.int (lcmpW ((q3.toInt64) - (q1.toInt64)) (0 : Int64)))])) _
        refine XS.ifYes X130.here hx rfl (pc0 := 52) (pc' := 66) rfl (hb hby at_52) rfl ((if0 _ _).trans (tlt ((own_sub_lt _ _).mpr hA)).1) (by decide) (by decide) ?_
        show Steps _ _ _ (T130.setTop (mkF m 66 #[iv q1, iv q2, iv q3, iv q4, iv r96, rv b99, .val (.long ((q3.toInt64) - (q1.toInt64))), .second, .val (.long ((q2.toInt64) - (q3.toInt64))), .second, .unset, .unset, .unset, .unset, .unset] [])) _
        refine XS.iconst X130.here hx rfl (hb hby at_66) ?_
        show Steps _ _ _ (T130.setTop (mkF m 67 #[iv q1, iv q2, iv q3, iv q4, iv r96, rv b99, .val (.long ((q3.toInt64) - (q1.toInt64))), .second, .val (.long ((q2.toInt64) - (q3.toInt64))), .second, .unset, .unset, .unset, .unset, .unset] [(.int 0)])) _
        refine XS.istore X130.here hx rfl (hb hby at_67) rfl (l' := #[iv q1, iv q2, iv q3, iv q4, iv r96, rv b99, .val (.long ((q3.toInt64) - (q1.toInt64))), .second, .val (.long ((q2.toInt64) - (q3.toInt64))), .second, iv 0, .unset, .unset, .unset, .unset]) rfl ?_
        show Steps _ _ _ (T130.setTop (mkF m 69 #[iv q1, iv q2, iv q3, iv q4, iv r96, rv b99, .val (.long ((q3.toInt64) - (q1.toInt64))), .second, .val (.long ((q2.toInt64) - (q3.toInt64))), .second, iv 0, .unset, .unset, .unset, .unset] [])) _
        refine XS.iloadN X130.here hx rfl (hb hby at_69) rfl ?_
        show Steps _ _ _ (T130.setTop (mkF m 70 #[iv q1, iv q2, iv q3, iv q4, iv r96, rv b99, .val (.long ((q3.toInt64) - (q1.toInt64))), .second, .val (.long ((q2.toInt64) - (q3.toInt64))), .second, iv 0, .unset, .unset, .unset, .unset] [(.int q2)])) _
        refine XS.i2l X130.here hx rfl (hb hby at_70) rfl ?_
        show Steps _ _ _ (T130.setTop (mkF m 71 #[iv q1, iv q2, iv q3, iv q4, iv r96, rv b99, .val (.long ((q3.toInt64) - (q1.toInt64))), .second, .val (.long ((q2.toInt64) - (q3.toInt64))), .second, iv 0, .unset, .unset, .unset, .unset] [(.long (q2.toInt64))])) _
        refine XS.iloadN X130.here hx rfl (hb hby at_71) rfl ?_
        show Steps _ _ _ (T130.setTop (mkF m 72 #[iv q1, iv q2, iv q3, iv q4, iv r96, rv b99, .val (.long ((q3.toInt64) - (q1.toInt64))), .second, .val (.long ((q2.toInt64) - (q3.toInt64))), .second, iv 0, .unset, .unset, .unset, .unset] [(.int q1), (.long (q2.toInt64))])) _
        refine XS.i2l X130.here hx rfl (hb hby at_72) rfl ?_
        show Steps _ _ _ (T130.setTop (mkF m 73 #[iv q1, iv q2, iv q3, iv q4, iv r96, rv b99, .val (.long ((q3.toInt64) - (q1.toInt64))), .second, .val (.long ((q2.toInt64) - (q3.toInt64))), .second, iv 0, .unset, .unset, .unset, .unset] [(.long (q1.toInt64)), (.long (q2.toInt64))])) _
        refine XS.lsub X130.here hx rfl (hb hby at_73) rfl ?_
        show Steps _ _ _ (T130.setTop (mkF m 74 #[iv q1, iv q2, iv q3, iv q4, iv r96, rv b99, .val (.long ((q3.toInt64) - (q1.toInt64))), .second, .val (.long ((q2.toInt64) - (q3.toInt64))), .second, iv 0, .unset, .unset, .unset, .unset] [(.long ((q2.toInt64) - (q1.toInt64)))])) _
        refine XS.lconst X130.here hx rfl (hb hby at_74) ?_
        show Steps _ _ _ (T130.setTop (mkF m 75 #[iv q1, iv q2, iv q3, iv q4, iv r96, rv b99, .val (.long ((q3.toInt64) - (q1.toInt64))), .second, .val (.long ((q2.toInt64) - (q3.toInt64))), .second, iv 0, .unset, .unset, .unset, .unset] [(.long (0 : Int64)), (.long ((q2.toInt64) - (q1.toInt64)))])) _
        refine XS.lcmp X130.here hx rfl (hb hby at_75) rfl ?_
        show Steps _ _ _ (T130.setTop (mkF m 76 #[iv q1, iv q2, iv q3, iv q4, iv r96, rv b99, .val (.long ((q3.toInt64) - (q1.toInt64))), .second, .val (.long ((q2.toInt64) - (q3.toInt64))), .second, iv 0, .unset, .unset, .unset, .unset] [(.int (lcmpW ((q2.toInt64) - (q1.toInt64)) (0 : Int64)))])) _
        refine XS.ifNo X130.here hx rfl (hb hby at_76) rfl ((if0 _ _).trans (tlt ((own_sub_gt _ _).mpr hC)).2.2.2) ?_
        show Steps _ _ _ (T130.setTop (mkF m 79 #[iv q1, iv q2, iv q3, iv q4, iv r96, rv b99, .val (.long ((q3.toInt64) - (q1.toInt64))), .second, .val (.long ((q2.toInt64) - (q3.toInt64))), .second, iv 0, .unset, .unset, .unset, .unset] [])) _
        refine XS.iconst X130.here hx rfl (hb hby at_79) ?_
        show Steps _ _ _ (T130.setTop (mkF m 80 #[iv q1, iv q2, iv q3, iv q4, iv r96, rv b99, .val (.long ((q3.toInt64) - (q1.toInt64))), .second, .val (.long ((q2.toInt64) - (q3.toInt64))), .second, iv 0, .unset, .unset, .unset, .unset] [(.int 1)])) _
        refine XS.goto X130.here hx rfl (pc0 := 80) (pc' := 84) rfl (hb hby at_80) (by decide) (by decide) ?_
        show Steps _ _ _ (T130.setTop (mkF m 84 #[iv q1, iv q2, iv q3, iv q4, iv r96, rv b99, .val (.long ((q3.toInt64) - (q1.toInt64))), .second, .val (.long ((q2.toInt64) - (q3.toInt64))), .second, iv 0, .unset, .unset, .unset, .unset] [(.int 1)])) _
        refine XS.istore X130.here hx rfl (hb hby at_84) rfl (l' := #[iv q1, iv q2, iv q3, iv q4, iv r96, rv b99, .val (.long ((q3.toInt64) - (q1.toInt64))), .second, .val (.long ((q2.toInt64) - (q3.toInt64))), .second, iv 0, iv 1, .unset, .unset, .unset]) rfl ?_
        show Steps _ _ _ (T130.setTop (mkF m 86 #[iv q1, iv q2, iv q3, iv q4, iv r96, rv b99, .val (.long ((q3.toInt64) - (q1.toInt64))), .second, .val (.long ((q2.toInt64) - (q3.toInt64))), .second, iv 0, iv 1, .unset, .unset, .unset] [])) _
        refine XS.aload X130.here hx rfl (hb hby at_86) rfl rfl ?_
        show Steps _ _ _ (T130.setTop (mkF m 88 #[iv q1, iv q2, iv q3, iv q4, iv r96, rv b99, .val (.long ((q3.toInt64) - (q1.toInt64))), .second, .val (.long ((q2.toInt64) - (q3.toInt64))), .second, iv 0, iv 1, .unset, .unset, .unset] [(.ref b99)])) _
        refine XS.iloadN X130.here hx rfl (hb hby at_88) rfl ?_
        show Steps _ _ _ (T130.setTop (mkF m 89 #[iv q1, iv q2, iv q3, iv q4, iv r96, rv b99, .val (.long ((q3.toInt64) - (q1.toInt64))), .second, .val (.long ((q2.toInt64) - (q3.toInt64))), .second, iv 0, iv 1, .unset, .unset, .unset] [(.int q3), (.ref b99)])) _
        exact q
      obtain ⟨cq143, kq143, q143a, q143b, q143c⟩ := isOf hZ116 (rfl : T130.heap = _) f_131
      obtain ⟨_, _, ⟨T143, L143, k143, n143⟩, -, X143, ⟨Lc143, hQ143, l143, y143, z143⟩, st143⟩ := X130.virtualBack hx (y := y_3) (z := y_3) hown116 (mvT hZ116 (hw _ (wd 42 rfl))) (mvT hZ116 (hw _ (wd 43 rfl))) (notFace_of_selects (args := #[]) (mvT hZ116 (hw _ (wd 45 rfl)))) (mvT hZ116 (hw _ (wd 45 rfl))) (mvT hZ116 (hw _ (wd 44 rfl))) (by decide) (backOf (W := 0) (cv l Z a0 hw [] a_FORWARDS a_BOTH a_BACKWARDS G b99 q3 q1 q2 (0 : Int32) T130.heap n0 O_138 I130_2 I130_3 (by simp [hA])) hZ116 (hw _ (wd 46 rfl)) (hw _ (wd 2 rfl)) (by decide) (by decide)) q143a q143c (g := (mkF m 89 #[iv q1, iv q2, iv q3, iv q4, iv r96, rv b99, .val (.long ((q3.toInt64) - (q1.toInt64))), .second, .val (.long ((q2.toInt64) - (q3.toInt64))), .second, iv 0, iv 1, .unset, .unset, .unset] [(.int q3), (.ref b99)])) rfl (by rw [hml]; rfl) (Steps.refl _) (argsL := [(.int q3)]) (rest := []) (lenOf pd_3 rfl) rfl (by show 2 * 0 + _ ≤ _; exact Nat.le_of_eq rfl) (hb hby at_89) (fun _ _ => ⟨rfl, (rfl : T130.heap = _), (by decide : 5 + 0 ≤ _), (by decide : 22 + 0 ≤ _)⟩)
      dsimp only [Pt.U, Pt.locs, Pt.cells, Pt.slots] at X143 l143 y143 z143 st143 hQ143
      subst l143 y143 z143
      obtain ⟨rfl, N143q, e143⟩ := hQ143
      have N143 := Fr.app N130 N143q
      have k_144 : Go p.tables e below (s₁.setTop (entryFrame m #[(.int q1), (.int q2), (.int q3), (.int q4)] maxLocals)) (T143.setTop (mkF m 97 #[iv q1, iv q2, iv q3, iv q4, iv r96, rv b99, .val (.long ((q3.toInt64) - (q1.toInt64))), .second, .val (.long ((q2.toInt64) - (q3.toInt64))), .second, iv 0, iv 1, iv 0, .unset, .unset] [(.int q1), (.ref b99)])) := fun t q => by
        refine k_142 t ?_
        refine st143.trans ?_
        show Steps _ _ _ (T143.setTop (mkF m 92 #[iv q1, iv q2, iv q3, iv q4, iv r96, rv b99, .val (.long ((q3.toInt64) - (q1.toInt64))), .second, .val (.long ((q2.toInt64) - (q3.toInt64))), .second, iv 0, iv 1, .unset, .unset, .unset] [(.int 0)])) _
        refine XS.istore X143.here hx rfl (hb hby at_92) rfl (l' := #[iv q1, iv q2, iv q3, iv q4, iv r96, rv b99, .val (.long ((q3.toInt64) - (q1.toInt64))), .second, .val (.long ((q2.toInt64) - (q3.toInt64))), .second, iv 0, iv 1, iv 0, .unset, .unset]) rfl ?_
        show Steps _ _ _ (T143.setTop (mkF m 94 #[iv q1, iv q2, iv q3, iv q4, iv r96, rv b99, .val (.long ((q3.toInt64) - (q1.toInt64))), .second, .val (.long ((q2.toInt64) - (q3.toInt64))), .second, iv 0, iv 1, iv 0, .unset, .unset] [])) _
        refine XS.aload X143.here hx rfl (hb hby at_94) rfl rfl ?_
        show Steps _ _ _ (T143.setTop (mkF m 96 #[iv q1, iv q2, iv q3, iv q4, iv r96, rv b99, .val (.long ((q3.toInt64) - (q1.toInt64))), .second, .val (.long ((q2.toInt64) - (q3.toInt64))), .second, iv 0, iv 1, iv 0, .unset, .unset] [(.ref b99)])) _
        refine XS.iloadN X143.here hx rfl (hb hby at_96) rfl ?_
        show Steps _ _ _ (T143.setTop (mkF m 97 #[iv q1, iv q2, iv q3, iv q4, iv r96, rv b99, .val (.long ((q3.toInt64) - (q1.toInt64))), .second, .val (.long ((q2.toInt64) - (q3.toInt64))), .second, iv 0, iv 1, iv 0, .unset, .unset] [(.int q1), (.ref b99)])) _
        exact q
      obtain ⟨cq145, kq145, q145a, q145b, q145c⟩ := isOf hZ116 e143 f_131
      obtain ⟨_, _, ⟨T145, L145, k145, n145⟩, -, X145, ⟨Lc145, hQ145, l145, y145, z145⟩, st145⟩ := X143.virtualBack hx (y := y_3) (z := y_3) hown116 (mvT hZ116 (hw _ (wd 42 rfl))) (mvT hZ116 (hw _ (wd 43 rfl))) (notFace_of_selects (args := #[]) (mvT hZ116 (hw _ (wd 45 rfl)))) (mvT hZ116 (hw _ (wd 45 rfl))) (mvT hZ116 (hw _ (wd 44 rfl))) (by decide) (backOf (W := 0) (cv l Z a0 hw [] a_FORWARDS a_BOTH a_BACKWARDS G b99 q1 q1 q2 (1 : Int32) T130.heap n0 O_138 I130_2 I130_3 (by simp [hC, Int32.lt_irrefl])) hZ116 (hw _ (wd 46 rfl)) (hw _ (wd 2 rfl)) (by decide) (by decide)) q145a q145c (g := (mkF m 97 #[iv q1, iv q2, iv q3, iv q4, iv r96, rv b99, .val (.long ((q3.toInt64) - (q1.toInt64))), .second, .val (.long ((q2.toInt64) - (q3.toInt64))), .second, iv 0, iv 1, iv 0, .unset, .unset] [(.int q1), (.ref b99)])) rfl (by rw [hml]; rfl) (Steps.refl _) (argsL := [(.int q1)]) (rest := []) (lenOf pd_3 rfl) rfl (by show 2 * 0 + _ ≤ _; exact Nat.le_of_eq rfl) (hb hby at_97) (fun _ _ => ⟨rfl, e143, (by decide : 5 + 0 ≤ _), (by decide : 22 + 0 ≤ _)⟩)
      dsimp only [Pt.U, Pt.locs, Pt.cells, Pt.slots] at X145 l145 y145 z145 st145 hQ145
      subst l145 y145 z145
      obtain ⟨rfl, N145q, e145⟩ := hQ145
      have N145 := Fr.app N143 N145q
      have k_146 : Go p.tables e below (s₁.setTop (entryFrame m #[(.int q1), (.int q2), (.int q3), (.int q4)] maxLocals)) (T145.setTop (mkF m 105 #[iv q1, iv q2, iv q3, iv q4, iv r96, rv b99, .val (.long ((q3.toInt64) - (q1.toInt64))), .second, .val (.long ((q2.toInt64) - (q3.toInt64))), .second, iv 0, iv 1, iv 0, iv 1, .unset] [(.int q2), (.ref b99)])) := fun t q => by
        refine k_144 t ?_
        refine st145.trans ?_
        show Steps _ _ _ (T145.setTop (mkF m 100 #[iv q1, iv q2, iv q3, iv q4, iv r96, rv b99, .val (.long ((q3.toInt64) - (q1.toInt64))), .second, .val (.long ((q2.toInt64) - (q3.toInt64))), .second, iv 0, iv 1, iv 0, .unset, .unset] [(.int 1)])) _
        refine XS.istore X145.here hx rfl (hb hby at_100) rfl (l' := #[iv q1, iv q2, iv q3, iv q4, iv r96, rv b99, .val (.long ((q3.toInt64) - (q1.toInt64))), .second, .val (.long ((q2.toInt64) - (q3.toInt64))), .second, iv 0, iv 1, iv 0, iv 1, .unset]) rfl ?_
        show Steps _ _ _ (T145.setTop (mkF m 102 #[iv q1, iv q2, iv q3, iv q4, iv r96, rv b99, .val (.long ((q3.toInt64) - (q1.toInt64))), .second, .val (.long ((q2.toInt64) - (q3.toInt64))), .second, iv 0, iv 1, iv 0, iv 1, .unset] [])) _
        refine XS.aload X145.here hx rfl (hb hby at_102) rfl rfl ?_
        show Steps _ _ _ (T145.setTop (mkF m 104 #[iv q1, iv q2, iv q3, iv q4, iv r96, rv b99, .val (.long ((q3.toInt64) - (q1.toInt64))), .second, .val (.long ((q2.toInt64) - (q3.toInt64))), .second, iv 0, iv 1, iv 0, iv 1, .unset] [(.ref b99)])) _
        refine XS.iloadN X145.here hx rfl (hb hby at_104) rfl ?_
        show Steps _ _ _ (T145.setTop (mkF m 105 #[iv q1, iv q2, iv q3, iv q4, iv r96, rv b99, .val (.long ((q3.toInt64) - (q1.toInt64))), .second, .val (.long ((q2.toInt64) - (q3.toInt64))), .second, iv 0, iv 1, iv 0, iv 1, .unset] [(.int q2), (.ref b99)])) _
        exact q
      obtain ⟨cq147, kq147, q147a, q147b, q147c⟩ := isOf hZ116 e145 f_131
      obtain ⟨_, _, ⟨T147, L147, k147, n147⟩, -, X147, ⟨Lc147, hQ147, l147, y147, z147⟩, st147⟩ := X145.virtualBack hx (y := y_3) (z := y_3) hown116 (mvT hZ116 (hw _ (wd 42 rfl))) (mvT hZ116 (hw _ (wd 43 rfl))) (notFace_of_selects (args := #[]) (mvT hZ116 (hw _ (wd 45 rfl)))) (mvT hZ116 (hw _ (wd 45 rfl))) (mvT hZ116 (hw _ (wd 44 rfl))) (by decide) (backOf (W := 0) (cv l Z a0 hw [] a_FORWARDS a_BOTH a_BACKWARDS G b99 q2 q1 q2 (0 : Int32) T130.heap n0 O_138 I130_2 I130_3 (by simp [Int32.lt_irrefl])) hZ116 (hw _ (wd 46 rfl)) (hw _ (wd 2 rfl)) (by decide) (by decide)) q147a q147c (g := (mkF m 105 #[iv q1, iv q2, iv q3, iv q4, iv r96, rv b99, .val (.long ((q3.toInt64) - (q1.toInt64))), .second, .val (.long ((q2.toInt64) - (q3.toInt64))), .second, iv 0, iv 1, iv 0, iv 1, .unset] [(.int q2), (.ref b99)])) rfl (by rw [hml]; rfl) (Steps.refl _) (argsL := [(.int q2)]) (rest := []) (lenOf pd_3 rfl) rfl (by show 2 * 0 + _ ≤ _; exact Nat.le_of_eq rfl) (hb hby at_105) (fun _ _ => ⟨rfl, e145, (by decide : 5 + 0 ≤ _), (by decide : 22 + 0 ≤ _)⟩)
      dsimp only [Pt.U, Pt.locs, Pt.cells, Pt.slots] at X147 l147 y147 z147 st147 hQ147
      subst l147 y147 z147
      obtain ⟨rfl, N147q, e147⟩ := hQ147
      have N147 := Fr.app N145 N147q
      have k_148 : Go p.tables e below (s₁.setTop (entryFrame m #[(.int q1), (.int q2), (.int q3), (.int q4)] maxLocals)) (T147.setTop (mkF m 134 #[iv q1, iv q2, iv q3, iv q4, iv r96, rv b99, .val (.long ((q3.toInt64) - (q1.toInt64))), .second, .val (.long ((q2.toInt64) - (q3.toInt64))), .second, iv 0, iv 1, iv 0, iv 1, iv 0] [(.int 1)])) := fun t q => by
        refine k_146 t ?_
        refine st147.trans ?_
        show Steps _ _ _ (T147.setTop (mkF m 108 #[iv q1, iv q2, iv q3, iv q4, iv r96, rv b99, .val (.long ((q3.toInt64) - (q1.toInt64))), .second, .val (.long ((q2.toInt64) - (q3.toInt64))), .second, iv 0, iv 1, iv 0, iv 1, .unset] [(.int 0)])) _
        refine XS.istore X147.here hx rfl (hb hby at_108) rfl (l' := #[iv q1, iv q2, iv q3, iv q4, iv r96, rv b99, .val (.long ((q3.toInt64) - (q1.toInt64))), .second, .val (.long ((q2.toInt64) - (q3.toInt64))), .second, iv 0, iv 1, iv 0, iv 1, iv 0]) rfl ?_
        show Steps _ _ _ (T147.setTop (mkF m 110 #[iv q1, iv q2, iv q3, iv q4, iv r96, rv b99, .val (.long ((q3.toInt64) - (q1.toInt64))), .second, .val (.long ((q2.toInt64) - (q3.toInt64))), .second, iv 0, iv 1, iv 0, iv 1, iv 0] [])) _
        refine XS.iload X147.here hx rfl (hb hby at_110) rfl ?_
        show Steps _ _ _ (T147.setTop (mkF m 112 #[iv q1, iv q2, iv q3, iv q4, iv r96, rv b99, .val (.long ((q3.toInt64) - (q1.toInt64))), .second, .val (.long ((q2.toInt64) - (q3.toInt64))), .second, iv 0, iv 1, iv 0, iv 1, iv 0] [(.int 0)])) _
        refine XS.iload X147.here hx rfl (hb hby at_112) rfl ?_
        show Steps _ _ _ (T147.setTop (mkF m 114 #[iv q1, iv q2, iv q3, iv q4, iv r96, rv b99, .val (.long ((q3.toInt64) - (q1.toInt64))), .second, .val (.long ((q2.toInt64) - (q3.toInt64))), .second, iv 0, iv 1, iv 0, iv 1, iv 0] [(.int 0), (.int 0)])) _
        refine XS.icmpNo X147.here hx rfl (hb hby at_114) rfl (by decide) ?_
        show Steps _ _ _ (T147.setTop (mkF m 117 #[iv q1, iv q2, iv q3, iv q4, iv r96, rv b99, .val (.long ((q3.toInt64) - (q1.toInt64))), .second, .val (.long ((q2.toInt64) - (q3.toInt64))), .second, iv 0, iv 1, iv 0, iv 1, iv 0] [])) _
        refine XS.iload X147.here hx rfl (hb hby at_117) rfl ?_
        show Steps _ _ _ (T147.setTop (mkF m 119 #[iv q1, iv q2, iv q3, iv q4, iv r96, rv b99, .val (.long ((q3.toInt64) - (q1.toInt64))), .second, .val (.long ((q2.toInt64) - (q3.toInt64))), .second, iv 0, iv 1, iv 0, iv 1, iv 0] [(.int 1)])) _
        refine XS.iload X147.here hx rfl (hb hby at_119) rfl ?_
        show Steps _ _ _ (T147.setTop (mkF m 121 #[iv q1, iv q2, iv q3, iv q4, iv r96, rv b99, .val (.long ((q3.toInt64) - (q1.toInt64))), .second, .val (.long ((q2.toInt64) - (q3.toInt64))), .second, iv 0, iv 1, iv 0, iv 1, iv 0] [(.int 1), (.int 1)])) _
        refine XS.icmpNo X147.here hx rfl (hb hby at_121) rfl (by decide) ?_
        show Steps _ _ _ (T147.setTop (mkF m 124 #[iv q1, iv q2, iv q3, iv q4, iv r96, rv b99, .val (.long ((q3.toInt64) - (q1.toInt64))), .second, .val (.long ((q2.toInt64) - (q3.toInt64))), .second, iv 0, iv 1, iv 0, iv 1, iv 0] [])) _
        refine XS.iload X147.here hx rfl (hb hby at_124) rfl ?_
        show Steps _ _ _ (T147.setTop (mkF m 126 #[iv q1, iv q2, iv q3, iv q4, iv r96, rv b99, .val (.long ((q3.toInt64) - (q1.toInt64))), .second, .val (.long ((q2.toInt64) - (q3.toInt64))), .second, iv 0, iv 1, iv 0, iv 1, iv 0] [(.int 0)])) _
        refine XS.ifNo X147.here hx rfl (hb hby at_126) rfl (by decide) ?_
        show Steps _ _ _ (T147.setTop (mkF m 129 #[iv q1, iv q2, iv q3, iv q4, iv r96, rv b99, .val (.long ((q3.toInt64) - (q1.toInt64))), .second, .val (.long ((q2.toInt64) - (q3.toInt64))), .second, iv 0, iv 1, iv 0, iv 1, iv 0] [])) _
        refine XS.iconst X147.here hx rfl (hb hby at_129) ?_
        show Steps _ _ _ (T147.setTop (mkF m 130 #[iv q1, iv q2, iv q3, iv q4, iv r96, rv b99, .val (.long ((q3.toInt64) - (q1.toInt64))), .second, .val (.long ((q2.toInt64) - (q3.toInt64))), .second, iv 0, iv 1, iv 0, iv 1, iv 0] [(.int 1)])) _
        refine XS.goto X147.here hx rfl (pc0 := 130) (pc' := 134) rfl (hb hby at_130) (by decide) (by decide) ?_
        show Steps _ _ _ (T147.setTop (mkF m 134 #[iv q1, iv q2, iv q3, iv q4, iv r96, rv b99, .val (.long ((q3.toInt64) - (q1.toInt64))), .second, .val (.long ((q2.toInt64) - (q3.toInt64))), .second, iv 0, iv 1, iv 0, iv 1, iv 0] [(.int 1)])) _
        exact q
      obtain ⟨fs, hr, hrun, hended, hEnd⟩ := X147.leaveW hS116 ((e147).symm ▸ hk_140) (v := some (.int 1)) (fun h => by rw [Bd.returns] at h; cases h)
      refine ⟨_, _, k_148 _ ?_, hrun, hended, _, _, rfl, ?_, (⟨hEnd.1, hEnd.2.1, hEnd.2.2.1, hEnd.2.2.2.mono (by decide) (by decide)⟩ : ReturnedEndW _ _ _ _ _ _)⟩
      · exact retN X147 hx (t := .boolean) Bd.returns (by simp) (hb hby at_134) hr
      · show Q0 n0 _ T147.heap _
        rw [e147]
        exact ⟨rfl, N147⟩
    · skip
      have k_149 : Go p.tables e below (s₁.setTop (entryFrame m #[(.int q1), (.int q2), (.int q3), (.int q4)] maxLocals)) (T130.setTop (mkF m 89 #[iv q1, iv q2, iv q3, iv q4, iv r96, rv b99, .val (.long ((q3.toInt64) - (q1.toInt64))), .second, .val (.long ((q2.toInt64) - (q3.toInt64))), .second, iv 0, iv 0, .unset, .unset, .unset] [(.int q3), (.ref b99)])) := fun t q => by
        refine k_141 t ?_
        refine XS.iloadN X130.here hx rfl (hb hby at_34) rfl ?_
        show Steps _ _ _ (T130.setTop (mkF m 35 #[iv q1, iv q2, iv q3, iv q4, iv r96, rv b99, .unset, .unset, .unset, .unset, .unset, .unset, .unset, .unset, .unset] [(.int q3)])) _
        refine XS.i2l X130.here hx rfl (hb hby at_35) rfl ?_
        show Steps _ _ _ (T130.setTop (mkF m 36 #[iv q1, iv q2, iv q3, iv q4, iv r96, rv b99, .unset, .unset, .unset, .unset, .unset, .unset, .unset, .unset, .unset] [(.long (q3.toInt64))])) _
        refine XS.iloadN X130.here hx rfl (hb hby at_36) rfl ?_
        show Steps _ _ _ (T130.setTop (mkF m 37 #[iv q1, iv q2, iv q3, iv q4, iv r96, rv b99, .unset, .unset, .unset, .unset, .unset, .unset, .unset, .unset, .unset] [(.int q1), (.long (q3.toInt64))])) _
        refine XS.i2l X130.here hx rfl (hb hby at_37) rfl ?_
        show Steps _ _ _ (T130.setTop (mkF m 38 #[iv q1, iv q2, iv q3, iv q4, iv r96, rv b99, .unset, .unset, .unset, .unset, .unset, .unset, .unset, .unset, .unset] [(.long (q1.toInt64)), (.long (q3.toInt64))])) _
        refine XS.lsub X130.here hx rfl (hb hby at_38) rfl ?_
        show Steps _ _ _ (T130.setTop (mkF m 39 #[iv q1, iv q2, iv q3, iv q4, iv r96, rv b99, .unset, .unset, .unset, .unset, .unset, .unset, .unset, .unset, .unset] [(.long ((q3.toInt64) - (q1.toInt64)))])) _
        refine XS.lstore X130.here hx rfl (hb hby at_39) rfl (l' := #[iv q1, iv q2, iv q3, iv q4, iv r96, rv b99, .val (.long ((q3.toInt64) - (q1.toInt64))), .second, .unset, .unset, .unset, .unset, .unset, .unset, .unset]) rfl ?_
        show Steps _ _ _ (T130.setTop (mkF m 41 #[iv q1, iv q2, iv q3, iv q4, iv r96, rv b99, .val (.long ((q3.toInt64) - (q1.toInt64))), .second, .unset, .unset, .unset, .unset, .unset, .unset, .unset] [])) _
        refine XS.iloadN X130.here hx rfl (hb hby at_41) rfl ?_
        show Steps _ _ _ (T130.setTop (mkF m 42 #[iv q1, iv q2, iv q3, iv q4, iv r96, rv b99, .val (.long ((q3.toInt64) - (q1.toInt64))), .second, .unset, .unset, .unset, .unset, .unset, .unset, .unset] [(.int q2)])) _
        refine XS.i2l X130.here hx rfl (hb hby at_42) rfl ?_
        show Steps _ _ _ (T130.setTop (mkF m 43 #[iv q1, iv q2, iv q3, iv q4, iv r96, rv b99, .val (.long ((q3.toInt64) - (q1.toInt64))), .second, .unset, .unset, .unset, .unset, .unset, .unset, .unset] [(.long (q2.toInt64))])) _
        refine XS.iloadN X130.here hx rfl (hb hby at_43) rfl ?_
        show Steps _ _ _ (T130.setTop (mkF m 44 #[iv q1, iv q2, iv q3, iv q4, iv r96, rv b99, .val (.long ((q3.toInt64) - (q1.toInt64))), .second, .unset, .unset, .unset, .unset, .unset, .unset, .unset] [(.int q3), (.long (q2.toInt64))])) _
        refine XS.i2l X130.here hx rfl (hb hby at_44) rfl ?_
        show Steps _ _ _ (T130.setTop (mkF m 45 #[iv q1, iv q2, iv q3, iv q4, iv r96, rv b99, .val (.long ((q3.toInt64) - (q1.toInt64))), .second, .unset, .unset, .unset, .unset, .unset, .unset, .unset] [(.long (q3.toInt64)), (.long (q2.toInt64))])) _
        refine XS.lsub X130.here hx rfl (hb hby at_45) rfl ?_
        show Steps _ _ _ (T130.setTop (mkF m 46 #[iv q1, iv q2, iv q3, iv q4, iv r96, rv b99, .val (.long ((q3.toInt64) - (q1.toInt64))), .second, .unset, .unset, .unset, .unset, .unset, .unset, .unset] [(.long ((q2.toInt64) - (q3.toInt64)))])) _
        refine XS.lstore X130.here hx rfl (hb hby at_46) rfl (l' := #[iv q1, iv q2, iv q3, iv q4, iv r96, rv b99, .val (.long ((q3.toInt64) - (q1.toInt64))), .second, .val (.long ((q2.toInt64) - (q3.toInt64))), .second, .unset, .unset, .unset, .unset, .unset]) rfl ?_
        show Steps _ _ _ (T130.setTop (mkF m 48 #[iv q1, iv q2, iv q3, iv q4, iv r96, rv b99, .val (.long ((q3.toInt64) - (q1.toInt64))), .second, .val (.long ((q2.toInt64) - (q3.toInt64))), .second, .unset, .unset, .unset, .unset, .unset] [])) _
        refine XS.lload X130.here hx rfl (hb hby at_48) rfl ?_
        show Steps _ _ _ (T130.setTop (mkF m 50 #[iv q1, iv q2, iv q3, iv q4, iv r96, rv b99, .val (.long ((q3.toInt64) - (q1.toInt64))), .second, .val (.long ((q2.toInt64) - (q3.toInt64))), .second, .unset, .unset, .unset, .unset, .unset] [(.long ((q3.toInt64) - (q1.toInt64)))])) _
        refine XS.lconst X130.here hx rfl (hb hby at_50) ?_
        show Steps _ _ _ (T130.setTop (mkF m 51 #[iv q1, iv q2, iv q3, iv q4, iv r96, rv b99, .val (.long ((q3.toInt64) - (q1.toInt64))), .second, .val (.long ((q2.toInt64) - (q3.toInt64))), .second, .unset, .unset, .unset, .unset, .unset] [(.long (0 : Int64)), (.long ((q3.toInt64) - (q1.toInt64)))])) _
        refine XS.lcmp X130.here hx rfl (hb hby at_51) rfl ?_
        show Steps _ _ _ (T130.setTop (mkF m 52 #[iv q1, iv q2, iv q3, iv q4, iv r96, rv b99, .val (.long ((q3.toInt64) - (q1.toInt64))), .second, .val (.long ((q2.toInt64) - (q3.toInt64))), .second, .unset, .unset, .unset, .unset, .unset] [(.int (lcmpW ((q3.toInt64) - (q1.toInt64)) (0 : Int64)))])) _
        refine XS.ifYes X130.here hx rfl (pc0 := 52) (pc' := 66) rfl (hb hby at_52) rfl ((if0 _ _).trans (tlt ((own_sub_lt _ _).mpr hA)).1) (by decide) (by decide) ?_
        show Steps _ _ _ (T130.setTop (mkF m 66 #[iv q1, iv q2, iv q3, iv q4, iv r96, rv b99, .val (.long ((q3.toInt64) - (q1.toInt64))), .second, .val (.long ((q2.toInt64) - (q3.toInt64))), .second, .unset, .unset, .unset, .unset, .unset] [])) _
        refine XS.iconst X130.here hx rfl (hb hby at_66) ?_
        show Steps _ _ _ (T130.setTop (mkF m 67 #[iv q1, iv q2, iv q3, iv q4, iv r96, rv b99, .val (.long ((q3.toInt64) - (q1.toInt64))), .second, .val (.long ((q2.toInt64) - (q3.toInt64))), .second, .unset, .unset, .unset, .unset, .unset] [(.int 0)])) _
        refine XS.istore X130.here hx rfl (hb hby at_67) rfl (l' := #[iv q1, iv q2, iv q3, iv q4, iv r96, rv b99, .val (.long ((q3.toInt64) - (q1.toInt64))), .second, .val (.long ((q2.toInt64) - (q3.toInt64))), .second, iv 0, .unset, .unset, .unset, .unset]) rfl ?_
        show Steps _ _ _ (T130.setTop (mkF m 69 #[iv q1, iv q2, iv q3, iv q4, iv r96, rv b99, .val (.long ((q3.toInt64) - (q1.toInt64))), .second, .val (.long ((q2.toInt64) - (q3.toInt64))), .second, iv 0, .unset, .unset, .unset, .unset] [])) _
        refine XS.iloadN X130.here hx rfl (hb hby at_69) rfl ?_
        show Steps _ _ _ (T130.setTop (mkF m 70 #[iv q1, iv q2, iv q3, iv q4, iv r96, rv b99, .val (.long ((q3.toInt64) - (q1.toInt64))), .second, .val (.long ((q2.toInt64) - (q3.toInt64))), .second, iv 0, .unset, .unset, .unset, .unset] [(.int q2)])) _
        refine XS.i2l X130.here hx rfl (hb hby at_70) rfl ?_
        show Steps _ _ _ (T130.setTop (mkF m 71 #[iv q1, iv q2, iv q3, iv q4, iv r96, rv b99, .val (.long ((q3.toInt64) - (q1.toInt64))), .second, .val (.long ((q2.toInt64) - (q3.toInt64))), .second, iv 0, .unset, .unset, .unset, .unset] [(.long (q2.toInt64))])) _
        refine XS.iloadN X130.here hx rfl (hb hby at_71) rfl ?_
        show Steps _ _ _ (T130.setTop (mkF m 72 #[iv q1, iv q2, iv q3, iv q4, iv r96, rv b99, .val (.long ((q3.toInt64) - (q1.toInt64))), .second, .val (.long ((q2.toInt64) - (q3.toInt64))), .second, iv 0, .unset, .unset, .unset, .unset] [(.int q1), (.long (q2.toInt64))])) _
        refine XS.i2l X130.here hx rfl (hb hby at_72) rfl ?_
        show Steps _ _ _ (T130.setTop (mkF m 73 #[iv q1, iv q2, iv q3, iv q4, iv r96, rv b99, .val (.long ((q3.toInt64) - (q1.toInt64))), .second, .val (.long ((q2.toInt64) - (q3.toInt64))), .second, iv 0, .unset, .unset, .unset, .unset] [(.long (q1.toInt64)), (.long (q2.toInt64))])) _
        refine XS.lsub X130.here hx rfl (hb hby at_73) rfl ?_
        show Steps _ _ _ (T130.setTop (mkF m 74 #[iv q1, iv q2, iv q3, iv q4, iv r96, rv b99, .val (.long ((q3.toInt64) - (q1.toInt64))), .second, .val (.long ((q2.toInt64) - (q3.toInt64))), .second, iv 0, .unset, .unset, .unset, .unset] [(.long ((q2.toInt64) - (q1.toInt64)))])) _
        refine XS.lconst X130.here hx rfl (hb hby at_74) ?_
        show Steps _ _ _ (T130.setTop (mkF m 75 #[iv q1, iv q2, iv q3, iv q4, iv r96, rv b99, .val (.long ((q3.toInt64) - (q1.toInt64))), .second, .val (.long ((q2.toInt64) - (q3.toInt64))), .second, iv 0, .unset, .unset, .unset, .unset] [(.long (0 : Int64)), (.long ((q2.toInt64) - (q1.toInt64)))])) _
        refine XS.lcmp X130.here hx rfl (hb hby at_75) rfl ?_
        show Steps _ _ _ (T130.setTop (mkF m 76 #[iv q1, iv q2, iv q3, iv q4, iv r96, rv b99, .val (.long ((q3.toInt64) - (q1.toInt64))), .second, .val (.long ((q2.toInt64) - (q3.toInt64))), .second, iv 0, .unset, .unset, .unset, .unset] [(.int (lcmpW ((q2.toInt64) - (q1.toInt64)) (0 : Int64)))])) _
        refine XS.ifYes X130.here hx rfl (pc0 := 76) (pc' := 83) rfl (hb hby at_76) rfl ((if0 _ _).trans (flt (fun z => hC ((own_sub_gt _ _).mp z))).2.2.2) (by decide) (by decide) ?_
        show Steps _ _ _ (T130.setTop (mkF m 83 #[iv q1, iv q2, iv q3, iv q4, iv r96, rv b99, .val (.long ((q3.toInt64) - (q1.toInt64))), .second, .val (.long ((q2.toInt64) - (q3.toInt64))), .second, iv 0, .unset, .unset, .unset, .unset] [])) _
        refine XS.iconst X130.here hx rfl (hb hby at_83) ?_
        show Steps _ _ _ (T130.setTop (mkF m 84 #[iv q1, iv q2, iv q3, iv q4, iv r96, rv b99, .val (.long ((q3.toInt64) - (q1.toInt64))), .second, .val (.long ((q2.toInt64) - (q3.toInt64))), .second, iv 0, .unset, .unset, .unset, .unset] [(.int 0)])) _
        refine XS.istore X130.here hx rfl (hb hby at_84) rfl (l' := #[iv q1, iv q2, iv q3, iv q4, iv r96, rv b99, .val (.long ((q3.toInt64) - (q1.toInt64))), .second, .val (.long ((q2.toInt64) - (q3.toInt64))), .second, iv 0, iv 0, .unset, .unset, .unset]) rfl ?_
        show Steps _ _ _ (T130.setTop (mkF m 86 #[iv q1, iv q2, iv q3, iv q4, iv r96, rv b99, .val (.long ((q3.toInt64) - (q1.toInt64))), .second, .val (.long ((q2.toInt64) - (q3.toInt64))), .second, iv 0, iv 0, .unset, .unset, .unset] [])) _
        refine XS.aload X130.here hx rfl (hb hby at_86) rfl rfl ?_
        show Steps _ _ _ (T130.setTop (mkF m 88 #[iv q1, iv q2, iv q3, iv q4, iv r96, rv b99, .val (.long ((q3.toInt64) - (q1.toInt64))), .second, .val (.long ((q2.toInt64) - (q3.toInt64))), .second, iv 0, iv 0, .unset, .unset, .unset] [(.ref b99)])) _
        refine XS.iloadN X130.here hx rfl (hb hby at_88) rfl ?_
        show Steps _ _ _ (T130.setTop (mkF m 89 #[iv q1, iv q2, iv q3, iv q4, iv r96, rv b99, .val (.long ((q3.toInt64) - (q1.toInt64))), .second, .val (.long ((q2.toInt64) - (q3.toInt64))), .second, iv 0, iv 0, .unset, .unset, .unset] [(.int q3), (.ref b99)])) _
        exact q
      obtain ⟨cq150, kq150, q150a, q150b, q150c⟩ := isOf hZ116 (rfl : T130.heap = _) f_131
      obtain ⟨_, _, ⟨T150, L150, k150, n150⟩, -, X150, ⟨Lc150, hQ150, l150, y150, z150⟩, st150⟩ := X130.virtualBack hx (y := y_3) (z := y_3) hown116 (mvT hZ116 (hw _ (wd 42 rfl))) (mvT hZ116 (hw _ (wd 43 rfl))) (notFace_of_selects (args := #[]) (mvT hZ116 (hw _ (wd 45 rfl)))) (mvT hZ116 (hw _ (wd 45 rfl))) (mvT hZ116 (hw _ (wd 44 rfl))) (by decide) (backOf (W := 0) (cv l Z a0 hw [] a_FORWARDS a_BOTH a_BACKWARDS G b99 q3 q1 q2 (0 : Int32) T130.heap n0 O_138 I130_2 I130_3 (by simp [hA])) hZ116 (hw _ (wd 46 rfl)) (hw _ (wd 2 rfl)) (by decide) (by decide)) q150a q150c (g := (mkF m 89 #[iv q1, iv q2, iv q3, iv q4, iv r96, rv b99, .val (.long ((q3.toInt64) - (q1.toInt64))), .second, .val (.long ((q2.toInt64) - (q3.toInt64))), .second, iv 0, iv 0, .unset, .unset, .unset] [(.int q3), (.ref b99)])) rfl (by rw [hml]; rfl) (Steps.refl _) (argsL := [(.int q3)]) (rest := []) (lenOf pd_3 rfl) rfl (by show 2 * 0 + _ ≤ _; exact Nat.le_of_eq rfl) (hb hby at_89) (fun _ _ => ⟨rfl, (rfl : T130.heap = _), (by decide : 5 + 0 ≤ _), (by decide : 22 + 0 ≤ _)⟩)
      dsimp only [Pt.U, Pt.locs, Pt.cells, Pt.slots] at X150 l150 y150 z150 st150 hQ150
      subst l150 y150 z150
      obtain ⟨rfl, N150q, e150⟩ := hQ150
      have N150 := Fr.app N130 N150q
      have k_151 : Go p.tables e below (s₁.setTop (entryFrame m #[(.int q1), (.int q2), (.int q3), (.int q4)] maxLocals)) (T150.setTop (mkF m 97 #[iv q1, iv q2, iv q3, iv q4, iv r96, rv b99, .val (.long ((q3.toInt64) - (q1.toInt64))), .second, .val (.long ((q2.toInt64) - (q3.toInt64))), .second, iv 0, iv 0, iv 0, .unset, .unset] [(.int q1), (.ref b99)])) := fun t q => by
        refine k_149 t ?_
        refine st150.trans ?_
        show Steps _ _ _ (T150.setTop (mkF m 92 #[iv q1, iv q2, iv q3, iv q4, iv r96, rv b99, .val (.long ((q3.toInt64) - (q1.toInt64))), .second, .val (.long ((q2.toInt64) - (q3.toInt64))), .second, iv 0, iv 0, .unset, .unset, .unset] [(.int 0)])) _
        refine XS.istore X150.here hx rfl (hb hby at_92) rfl (l' := #[iv q1, iv q2, iv q3, iv q4, iv r96, rv b99, .val (.long ((q3.toInt64) - (q1.toInt64))), .second, .val (.long ((q2.toInt64) - (q3.toInt64))), .second, iv 0, iv 0, iv 0, .unset, .unset]) rfl ?_
        show Steps _ _ _ (T150.setTop (mkF m 94 #[iv q1, iv q2, iv q3, iv q4, iv r96, rv b99, .val (.long ((q3.toInt64) - (q1.toInt64))), .second, .val (.long ((q2.toInt64) - (q3.toInt64))), .second, iv 0, iv 0, iv 0, .unset, .unset] [])) _
        refine XS.aload X150.here hx rfl (hb hby at_94) rfl rfl ?_
        show Steps _ _ _ (T150.setTop (mkF m 96 #[iv q1, iv q2, iv q3, iv q4, iv r96, rv b99, .val (.long ((q3.toInt64) - (q1.toInt64))), .second, .val (.long ((q2.toInt64) - (q3.toInt64))), .second, iv 0, iv 0, iv 0, .unset, .unset] [(.ref b99)])) _
        refine XS.iloadN X150.here hx rfl (hb hby at_96) rfl ?_
        show Steps _ _ _ (T150.setTop (mkF m 97 #[iv q1, iv q2, iv q3, iv q4, iv r96, rv b99, .val (.long ((q3.toInt64) - (q1.toInt64))), .second, .val (.long ((q2.toInt64) - (q3.toInt64))), .second, iv 0, iv 0, iv 0, .unset, .unset] [(.int q1), (.ref b99)])) _
        exact q
      obtain ⟨cq152, kq152, q152a, q152b, q152c⟩ := isOf hZ116 e150 f_131
      obtain ⟨_, _, ⟨T152, L152, k152, n152⟩, -, X152, ⟨Lc152, hQ152, l152, y152, z152⟩, st152⟩ := X150.virtualBack hx (y := y_3) (z := y_3) hown116 (mvT hZ116 (hw _ (wd 42 rfl))) (mvT hZ116 (hw _ (wd 43 rfl))) (notFace_of_selects (args := #[]) (mvT hZ116 (hw _ (wd 45 rfl)))) (mvT hZ116 (hw _ (wd 45 rfl))) (mvT hZ116 (hw _ (wd 44 rfl))) (by decide) (backOf (W := 0) (cv l Z a0 hw [] a_FORWARDS a_BOTH a_BACKWARDS G b99 q1 q1 q2 (0 : Int32) T130.heap n0 O_138 I130_2 I130_3 (by simp [hC, Int32.lt_irrefl])) hZ116 (hw _ (wd 46 rfl)) (hw _ (wd 2 rfl)) (by decide) (by decide)) q152a q152c (g := (mkF m 97 #[iv q1, iv q2, iv q3, iv q4, iv r96, rv b99, .val (.long ((q3.toInt64) - (q1.toInt64))), .second, .val (.long ((q2.toInt64) - (q3.toInt64))), .second, iv 0, iv 0, iv 0, .unset, .unset] [(.int q1), (.ref b99)])) rfl (by rw [hml]; rfl) (Steps.refl _) (argsL := [(.int q1)]) (rest := []) (lenOf pd_3 rfl) rfl (by show 2 * 0 + _ ≤ _; exact Nat.le_of_eq rfl) (hb hby at_97) (fun _ _ => ⟨rfl, e150, (by decide : 5 + 0 ≤ _), (by decide : 22 + 0 ≤ _)⟩)
      dsimp only [Pt.U, Pt.locs, Pt.cells, Pt.slots] at X152 l152 y152 z152 st152 hQ152
      subst l152 y152 z152
      obtain ⟨rfl, N152q, e152⟩ := hQ152
      have N152 := Fr.app N150 N152q
      have k_153 : Go p.tables e below (s₁.setTop (entryFrame m #[(.int q1), (.int q2), (.int q3), (.int q4)] maxLocals)) (T152.setTop (mkF m 105 #[iv q1, iv q2, iv q3, iv q4, iv r96, rv b99, .val (.long ((q3.toInt64) - (q1.toInt64))), .second, .val (.long ((q2.toInt64) - (q3.toInt64))), .second, iv 0, iv 0, iv 0, iv 0, .unset] [(.int q2), (.ref b99)])) := fun t q => by
        refine k_151 t ?_
        refine st152.trans ?_
        show Steps _ _ _ (T152.setTop (mkF m 100 #[iv q1, iv q2, iv q3, iv q4, iv r96, rv b99, .val (.long ((q3.toInt64) - (q1.toInt64))), .second, .val (.long ((q2.toInt64) - (q3.toInt64))), .second, iv 0, iv 0, iv 0, .unset, .unset] [(.int 0)])) _
        refine XS.istore X152.here hx rfl (hb hby at_100) rfl (l' := #[iv q1, iv q2, iv q3, iv q4, iv r96, rv b99, .val (.long ((q3.toInt64) - (q1.toInt64))), .second, .val (.long ((q2.toInt64) - (q3.toInt64))), .second, iv 0, iv 0, iv 0, iv 0, .unset]) rfl ?_
        show Steps _ _ _ (T152.setTop (mkF m 102 #[iv q1, iv q2, iv q3, iv q4, iv r96, rv b99, .val (.long ((q3.toInt64) - (q1.toInt64))), .second, .val (.long ((q2.toInt64) - (q3.toInt64))), .second, iv 0, iv 0, iv 0, iv 0, .unset] [])) _
        refine XS.aload X152.here hx rfl (hb hby at_102) rfl rfl ?_
        show Steps _ _ _ (T152.setTop (mkF m 104 #[iv q1, iv q2, iv q3, iv q4, iv r96, rv b99, .val (.long ((q3.toInt64) - (q1.toInt64))), .second, .val (.long ((q2.toInt64) - (q3.toInt64))), .second, iv 0, iv 0, iv 0, iv 0, .unset] [(.ref b99)])) _
        refine XS.iloadN X152.here hx rfl (hb hby at_104) rfl ?_
        show Steps _ _ _ (T152.setTop (mkF m 105 #[iv q1, iv q2, iv q3, iv q4, iv r96, rv b99, .val (.long ((q3.toInt64) - (q1.toInt64))), .second, .val (.long ((q2.toInt64) - (q3.toInt64))), .second, iv 0, iv 0, iv 0, iv 0, .unset] [(.int q2), (.ref b99)])) _
        exact q
      obtain ⟨cq154, kq154, q154a, q154b, q154c⟩ := isOf hZ116 e152 f_131
      obtain ⟨_, _, ⟨T154, L154, k154, n154⟩, -, X154, ⟨Lc154, hQ154, l154, y154, z154⟩, st154⟩ := X152.virtualBack hx (y := y_3) (z := y_3) hown116 (mvT hZ116 (hw _ (wd 42 rfl))) (mvT hZ116 (hw _ (wd 43 rfl))) (notFace_of_selects (args := #[]) (mvT hZ116 (hw _ (wd 45 rfl)))) (mvT hZ116 (hw _ (wd 45 rfl))) (mvT hZ116 (hw _ (wd 44 rfl))) (by decide) (backOf (W := 0) (cv l Z a0 hw [] a_FORWARDS a_BOTH a_BACKWARDS G b99 q2 q1 q2 (0 : Int32) T130.heap n0 O_138 I130_2 I130_3 (by simp [Int32.lt_irrefl])) hZ116 (hw _ (wd 46 rfl)) (hw _ (wd 2 rfl)) (by decide) (by decide)) q154a q154c (g := (mkF m 105 #[iv q1, iv q2, iv q3, iv q4, iv r96, rv b99, .val (.long ((q3.toInt64) - (q1.toInt64))), .second, .val (.long ((q2.toInt64) - (q3.toInt64))), .second, iv 0, iv 0, iv 0, iv 0, .unset] [(.int q2), (.ref b99)])) rfl (by rw [hml]; rfl) (Steps.refl _) (argsL := [(.int q2)]) (rest := []) (lenOf pd_3 rfl) rfl (by show 2 * 0 + _ ≤ _; exact Nat.le_of_eq rfl) (hb hby at_105) (fun _ _ => ⟨rfl, e152, (by decide : 5 + 0 ≤ _), (by decide : 22 + 0 ≤ _)⟩)
      dsimp only [Pt.U, Pt.locs, Pt.cells, Pt.slots] at X154 l154 y154 z154 st154 hQ154
      subst l154 y154 z154
      obtain ⟨rfl, N154q, e154⟩ := hQ154
      have N154 := Fr.app N152 N154q
      have k_155 : Go p.tables e below (s₁.setTop (entryFrame m #[(.int q1), (.int q2), (.int q3), (.int q4)] maxLocals)) (T154.setTop (mkF m 134 #[iv q1, iv q2, iv q3, iv q4, iv r96, rv b99, .val (.long ((q3.toInt64) - (q1.toInt64))), .second, .val (.long ((q2.toInt64) - (q3.toInt64))), .second, iv 0, iv 0, iv 0, iv 0, iv 0] [(.int 1)])) := fun t q => by
        refine k_153 t ?_
        refine st154.trans ?_
        show Steps _ _ _ (T154.setTop (mkF m 108 #[iv q1, iv q2, iv q3, iv q4, iv r96, rv b99, .val (.long ((q3.toInt64) - (q1.toInt64))), .second, .val (.long ((q2.toInt64) - (q3.toInt64))), .second, iv 0, iv 0, iv 0, iv 0, .unset] [(.int 0)])) _
        refine XS.istore X154.here hx rfl (hb hby at_108) rfl (l' := #[iv q1, iv q2, iv q3, iv q4, iv r96, rv b99, .val (.long ((q3.toInt64) - (q1.toInt64))), .second, .val (.long ((q2.toInt64) - (q3.toInt64))), .second, iv 0, iv 0, iv 0, iv 0, iv 0]) rfl ?_
        show Steps _ _ _ (T154.setTop (mkF m 110 #[iv q1, iv q2, iv q3, iv q4, iv r96, rv b99, .val (.long ((q3.toInt64) - (q1.toInt64))), .second, .val (.long ((q2.toInt64) - (q3.toInt64))), .second, iv 0, iv 0, iv 0, iv 0, iv 0] [])) _
        refine XS.iload X154.here hx rfl (hb hby at_110) rfl ?_
        show Steps _ _ _ (T154.setTop (mkF m 112 #[iv q1, iv q2, iv q3, iv q4, iv r96, rv b99, .val (.long ((q3.toInt64) - (q1.toInt64))), .second, .val (.long ((q2.toInt64) - (q3.toInt64))), .second, iv 0, iv 0, iv 0, iv 0, iv 0] [(.int 0)])) _
        refine XS.iload X154.here hx rfl (hb hby at_112) rfl ?_
        show Steps _ _ _ (T154.setTop (mkF m 114 #[iv q1, iv q2, iv q3, iv q4, iv r96, rv b99, .val (.long ((q3.toInt64) - (q1.toInt64))), .second, .val (.long ((q2.toInt64) - (q3.toInt64))), .second, iv 0, iv 0, iv 0, iv 0, iv 0] [(.int 0), (.int 0)])) _
        refine XS.icmpNo X154.here hx rfl (hb hby at_114) rfl (by decide) ?_
        show Steps _ _ _ (T154.setTop (mkF m 117 #[iv q1, iv q2, iv q3, iv q4, iv r96, rv b99, .val (.long ((q3.toInt64) - (q1.toInt64))), .second, .val (.long ((q2.toInt64) - (q3.toInt64))), .second, iv 0, iv 0, iv 0, iv 0, iv 0] [])) _
        refine XS.iload X154.here hx rfl (hb hby at_117) rfl ?_
        show Steps _ _ _ (T154.setTop (mkF m 119 #[iv q1, iv q2, iv q3, iv q4, iv r96, rv b99, .val (.long ((q3.toInt64) - (q1.toInt64))), .second, .val (.long ((q2.toInt64) - (q3.toInt64))), .second, iv 0, iv 0, iv 0, iv 0, iv 0] [(.int 0)])) _
        refine XS.iload X154.here hx rfl (hb hby at_119) rfl ?_
        show Steps _ _ _ (T154.setTop (mkF m 121 #[iv q1, iv q2, iv q3, iv q4, iv r96, rv b99, .val (.long ((q3.toInt64) - (q1.toInt64))), .second, .val (.long ((q2.toInt64) - (q3.toInt64))), .second, iv 0, iv 0, iv 0, iv 0, iv 0] [(.int 0), (.int 0)])) _
        refine XS.icmpNo X154.here hx rfl (hb hby at_121) rfl (by decide) ?_
        show Steps _ _ _ (T154.setTop (mkF m 124 #[iv q1, iv q2, iv q3, iv q4, iv r96, rv b99, .val (.long ((q3.toInt64) - (q1.toInt64))), .second, .val (.long ((q2.toInt64) - (q3.toInt64))), .second, iv 0, iv 0, iv 0, iv 0, iv 0] [])) _
        refine XS.iload X154.here hx rfl (hb hby at_124) rfl ?_
        show Steps _ _ _ (T154.setTop (mkF m 126 #[iv q1, iv q2, iv q3, iv q4, iv r96, rv b99, .val (.long ((q3.toInt64) - (q1.toInt64))), .second, .val (.long ((q2.toInt64) - (q3.toInt64))), .second, iv 0, iv 0, iv 0, iv 0, iv 0] [(.int 0)])) _
        refine XS.ifNo X154.here hx rfl (hb hby at_126) rfl (by decide) ?_
        show Steps _ _ _ (T154.setTop (mkF m 129 #[iv q1, iv q2, iv q3, iv q4, iv r96, rv b99, .val (.long ((q3.toInt64) - (q1.toInt64))), .second, .val (.long ((q2.toInt64) - (q3.toInt64))), .second, iv 0, iv 0, iv 0, iv 0, iv 0] [])) _
        refine XS.iconst X154.here hx rfl (hb hby at_129) ?_
        show Steps _ _ _ (T154.setTop (mkF m 130 #[iv q1, iv q2, iv q3, iv q4, iv r96, rv b99, .val (.long ((q3.toInt64) - (q1.toInt64))), .second, .val (.long ((q2.toInt64) - (q3.toInt64))), .second, iv 0, iv 0, iv 0, iv 0, iv 0] [(.int 1)])) _
        refine XS.goto X154.here hx rfl (pc0 := 130) (pc' := 134) rfl (hb hby at_130) (by decide) (by decide) ?_
        show Steps _ _ _ (T154.setTop (mkF m 134 #[iv q1, iv q2, iv q3, iv q4, iv r96, rv b99, .val (.long ((q3.toInt64) - (q1.toInt64))), .second, .val (.long ((q2.toInt64) - (q3.toInt64))), .second, iv 0, iv 0, iv 0, iv 0, iv 0] [(.int 1)])) _
        exact q
      obtain ⟨fs, hr, hrun, hended, hEnd⟩ := X154.leaveW hS116 ((e154).symm ▸ hk_140) (v := some (.int 1)) (fun h => by rw [Bd.returns] at h; cases h)
      refine ⟨_, _, k_155 _ ?_, hrun, hended, _, _, rfl, ?_, (⟨hEnd.1, hEnd.2.1, hEnd.2.2.1, hEnd.2.2.2.mono (by decide) (by decide)⟩ : ReturnedEndW _ _ _ _ _ _)⟩
      · exact retN X154 hx (t := .boolean) Bd.returns (by simp) (hb hby at_134) hr
      · show Q0 n0 _ T154.heap _
        rw [e154]
        exact ⟨rfl, N154⟩
  · skip
    rcases Decidable.em (q3 < q2) with hB | hB
    · skip
      rcases Decidable.em (q1 < q2) with hC | hC
      · skip
        have k_156 : Go p.tables e below (s₁.setTop (entryFrame m #[(.int q1), (.int q2), (.int q3), (.int q4)] maxLocals)) (T130.setTop (mkF m 89 #[iv q1, iv q2, iv q3, iv q4, iv r96, rv b99, .val (.long ((q3.toInt64) - (q1.toInt64))), .second, .val (.long ((q2.toInt64) - (q3.toInt64))), .second, iv 1, iv 1, .unset, .unset, .unset] [(.int q3), (.ref b99)])) := fun t q => by
          refine k_141 t ?_
          refine XS.iloadN X130.here hx rfl (hb hby at_34) rfl ?_
          show Steps _ _ _ (T130.setTop (mkF m 35 #[iv q1, iv q2, iv q3, iv q4, iv r96, rv b99, .unset, .unset, .unset, .unset, .unset, .unset, .unset, .unset, .unset] [(.int q3)])) _
          refine XS.i2l X130.here hx rfl (hb hby at_35) rfl ?_
          show Steps _ _ _ (T130.setTop (mkF m 36 #[iv q1, iv q2, iv q3, iv q4, iv r96, rv b99, .unset, .unset, .unset, .unset, .unset, .unset, .unset, .unset, .unset] [(.long (q3.toInt64))])) _
          refine XS.iloadN X130.here hx rfl (hb hby at_36) rfl ?_
          show Steps _ _ _ (T130.setTop (mkF m 37 #[iv q1, iv q2, iv q3, iv q4, iv r96, rv b99, .unset, .unset, .unset, .unset, .unset, .unset, .unset, .unset, .unset] [(.int q1), (.long (q3.toInt64))])) _
          refine XS.i2l X130.here hx rfl (hb hby at_37) rfl ?_
          show Steps _ _ _ (T130.setTop (mkF m 38 #[iv q1, iv q2, iv q3, iv q4, iv r96, rv b99, .unset, .unset, .unset, .unset, .unset, .unset, .unset, .unset, .unset] [(.long (q1.toInt64)), (.long (q3.toInt64))])) _
          refine XS.lsub X130.here hx rfl (hb hby at_38) rfl ?_
          show Steps _ _ _ (T130.setTop (mkF m 39 #[iv q1, iv q2, iv q3, iv q4, iv r96, rv b99, .unset, .unset, .unset, .unset, .unset, .unset, .unset, .unset, .unset] [(.long ((q3.toInt64) - (q1.toInt64)))])) _
          refine XS.lstore X130.here hx rfl (hb hby at_39) rfl (l' := #[iv q1, iv q2, iv q3, iv q4, iv r96, rv b99, .val (.long ((q3.toInt64) - (q1.toInt64))), .second, .unset, .unset, .unset, .unset, .unset, .unset, .unset]) rfl ?_
          show Steps _ _ _ (T130.setTop (mkF m 41 #[iv q1, iv q2, iv q3, iv q4, iv r96, rv b99, .val (.long ((q3.toInt64) - (q1.toInt64))), .second, .unset, .unset, .unset, .unset, .unset, .unset, .unset] [])) _
          refine XS.iloadN X130.here hx rfl (hb hby at_41) rfl ?_
          show Steps _ _ _ (T130.setTop (mkF m 42 #[iv q1, iv q2, iv q3, iv q4, iv r96, rv b99, .val (.long ((q3.toInt64) - (q1.toInt64))), .second, .unset, .unset, .unset, .unset, .unset, .unset, .unset] [(.int q2)])) _
          refine XS.i2l X130.here hx rfl (hb hby at_42) rfl ?_
          show Steps _ _ _ (T130.setTop (mkF m 43 #[iv q1, iv q2, iv q3, iv q4, iv r96, rv b99, .val (.long ((q3.toInt64) - (q1.toInt64))), .second, .unset, .unset, .unset, .unset, .unset, .unset, .unset] [(.long (q2.toInt64))])) _
          refine XS.iloadN X130.here hx rfl (hb hby at_43) rfl ?_
          show Steps _ _ _ (T130.setTop (mkF m 44 #[iv q1, iv q2, iv q3, iv q4, iv r96, rv b99, .val (.long ((q3.toInt64) - (q1.toInt64))), .second, .unset, .unset, .unset, .unset, .unset, .unset, .unset] [(.int q3), (.long (q2.toInt64))])) _
          refine XS.i2l X130.here hx rfl (hb hby at_44) rfl ?_
          show Steps _ _ _ (T130.setTop (mkF m 45 #[iv q1, iv q2, iv q3, iv q4, iv r96, rv b99, .val (.long ((q3.toInt64) - (q1.toInt64))), .second, .unset, .unset, .unset, .unset, .unset, .unset, .unset] [(.long (q3.toInt64)), (.long (q2.toInt64))])) _
          refine XS.lsub X130.here hx rfl (hb hby at_45) rfl ?_
          show Steps _ _ _ (T130.setTop (mkF m 46 #[iv q1, iv q2, iv q3, iv q4, iv r96, rv b99, .val (.long ((q3.toInt64) - (q1.toInt64))), .second, .unset, .unset, .unset, .unset, .unset, .unset, .unset] [(.long ((q2.toInt64) - (q3.toInt64)))])) _
          refine XS.lstore X130.here hx rfl (hb hby at_46) rfl (l' := #[iv q1, iv q2, iv q3, iv q4, iv r96, rv b99, .val (.long ((q3.toInt64) - (q1.toInt64))), .second, .val (.long ((q2.toInt64) - (q3.toInt64))), .second, .unset, .unset, .unset, .unset, .unset]) rfl ?_
          show Steps _ _ _ (T130.setTop (mkF m 48 #[iv q1, iv q2, iv q3, iv q4, iv r96, rv b99, .val (.long ((q3.toInt64) - (q1.toInt64))), .second, .val (.long ((q2.toInt64) - (q3.toInt64))), .second, .unset, .unset, .unset, .unset, .unset] [])) _
          refine XS.lload X130.here hx rfl (hb hby at_48) rfl ?_
          show Steps _ _ _ (T130.setTop (mkF m 50 #[iv q1, iv q2, iv q3, iv q4, iv r96, rv b99, .val (.long ((q3.toInt64) - (q1.toInt64))), .second, .val (.long ((q2.toInt64) - (q3.toInt64))), .second, .unset, .unset, .unset, .unset, .unset] [(.long ((q3.toInt64) - (q1.toInt64)))])) _
          refine XS.lconst X130.here hx rfl (hb hby at_50) ?_
          show Steps _ _ _ (T130.setTop (mkF m 51 #[iv q1, iv q2, iv q3, iv q4, iv r96, rv b99, .val (.long ((q3.toInt64) - (q1.toInt64))), .second, .val (.long ((q2.toInt64) - (q3.toInt64))), .second, .unset, .unset, .unset, .unset, .unset] [(.long (0 : Int64)), (.long ((q3.toInt64) - (q1.toInt64)))])) _
          refine XS.lcmp X130.here hx rfl (hb hby at_51) rfl ?_
          show Steps _ _ _ (T130.setTop (mkF m 52 #[iv q1, iv q2, iv q3, iv q4, iv r96, rv b99, .val (.long ((q3.toInt64) - (q1.toInt64))), .second, .val (.long ((q2.toInt64) - (q3.toInt64))), .second, .unset, .unset, .unset, .unset, .unset] [(.int (lcmpW ((q3.toInt64) - (q1.toInt64)) (0 : Int64)))])) _
          refine XS.ifNo X130.here hx rfl (hb hby at_52) rfl ((if0 _ _).trans (flt (fun z => hA ((own_sub_lt _ _).mp z))).1) ?_
          show Steps _ _ _ (T130.setTop (mkF m 55 #[iv q1, iv q2, iv q3, iv q4, iv r96, rv b99, .val (.long ((q3.toInt64) - (q1.toInt64))), .second, .val (.long ((q2.toInt64) - (q3.toInt64))), .second, .unset, .unset, .unset, .unset, .unset] [])) _
          refine XS.lload X130.here hx rfl (hb hby at_55) rfl ?_
          show Steps _ _ _ (T130.setTop (mkF m 57 #[iv q1, iv q2, iv q3, iv q4, iv r96, rv b99, .val (.long ((q3.toInt64) - (q1.toInt64))), .second, .val (.long ((q2.toInt64) - (q3.toInt64))), .second, .unset, .unset, .unset, .unset, .unset] [(.long ((q2.toInt64) - (q3.toInt64)))])) _
          refine XS.lconst X130.here hx rfl (hb hby at_57) ?_
          show Steps _ _ _ (T130.setTop (mkF m 58 #[iv q1, iv q2, iv q3, iv q4, iv r96, rv b99, .val (.long ((q3.toInt64) - (q1.toInt64))), .second, .val (.long ((q2.toInt64) - (q3.toInt64))), .second, .unset, .unset, .unset, .unset, .unset] [(.long (0 : Int64)), (.long ((q2.toInt64) - (q3.toInt64)))])) _
          refine XS.lcmp X130.here hx rfl (hb hby at_58) rfl ?_
          show Steps _ _ _ (T130.setTop (mkF m 59 #[iv q1, iv q2, iv q3, iv q4, iv r96, rv b99, .val (.long ((q3.toInt64) - (q1.toInt64))), .second, .val (.long ((q2.toInt64) - (q3.toInt64))), .second, .unset, .unset, .unset, .unset, .unset] [(.int (lcmpW ((q2.toInt64) - (q3.toInt64)) (0 : Int64)))])) _
          refine XS.ifNo X130.here hx rfl (hb hby at_59) rfl ((if0 _ _).trans (tlt ((own_sub_gt _ _).mpr hB)).2.2.2) ?_
          show Steps _ _ _ (T130.setTop (mkF m 62 #[iv q1, iv q2, iv q3, iv q4, iv r96, rv b99, .val (.long ((q3.toInt64) - (q1.toInt64))), .second, .val (.long ((q2.toInt64) - (q3.toInt64))), .second, .unset, .unset, .unset, .unset, .unset] [])) _
          refine XS.iconst X130.here hx rfl (hb hby at_62) ?_
          show Steps _ _ _ (T130.setTop (mkF m 63 #[iv q1, iv q2, iv q3, iv q4, iv r96, rv b99, .val (.long ((q3.toInt64) - (q1.toInt64))), .second, .val (.long ((q2.toInt64) - (q3.toInt64))), .second, .unset, .unset, .unset, .unset, .unset] [(.int 1)])) _
          refine XS.goto X130.here hx rfl (pc0 := 63) (pc' := 67) rfl (hb hby at_63) (by decide) (by decide) ?_
          show Steps _ _ _ (T130.setTop (mkF m 67 #[iv q1, iv q2, iv q3, iv q4, iv r96, rv b99, .val (.long ((q3.toInt64) - (q1.toInt64))), .second, .val (.long ((q2.toInt64) - (q3.toInt64))), .second, .unset, .unset, .unset, .unset, .unset] [(.int 1)])) _
          refine XS.istore X130.here hx rfl (hb hby at_67) rfl (l' := #[iv q1, iv q2, iv q3, iv q4, iv r96, rv b99, .val (.long ((q3.toInt64) - (q1.toInt64))), .second, .val (.long ((q2.toInt64) - (q3.toInt64))), .second, iv 1, .unset, .unset, .unset, .unset]) rfl ?_
          show Steps _ _ _ (T130.setTop (mkF m 69 #[iv q1, iv q2, iv q3, iv q4, iv r96, rv b99, .val (.long ((q3.toInt64) - (q1.toInt64))), .second, .val (.long ((q2.toInt64) - (q3.toInt64))), .second, iv 1, .unset, .unset, .unset, .unset] [])) _
          refine XS.iloadN X130.here hx rfl (hb hby at_69) rfl ?_
          show Steps _ _ _ (T130.setTop (mkF m 70 #[iv q1, iv q2, iv q3, iv q4, iv r96, rv b99, .val (.long ((q3.toInt64) - (q1.toInt64))), .second, .val (.long ((q2.toInt64) - (q3.toInt64))), .second, iv 1, .unset, .unset, .unset, .unset] [(.int q2)])) _
          refine XS.i2l X130.here hx rfl (hb hby at_70) rfl ?_
          show Steps _ _ _ (T130.setTop (mkF m 71 #[iv q1, iv q2, iv q3, iv q4, iv r96, rv b99, .val (.long ((q3.toInt64) - (q1.toInt64))), .second, .val (.long ((q2.toInt64) - (q3.toInt64))), .second, iv 1, .unset, .unset, .unset, .unset] [(.long (q2.toInt64))])) _
          refine XS.iloadN X130.here hx rfl (hb hby at_71) rfl ?_
          show Steps _ _ _ (T130.setTop (mkF m 72 #[iv q1, iv q2, iv q3, iv q4, iv r96, rv b99, .val (.long ((q3.toInt64) - (q1.toInt64))), .second, .val (.long ((q2.toInt64) - (q3.toInt64))), .second, iv 1, .unset, .unset, .unset, .unset] [(.int q1), (.long (q2.toInt64))])) _
          refine XS.i2l X130.here hx rfl (hb hby at_72) rfl ?_
          show Steps _ _ _ (T130.setTop (mkF m 73 #[iv q1, iv q2, iv q3, iv q4, iv r96, rv b99, .val (.long ((q3.toInt64) - (q1.toInt64))), .second, .val (.long ((q2.toInt64) - (q3.toInt64))), .second, iv 1, .unset, .unset, .unset, .unset] [(.long (q1.toInt64)), (.long (q2.toInt64))])) _
          refine XS.lsub X130.here hx rfl (hb hby at_73) rfl ?_
          show Steps _ _ _ (T130.setTop (mkF m 74 #[iv q1, iv q2, iv q3, iv q4, iv r96, rv b99, .val (.long ((q3.toInt64) - (q1.toInt64))), .second, .val (.long ((q2.toInt64) - (q3.toInt64))), .second, iv 1, .unset, .unset, .unset, .unset] [(.long ((q2.toInt64) - (q1.toInt64)))])) _
          refine XS.lconst X130.here hx rfl (hb hby at_74) ?_
          show Steps _ _ _ (T130.setTop (mkF m 75 #[iv q1, iv q2, iv q3, iv q4, iv r96, rv b99, .val (.long ((q3.toInt64) - (q1.toInt64))), .second, .val (.long ((q2.toInt64) - (q3.toInt64))), .second, iv 1, .unset, .unset, .unset, .unset] [(.long (0 : Int64)), (.long ((q2.toInt64) - (q1.toInt64)))])) _
          refine XS.lcmp X130.here hx rfl (hb hby at_75) rfl ?_
          show Steps _ _ _ (T130.setTop (mkF m 76 #[iv q1, iv q2, iv q3, iv q4, iv r96, rv b99, .val (.long ((q3.toInt64) - (q1.toInt64))), .second, .val (.long ((q2.toInt64) - (q3.toInt64))), .second, iv 1, .unset, .unset, .unset, .unset] [(.int (lcmpW ((q2.toInt64) - (q1.toInt64)) (0 : Int64)))])) _
          refine XS.ifNo X130.here hx rfl (hb hby at_76) rfl ((if0 _ _).trans (tlt ((own_sub_gt _ _).mpr hC)).2.2.2) ?_
          show Steps _ _ _ (T130.setTop (mkF m 79 #[iv q1, iv q2, iv q3, iv q4, iv r96, rv b99, .val (.long ((q3.toInt64) - (q1.toInt64))), .second, .val (.long ((q2.toInt64) - (q3.toInt64))), .second, iv 1, .unset, .unset, .unset, .unset] [])) _
          refine XS.iconst X130.here hx rfl (hb hby at_79) ?_
          show Steps _ _ _ (T130.setTop (mkF m 80 #[iv q1, iv q2, iv q3, iv q4, iv r96, rv b99, .val (.long ((q3.toInt64) - (q1.toInt64))), .second, .val (.long ((q2.toInt64) - (q3.toInt64))), .second, iv 1, .unset, .unset, .unset, .unset] [(.int 1)])) _
          refine XS.goto X130.here hx rfl (pc0 := 80) (pc' := 84) rfl (hb hby at_80) (by decide) (by decide) ?_
          show Steps _ _ _ (T130.setTop (mkF m 84 #[iv q1, iv q2, iv q3, iv q4, iv r96, rv b99, .val (.long ((q3.toInt64) - (q1.toInt64))), .second, .val (.long ((q2.toInt64) - (q3.toInt64))), .second, iv 1, .unset, .unset, .unset, .unset] [(.int 1)])) _
          refine XS.istore X130.here hx rfl (hb hby at_84) rfl (l' := #[iv q1, iv q2, iv q3, iv q4, iv r96, rv b99, .val (.long ((q3.toInt64) - (q1.toInt64))), .second, .val (.long ((q2.toInt64) - (q3.toInt64))), .second, iv 1, iv 1, .unset, .unset, .unset]) rfl ?_
          show Steps _ _ _ (T130.setTop (mkF m 86 #[iv q1, iv q2, iv q3, iv q4, iv r96, rv b99, .val (.long ((q3.toInt64) - (q1.toInt64))), .second, .val (.long ((q2.toInt64) - (q3.toInt64))), .second, iv 1, iv 1, .unset, .unset, .unset] [])) _
          refine XS.aload X130.here hx rfl (hb hby at_86) rfl rfl ?_
          show Steps _ _ _ (T130.setTop (mkF m 88 #[iv q1, iv q2, iv q3, iv q4, iv r96, rv b99, .val (.long ((q3.toInt64) - (q1.toInt64))), .second, .val (.long ((q2.toInt64) - (q3.toInt64))), .second, iv 1, iv 1, .unset, .unset, .unset] [(.ref b99)])) _
          refine XS.iloadN X130.here hx rfl (hb hby at_88) rfl ?_
          show Steps _ _ _ (T130.setTop (mkF m 89 #[iv q1, iv q2, iv q3, iv q4, iv r96, rv b99, .val (.long ((q3.toInt64) - (q1.toInt64))), .second, .val (.long ((q2.toInt64) - (q3.toInt64))), .second, iv 1, iv 1, .unset, .unset, .unset] [(.int q3), (.ref b99)])) _
          exact q
        obtain ⟨cq157, kq157, q157a, q157b, q157c⟩ := isOf hZ116 (rfl : T130.heap = _) f_131
        obtain ⟨_, _, ⟨T157, L157, k157, n157⟩, -, X157, ⟨Lc157, hQ157, l157, y157, z157⟩, st157⟩ := X130.virtualBack hx (y := y_3) (z := y_3) hown116 (mvT hZ116 (hw _ (wd 42 rfl))) (mvT hZ116 (hw _ (wd 43 rfl))) (notFace_of_selects (args := #[]) (mvT hZ116 (hw _ (wd 45 rfl)))) (mvT hZ116 (hw _ (wd 45 rfl))) (mvT hZ116 (hw _ (wd 44 rfl))) (by decide) (backOf (W := 0) (cv l Z a0 hw [] a_FORWARDS a_BOTH a_BACKWARDS G b99 q3 q1 q2 (1 : Int32) T130.heap n0 O_138 I130_2 I130_3 (by simp [hA, hB])) hZ116 (hw _ (wd 46 rfl)) (hw _ (wd 2 rfl)) (by decide) (by decide)) q157a q157c (g := (mkF m 89 #[iv q1, iv q2, iv q3, iv q4, iv r96, rv b99, .val (.long ((q3.toInt64) - (q1.toInt64))), .second, .val (.long ((q2.toInt64) - (q3.toInt64))), .second, iv 1, iv 1, .unset, .unset, .unset] [(.int q3), (.ref b99)])) rfl (by rw [hml]; rfl) (Steps.refl _) (argsL := [(.int q3)]) (rest := []) (lenOf pd_3 rfl) rfl (by show 2 * 0 + _ ≤ _; exact Nat.le_of_eq rfl) (hb hby at_89) (fun _ _ => ⟨rfl, (rfl : T130.heap = _), (by decide : 5 + 0 ≤ _), (by decide : 22 + 0 ≤ _)⟩)
        dsimp only [Pt.U, Pt.locs, Pt.cells, Pt.slots] at X157 l157 y157 z157 st157 hQ157
        subst l157 y157 z157
        obtain ⟨rfl, N157q, e157⟩ := hQ157
        have N157 := Fr.app N130 N157q
        have k_158 : Go p.tables e below (s₁.setTop (entryFrame m #[(.int q1), (.int q2), (.int q3), (.int q4)] maxLocals)) (T157.setTop (mkF m 97 #[iv q1, iv q2, iv q3, iv q4, iv r96, rv b99, .val (.long ((q3.toInt64) - (q1.toInt64))), .second, .val (.long ((q2.toInt64) - (q3.toInt64))), .second, iv 1, iv 1, iv 1, .unset, .unset] [(.int q1), (.ref b99)])) := fun t q => by
          refine k_156 t ?_
          refine st157.trans ?_
          show Steps _ _ _ (T157.setTop (mkF m 92 #[iv q1, iv q2, iv q3, iv q4, iv r96, rv b99, .val (.long ((q3.toInt64) - (q1.toInt64))), .second, .val (.long ((q2.toInt64) - (q3.toInt64))), .second, iv 1, iv 1, .unset, .unset, .unset] [(.int 1)])) _
          refine XS.istore X157.here hx rfl (hb hby at_92) rfl (l' := #[iv q1, iv q2, iv q3, iv q4, iv r96, rv b99, .val (.long ((q3.toInt64) - (q1.toInt64))), .second, .val (.long ((q2.toInt64) - (q3.toInt64))), .second, iv 1, iv 1, iv 1, .unset, .unset]) rfl ?_
          show Steps _ _ _ (T157.setTop (mkF m 94 #[iv q1, iv q2, iv q3, iv q4, iv r96, rv b99, .val (.long ((q3.toInt64) - (q1.toInt64))), .second, .val (.long ((q2.toInt64) - (q3.toInt64))), .second, iv 1, iv 1, iv 1, .unset, .unset] [])) _
          refine XS.aload X157.here hx rfl (hb hby at_94) rfl rfl ?_
          show Steps _ _ _ (T157.setTop (mkF m 96 #[iv q1, iv q2, iv q3, iv q4, iv r96, rv b99, .val (.long ((q3.toInt64) - (q1.toInt64))), .second, .val (.long ((q2.toInt64) - (q3.toInt64))), .second, iv 1, iv 1, iv 1, .unset, .unset] [(.ref b99)])) _
          refine XS.iloadN X157.here hx rfl (hb hby at_96) rfl ?_
          show Steps _ _ _ (T157.setTop (mkF m 97 #[iv q1, iv q2, iv q3, iv q4, iv r96, rv b99, .val (.long ((q3.toInt64) - (q1.toInt64))), .second, .val (.long ((q2.toInt64) - (q3.toInt64))), .second, iv 1, iv 1, iv 1, .unset, .unset] [(.int q1), (.ref b99)])) _
          exact q
        obtain ⟨cq159, kq159, q159a, q159b, q159c⟩ := isOf hZ116 e157 f_131
        obtain ⟨_, _, ⟨T159, L159, k159, n159⟩, -, X159, ⟨Lc159, hQ159, l159, y159, z159⟩, st159⟩ := X157.virtualBack hx (y := y_3) (z := y_3) hown116 (mvT hZ116 (hw _ (wd 42 rfl))) (mvT hZ116 (hw _ (wd 43 rfl))) (notFace_of_selects (args := #[]) (mvT hZ116 (hw _ (wd 45 rfl)))) (mvT hZ116 (hw _ (wd 45 rfl))) (mvT hZ116 (hw _ (wd 44 rfl))) (by decide) (backOf (W := 0) (cv l Z a0 hw [] a_FORWARDS a_BOTH a_BACKWARDS G b99 q1 q1 q2 (1 : Int32) T130.heap n0 O_138 I130_2 I130_3 (by simp [hC, Int32.lt_irrefl])) hZ116 (hw _ (wd 46 rfl)) (hw _ (wd 2 rfl)) (by decide) (by decide)) q159a q159c (g := (mkF m 97 #[iv q1, iv q2, iv q3, iv q4, iv r96, rv b99, .val (.long ((q3.toInt64) - (q1.toInt64))), .second, .val (.long ((q2.toInt64) - (q3.toInt64))), .second, iv 1, iv 1, iv 1, .unset, .unset] [(.int q1), (.ref b99)])) rfl (by rw [hml]; rfl) (Steps.refl _) (argsL := [(.int q1)]) (rest := []) (lenOf pd_3 rfl) rfl (by show 2 * 0 + _ ≤ _; exact Nat.le_of_eq rfl) (hb hby at_97) (fun _ _ => ⟨rfl, e157, (by decide : 5 + 0 ≤ _), (by decide : 22 + 0 ≤ _)⟩)
        dsimp only [Pt.U, Pt.locs, Pt.cells, Pt.slots] at X159 l159 y159 z159 st159 hQ159
        subst l159 y159 z159
        obtain ⟨rfl, N159q, e159⟩ := hQ159
        have N159 := Fr.app N157 N159q
        have k_160 : Go p.tables e below (s₁.setTop (entryFrame m #[(.int q1), (.int q2), (.int q3), (.int q4)] maxLocals)) (T159.setTop (mkF m 105 #[iv q1, iv q2, iv q3, iv q4, iv r96, rv b99, .val (.long ((q3.toInt64) - (q1.toInt64))), .second, .val (.long ((q2.toInt64) - (q3.toInt64))), .second, iv 1, iv 1, iv 1, iv 1, .unset] [(.int q2), (.ref b99)])) := fun t q => by
          refine k_158 t ?_
          refine st159.trans ?_
          show Steps _ _ _ (T159.setTop (mkF m 100 #[iv q1, iv q2, iv q3, iv q4, iv r96, rv b99, .val (.long ((q3.toInt64) - (q1.toInt64))), .second, .val (.long ((q2.toInt64) - (q3.toInt64))), .second, iv 1, iv 1, iv 1, .unset, .unset] [(.int 1)])) _
          refine XS.istore X159.here hx rfl (hb hby at_100) rfl (l' := #[iv q1, iv q2, iv q3, iv q4, iv r96, rv b99, .val (.long ((q3.toInt64) - (q1.toInt64))), .second, .val (.long ((q2.toInt64) - (q3.toInt64))), .second, iv 1, iv 1, iv 1, iv 1, .unset]) rfl ?_
          show Steps _ _ _ (T159.setTop (mkF m 102 #[iv q1, iv q2, iv q3, iv q4, iv r96, rv b99, .val (.long ((q3.toInt64) - (q1.toInt64))), .second, .val (.long ((q2.toInt64) - (q3.toInt64))), .second, iv 1, iv 1, iv 1, iv 1, .unset] [])) _
          refine XS.aload X159.here hx rfl (hb hby at_102) rfl rfl ?_
          show Steps _ _ _ (T159.setTop (mkF m 104 #[iv q1, iv q2, iv q3, iv q4, iv r96, rv b99, .val (.long ((q3.toInt64) - (q1.toInt64))), .second, .val (.long ((q2.toInt64) - (q3.toInt64))), .second, iv 1, iv 1, iv 1, iv 1, .unset] [(.ref b99)])) _
          refine XS.iloadN X159.here hx rfl (hb hby at_104) rfl ?_
          show Steps _ _ _ (T159.setTop (mkF m 105 #[iv q1, iv q2, iv q3, iv q4, iv r96, rv b99, .val (.long ((q3.toInt64) - (q1.toInt64))), .second, .val (.long ((q2.toInt64) - (q3.toInt64))), .second, iv 1, iv 1, iv 1, iv 1, .unset] [(.int q2), (.ref b99)])) _
          exact q
        obtain ⟨cq161, kq161, q161a, q161b, q161c⟩ := isOf hZ116 e159 f_131
        obtain ⟨_, _, ⟨T161, L161, k161, n161⟩, -, X161, ⟨Lc161, hQ161, l161, y161, z161⟩, st161⟩ := X159.virtualBack hx (y := y_3) (z := y_3) hown116 (mvT hZ116 (hw _ (wd 42 rfl))) (mvT hZ116 (hw _ (wd 43 rfl))) (notFace_of_selects (args := #[]) (mvT hZ116 (hw _ (wd 45 rfl)))) (mvT hZ116 (hw _ (wd 45 rfl))) (mvT hZ116 (hw _ (wd 44 rfl))) (by decide) (backOf (W := 0) (cv l Z a0 hw [] a_FORWARDS a_BOTH a_BACKWARDS G b99 q2 q1 q2 (0 : Int32) T130.heap n0 O_138 I130_2 I130_3 (by simp [Int32.lt_irrefl])) hZ116 (hw _ (wd 46 rfl)) (hw _ (wd 2 rfl)) (by decide) (by decide)) q161a q161c (g := (mkF m 105 #[iv q1, iv q2, iv q3, iv q4, iv r96, rv b99, .val (.long ((q3.toInt64) - (q1.toInt64))), .second, .val (.long ((q2.toInt64) - (q3.toInt64))), .second, iv 1, iv 1, iv 1, iv 1, .unset] [(.int q2), (.ref b99)])) rfl (by rw [hml]; rfl) (Steps.refl _) (argsL := [(.int q2)]) (rest := []) (lenOf pd_3 rfl) rfl (by show 2 * 0 + _ ≤ _; exact Nat.le_of_eq rfl) (hb hby at_105) (fun _ _ => ⟨rfl, e159, (by decide : 5 + 0 ≤ _), (by decide : 22 + 0 ≤ _)⟩)
        dsimp only [Pt.U, Pt.locs, Pt.cells, Pt.slots] at X161 l161 y161 z161 st161 hQ161
        subst l161 y161 z161
        obtain ⟨rfl, N161q, e161⟩ := hQ161
        have N161 := Fr.app N159 N161q
        have k_162 : Go p.tables e below (s₁.setTop (entryFrame m #[(.int q1), (.int q2), (.int q3), (.int q4)] maxLocals)) (T161.setTop (mkF m 134 #[iv q1, iv q2, iv q3, iv q4, iv r96, rv b99, .val (.long ((q3.toInt64) - (q1.toInt64))), .second, .val (.long ((q2.toInt64) - (q3.toInt64))), .second, iv 1, iv 1, iv 1, iv 1, iv 0] [(.int 1)])) := fun t q => by
          refine k_160 t ?_
          refine st161.trans ?_
          show Steps _ _ _ (T161.setTop (mkF m 108 #[iv q1, iv q2, iv q3, iv q4, iv r96, rv b99, .val (.long ((q3.toInt64) - (q1.toInt64))), .second, .val (.long ((q2.toInt64) - (q3.toInt64))), .second, iv 1, iv 1, iv 1, iv 1, .unset] [(.int 0)])) _
          refine XS.istore X161.here hx rfl (hb hby at_108) rfl (l' := #[iv q1, iv q2, iv q3, iv q4, iv r96, rv b99, .val (.long ((q3.toInt64) - (q1.toInt64))), .second, .val (.long ((q2.toInt64) - (q3.toInt64))), .second, iv 1, iv 1, iv 1, iv 1, iv 0]) rfl ?_
          show Steps _ _ _ (T161.setTop (mkF m 110 #[iv q1, iv q2, iv q3, iv q4, iv r96, rv b99, .val (.long ((q3.toInt64) - (q1.toInt64))), .second, .val (.long ((q2.toInt64) - (q3.toInt64))), .second, iv 1, iv 1, iv 1, iv 1, iv 0] [])) _
          refine XS.iload X161.here hx rfl (hb hby at_110) rfl ?_
          show Steps _ _ _ (T161.setTop (mkF m 112 #[iv q1, iv q2, iv q3, iv q4, iv r96, rv b99, .val (.long ((q3.toInt64) - (q1.toInt64))), .second, .val (.long ((q2.toInt64) - (q3.toInt64))), .second, iv 1, iv 1, iv 1, iv 1, iv 0] [(.int 1)])) _
          refine XS.iload X161.here hx rfl (hb hby at_112) rfl ?_
          show Steps _ _ _ (T161.setTop (mkF m 114 #[iv q1, iv q2, iv q3, iv q4, iv r96, rv b99, .val (.long ((q3.toInt64) - (q1.toInt64))), .second, .val (.long ((q2.toInt64) - (q3.toInt64))), .second, iv 1, iv 1, iv 1, iv 1, iv 0] [(.int 1), (.int 1)])) _
          refine XS.icmpNo X161.here hx rfl (hb hby at_114) rfl (by decide) ?_
          show Steps _ _ _ (T161.setTop (mkF m 117 #[iv q1, iv q2, iv q3, iv q4, iv r96, rv b99, .val (.long ((q3.toInt64) - (q1.toInt64))), .second, .val (.long ((q2.toInt64) - (q3.toInt64))), .second, iv 1, iv 1, iv 1, iv 1, iv 0] [])) _
          refine XS.iload X161.here hx rfl (hb hby at_117) rfl ?_
          show Steps _ _ _ (T161.setTop (mkF m 119 #[iv q1, iv q2, iv q3, iv q4, iv r96, rv b99, .val (.long ((q3.toInt64) - (q1.toInt64))), .second, .val (.long ((q2.toInt64) - (q3.toInt64))), .second, iv 1, iv 1, iv 1, iv 1, iv 0] [(.int 1)])) _
          refine XS.iload X161.here hx rfl (hb hby at_119) rfl ?_
          show Steps _ _ _ (T161.setTop (mkF m 121 #[iv q1, iv q2, iv q3, iv q4, iv r96, rv b99, .val (.long ((q3.toInt64) - (q1.toInt64))), .second, .val (.long ((q2.toInt64) - (q3.toInt64))), .second, iv 1, iv 1, iv 1, iv 1, iv 0] [(.int 1), (.int 1)])) _
          refine XS.icmpNo X161.here hx rfl (hb hby at_121) rfl (by decide) ?_
          show Steps _ _ _ (T161.setTop (mkF m 124 #[iv q1, iv q2, iv q3, iv q4, iv r96, rv b99, .val (.long ((q3.toInt64) - (q1.toInt64))), .second, .val (.long ((q2.toInt64) - (q3.toInt64))), .second, iv 1, iv 1, iv 1, iv 1, iv 0] [])) _
          refine XS.iload X161.here hx rfl (hb hby at_124) rfl ?_
          show Steps _ _ _ (T161.setTop (mkF m 126 #[iv q1, iv q2, iv q3, iv q4, iv r96, rv b99, .val (.long ((q3.toInt64) - (q1.toInt64))), .second, .val (.long ((q2.toInt64) - (q3.toInt64))), .second, iv 1, iv 1, iv 1, iv 1, iv 0] [(.int 0)])) _
          refine XS.ifNo X161.here hx rfl (hb hby at_126) rfl (by decide) ?_
          show Steps _ _ _ (T161.setTop (mkF m 129 #[iv q1, iv q2, iv q3, iv q4, iv r96, rv b99, .val (.long ((q3.toInt64) - (q1.toInt64))), .second, .val (.long ((q2.toInt64) - (q3.toInt64))), .second, iv 1, iv 1, iv 1, iv 1, iv 0] [])) _
          refine XS.iconst X161.here hx rfl (hb hby at_129) ?_
          show Steps _ _ _ (T161.setTop (mkF m 130 #[iv q1, iv q2, iv q3, iv q4, iv r96, rv b99, .val (.long ((q3.toInt64) - (q1.toInt64))), .second, .val (.long ((q2.toInt64) - (q3.toInt64))), .second, iv 1, iv 1, iv 1, iv 1, iv 0] [(.int 1)])) _
          refine XS.goto X161.here hx rfl (pc0 := 130) (pc' := 134) rfl (hb hby at_130) (by decide) (by decide) ?_
          show Steps _ _ _ (T161.setTop (mkF m 134 #[iv q1, iv q2, iv q3, iv q4, iv r96, rv b99, .val (.long ((q3.toInt64) - (q1.toInt64))), .second, .val (.long ((q2.toInt64) - (q3.toInt64))), .second, iv 1, iv 1, iv 1, iv 1, iv 0] [(.int 1)])) _
          exact q
        obtain ⟨fs, hr, hrun, hended, hEnd⟩ := X161.leaveW hS116 ((e161).symm ▸ hk_140) (v := some (.int 1)) (fun h => by rw [Bd.returns] at h; cases h)
        refine ⟨_, _, k_162 _ ?_, hrun, hended, _, _, rfl, ?_, (⟨hEnd.1, hEnd.2.1, hEnd.2.2.1, hEnd.2.2.2.mono (by decide) (by decide)⟩ : ReturnedEndW _ _ _ _ _ _)⟩
        · exact retN X161 hx (t := .boolean) Bd.returns (by simp) (hb hby at_134) hr
        · show Q0 n0 _ T161.heap _
          rw [e161]
          exact ⟨rfl, N161⟩
      · skip
        have k_163 : Go p.tables e below (s₁.setTop (entryFrame m #[(.int q1), (.int q2), (.int q3), (.int q4)] maxLocals)) (T130.setTop (mkF m 89 #[iv q1, iv q2, iv q3, iv q4, iv r96, rv b99, .val (.long ((q3.toInt64) - (q1.toInt64))), .second, .val (.long ((q2.toInt64) - (q3.toInt64))), .second, iv 1, iv 0, .unset, .unset, .unset] [(.int q3), (.ref b99)])) := fun t q => by
          refine k_141 t ?_
          refine XS.iloadN X130.here hx rfl (hb hby at_34) rfl ?_
          show Steps _ _ _ (T130.setTop (mkF m 35 #[iv q1, iv q2, iv q3, iv q4, iv r96, rv b99, .unset, .unset, .unset, .unset, .unset, .unset, .unset, .unset, .unset] [(.int q3)])) _
          refine XS.i2l X130.here hx rfl (hb hby at_35) rfl ?_
          show Steps _ _ _ (T130.setTop (mkF m 36 #[iv q1, iv q2, iv q3, iv q4, iv r96, rv b99, .unset, .unset, .unset, .unset, .unset, .unset, .unset, .unset, .unset] [(.long (q3.toInt64))])) _
          refine XS.iloadN X130.here hx rfl (hb hby at_36) rfl ?_
          show Steps _ _ _ (T130.setTop (mkF m 37 #[iv q1, iv q2, iv q3, iv q4, iv r96, rv b99, .unset, .unset, .unset, .unset, .unset, .unset, .unset, .unset, .unset] [(.int q1), (.long (q3.toInt64))])) _
          refine XS.i2l X130.here hx rfl (hb hby at_37) rfl ?_
          show Steps _ _ _ (T130.setTop (mkF m 38 #[iv q1, iv q2, iv q3, iv q4, iv r96, rv b99, .unset, .unset, .unset, .unset, .unset, .unset, .unset, .unset, .unset] [(.long (q1.toInt64)), (.long (q3.toInt64))])) _
          refine XS.lsub X130.here hx rfl (hb hby at_38) rfl ?_
          show Steps _ _ _ (T130.setTop (mkF m 39 #[iv q1, iv q2, iv q3, iv q4, iv r96, rv b99, .unset, .unset, .unset, .unset, .unset, .unset, .unset, .unset, .unset] [(.long ((q3.toInt64) - (q1.toInt64)))])) _
          refine XS.lstore X130.here hx rfl (hb hby at_39) rfl (l' := #[iv q1, iv q2, iv q3, iv q4, iv r96, rv b99, .val (.long ((q3.toInt64) - (q1.toInt64))), .second, .unset, .unset, .unset, .unset, .unset, .unset, .unset]) rfl ?_
          show Steps _ _ _ (T130.setTop (mkF m 41 #[iv q1, iv q2, iv q3, iv q4, iv r96, rv b99, .val (.long ((q3.toInt64) - (q1.toInt64))), .second, .unset, .unset, .unset, .unset, .unset, .unset, .unset] [])) _
          refine XS.iloadN X130.here hx rfl (hb hby at_41) rfl ?_
          show Steps _ _ _ (T130.setTop (mkF m 42 #[iv q1, iv q2, iv q3, iv q4, iv r96, rv b99, .val (.long ((q3.toInt64) - (q1.toInt64))), .second, .unset, .unset, .unset, .unset, .unset, .unset, .unset] [(.int q2)])) _
          refine XS.i2l X130.here hx rfl (hb hby at_42) rfl ?_
          show Steps _ _ _ (T130.setTop (mkF m 43 #[iv q1, iv q2, iv q3, iv q4, iv r96, rv b99, .val (.long ((q3.toInt64) - (q1.toInt64))), .second, .unset, .unset, .unset, .unset, .unset, .unset, .unset] [(.long (q2.toInt64))])) _
          refine XS.iloadN X130.here hx rfl (hb hby at_43) rfl ?_
          show Steps _ _ _ (T130.setTop (mkF m 44 #[iv q1, iv q2, iv q3, iv q4, iv r96, rv b99, .val (.long ((q3.toInt64) - (q1.toInt64))), .second, .unset, .unset, .unset, .unset, .unset, .unset, .unset] [(.int q3), (.long (q2.toInt64))])) _
          refine XS.i2l X130.here hx rfl (hb hby at_44) rfl ?_
          show Steps _ _ _ (T130.setTop (mkF m 45 #[iv q1, iv q2, iv q3, iv q4, iv r96, rv b99, .val (.long ((q3.toInt64) - (q1.toInt64))), .second, .unset, .unset, .unset, .unset, .unset, .unset, .unset] [(.long (q3.toInt64)), (.long (q2.toInt64))])) _
          refine XS.lsub X130.here hx rfl (hb hby at_45) rfl ?_
          show Steps _ _ _ (T130.setTop (mkF m 46 #[iv q1, iv q2, iv q3, iv q4, iv r96, rv b99, .val (.long ((q3.toInt64) - (q1.toInt64))), .second, .unset, .unset, .unset, .unset, .unset, .unset, .unset] [(.long ((q2.toInt64) - (q3.toInt64)))])) _
          refine XS.lstore X130.here hx rfl (hb hby at_46) rfl (l' := #[iv q1, iv q2, iv q3, iv q4, iv r96, rv b99, .val (.long ((q3.toInt64) - (q1.toInt64))), .second, .val (.long ((q2.toInt64) - (q3.toInt64))), .second, .unset, .unset, .unset, .unset, .unset]) rfl ?_
          show Steps _ _ _ (T130.setTop (mkF m 48 #[iv q1, iv q2, iv q3, iv q4, iv r96, rv b99, .val (.long ((q3.toInt64) - (q1.toInt64))), .second, .val (.long ((q2.toInt64) - (q3.toInt64))), .second, .unset, .unset, .unset, .unset, .unset] [])) _
          refine XS.lload X130.here hx rfl (hb hby at_48) rfl ?_
          show Steps _ _ _ (T130.setTop (mkF m 50 #[iv q1, iv q2, iv q3, iv q4, iv r96, rv b99, .val (.long ((q3.toInt64) - (q1.toInt64))), .second, .val (.long ((q2.toInt64) - (q3.toInt64))), .second, .unset, .unset, .unset, .unset, .unset] [(.long ((q3.toInt64) - (q1.toInt64)))])) _
          refine XS.lconst X130.here hx rfl (hb hby at_50) ?_
          show Steps _ _ _ (T130.setTop (mkF m 51 #[iv q1, iv q2, iv q3, iv q4, iv r96, rv b99, .val (.long ((q3.toInt64) - (q1.toInt64))), .second, .val (.long ((q2.toInt64) - (q3.toInt64))), .second, .unset, .unset, .unset, .unset, .unset] [(.long (0 : Int64)), (.long ((q3.toInt64) - (q1.toInt64)))])) _
          refine XS.lcmp X130.here hx rfl (hb hby at_51) rfl ?_
          show Steps _ _ _ (T130.setTop (mkF m 52 #[iv q1, iv q2, iv q3, iv q4, iv r96, rv b99, .val (.long ((q3.toInt64) - (q1.toInt64))), .second, .val (.long ((q2.toInt64) - (q3.toInt64))), .second, .unset, .unset, .unset, .unset, .unset] [(.int (lcmpW ((q3.toInt64) - (q1.toInt64)) (0 : Int64)))])) _
          refine XS.ifNo X130.here hx rfl (hb hby at_52) rfl ((if0 _ _).trans (flt (fun z => hA ((own_sub_lt _ _).mp z))).1) ?_
          show Steps _ _ _ (T130.setTop (mkF m 55 #[iv q1, iv q2, iv q3, iv q4, iv r96, rv b99, .val (.long ((q3.toInt64) - (q1.toInt64))), .second, .val (.long ((q2.toInt64) - (q3.toInt64))), .second, .unset, .unset, .unset, .unset, .unset] [])) _
          refine XS.lload X130.here hx rfl (hb hby at_55) rfl ?_
          show Steps _ _ _ (T130.setTop (mkF m 57 #[iv q1, iv q2, iv q3, iv q4, iv r96, rv b99, .val (.long ((q3.toInt64) - (q1.toInt64))), .second, .val (.long ((q2.toInt64) - (q3.toInt64))), .second, .unset, .unset, .unset, .unset, .unset] [(.long ((q2.toInt64) - (q3.toInt64)))])) _
          refine XS.lconst X130.here hx rfl (hb hby at_57) ?_
          show Steps _ _ _ (T130.setTop (mkF m 58 #[iv q1, iv q2, iv q3, iv q4, iv r96, rv b99, .val (.long ((q3.toInt64) - (q1.toInt64))), .second, .val (.long ((q2.toInt64) - (q3.toInt64))), .second, .unset, .unset, .unset, .unset, .unset] [(.long (0 : Int64)), (.long ((q2.toInt64) - (q3.toInt64)))])) _
          refine XS.lcmp X130.here hx rfl (hb hby at_58) rfl ?_
          show Steps _ _ _ (T130.setTop (mkF m 59 #[iv q1, iv q2, iv q3, iv q4, iv r96, rv b99, .val (.long ((q3.toInt64) - (q1.toInt64))), .second, .val (.long ((q2.toInt64) - (q3.toInt64))), .second, .unset, .unset, .unset, .unset, .unset] [(.int (lcmpW ((q2.toInt64) - (q3.toInt64)) (0 : Int64)))])) _
          refine XS.ifNo X130.here hx rfl (hb hby at_59) rfl ((if0 _ _).trans (tlt ((own_sub_gt _ _).mpr hB)).2.2.2) ?_
          show Steps _ _ _ (T130.setTop (mkF m 62 #[iv q1, iv q2, iv q3, iv q4, iv r96, rv b99, .val (.long ((q3.toInt64) - (q1.toInt64))), .second, .val (.long ((q2.toInt64) - (q3.toInt64))), .second, .unset, .unset, .unset, .unset, .unset] [])) _
          refine XS.iconst X130.here hx rfl (hb hby at_62) ?_
          show Steps _ _ _ (T130.setTop (mkF m 63 #[iv q1, iv q2, iv q3, iv q4, iv r96, rv b99, .val (.long ((q3.toInt64) - (q1.toInt64))), .second, .val (.long ((q2.toInt64) - (q3.toInt64))), .second, .unset, .unset, .unset, .unset, .unset] [(.int 1)])) _
          refine XS.goto X130.here hx rfl (pc0 := 63) (pc' := 67) rfl (hb hby at_63) (by decide) (by decide) ?_
          show Steps _ _ _ (T130.setTop (mkF m 67 #[iv q1, iv q2, iv q3, iv q4, iv r96, rv b99, .val (.long ((q3.toInt64) - (q1.toInt64))), .second, .val (.long ((q2.toInt64) - (q3.toInt64))), .second, .unset, .unset, .unset, .unset, .unset] [(.int 1)])) _
          refine XS.istore X130.here hx rfl (hb hby at_67) rfl (l' := #[iv q1, iv q2, iv q3, iv q4, iv r96, rv b99, .val (.long ((q3.toInt64) - (q1.toInt64))), .second, .val (.long ((q2.toInt64) - (q3.toInt64))), .second, iv 1, .unset, .unset, .unset, .unset]) rfl ?_
          show Steps _ _ _ (T130.setTop (mkF m 69 #[iv q1, iv q2, iv q3, iv q4, iv r96, rv b99, .val (.long ((q3.toInt64) - (q1.toInt64))), .second, .val (.long ((q2.toInt64) - (q3.toInt64))), .second, iv 1, .unset, .unset, .unset, .unset] [])) _
          refine XS.iloadN X130.here hx rfl (hb hby at_69) rfl ?_
          show Steps _ _ _ (T130.setTop (mkF m 70 #[iv q1, iv q2, iv q3, iv q4, iv r96, rv b99, .val (.long ((q3.toInt64) - (q1.toInt64))), .second, .val (.long ((q2.toInt64) - (q3.toInt64))), .second, iv 1, .unset, .unset, .unset, .unset] [(.int q2)])) _
          refine XS.i2l X130.here hx rfl (hb hby at_70) rfl ?_
          show Steps _ _ _ (T130.setTop (mkF m 71 #[iv q1, iv q2, iv q3, iv q4, iv r96, rv b99, .val (.long ((q3.toInt64) - (q1.toInt64))), .second, .val (.long ((q2.toInt64) - (q3.toInt64))), .second, iv 1, .unset, .unset, .unset, .unset] [(.long (q2.toInt64))])) _
          refine XS.iloadN X130.here hx rfl (hb hby at_71) rfl ?_
          show Steps _ _ _ (T130.setTop (mkF m 72 #[iv q1, iv q2, iv q3, iv q4, iv r96, rv b99, .val (.long ((q3.toInt64) - (q1.toInt64))), .second, .val (.long ((q2.toInt64) - (q3.toInt64))), .second, iv 1, .unset, .unset, .unset, .unset] [(.int q1), (.long (q2.toInt64))])) _
          refine XS.i2l X130.here hx rfl (hb hby at_72) rfl ?_
          show Steps _ _ _ (T130.setTop (mkF m 73 #[iv q1, iv q2, iv q3, iv q4, iv r96, rv b99, .val (.long ((q3.toInt64) - (q1.toInt64))), .second, .val (.long ((q2.toInt64) - (q3.toInt64))), .second, iv 1, .unset, .unset, .unset, .unset] [(.long (q1.toInt64)), (.long (q2.toInt64))])) _
          refine XS.lsub X130.here hx rfl (hb hby at_73) rfl ?_
          show Steps _ _ _ (T130.setTop (mkF m 74 #[iv q1, iv q2, iv q3, iv q4, iv r96, rv b99, .val (.long ((q3.toInt64) - (q1.toInt64))), .second, .val (.long ((q2.toInt64) - (q3.toInt64))), .second, iv 1, .unset, .unset, .unset, .unset] [(.long ((q2.toInt64) - (q1.toInt64)))])) _
          refine XS.lconst X130.here hx rfl (hb hby at_74) ?_
          show Steps _ _ _ (T130.setTop (mkF m 75 #[iv q1, iv q2, iv q3, iv q4, iv r96, rv b99, .val (.long ((q3.toInt64) - (q1.toInt64))), .second, .val (.long ((q2.toInt64) - (q3.toInt64))), .second, iv 1, .unset, .unset, .unset, .unset] [(.long (0 : Int64)), (.long ((q2.toInt64) - (q1.toInt64)))])) _
          refine XS.lcmp X130.here hx rfl (hb hby at_75) rfl ?_
          show Steps _ _ _ (T130.setTop (mkF m 76 #[iv q1, iv q2, iv q3, iv q4, iv r96, rv b99, .val (.long ((q3.toInt64) - (q1.toInt64))), .second, .val (.long ((q2.toInt64) - (q3.toInt64))), .second, iv 1, .unset, .unset, .unset, .unset] [(.int (lcmpW ((q2.toInt64) - (q1.toInt64)) (0 : Int64)))])) _
          refine XS.ifYes X130.here hx rfl (pc0 := 76) (pc' := 83) rfl (hb hby at_76) rfl ((if0 _ _).trans (flt (fun z => hC ((own_sub_gt _ _).mp z))).2.2.2) (by decide) (by decide) ?_
          show Steps _ _ _ (T130.setTop (mkF m 83 #[iv q1, iv q2, iv q3, iv q4, iv r96, rv b99, .val (.long ((q3.toInt64) - (q1.toInt64))), .second, .val (.long ((q2.toInt64) - (q3.toInt64))), .second, iv 1, .unset, .unset, .unset, .unset] [])) _
          refine XS.iconst X130.here hx rfl (hb hby at_83) ?_
          show Steps _ _ _ (T130.setTop (mkF m 84 #[iv q1, iv q2, iv q3, iv q4, iv r96, rv b99, .val (.long ((q3.toInt64) - (q1.toInt64))), .second, .val (.long ((q2.toInt64) - (q3.toInt64))), .second, iv 1, .unset, .unset, .unset, .unset] [(.int 0)])) _
          refine XS.istore X130.here hx rfl (hb hby at_84) rfl (l' := #[iv q1, iv q2, iv q3, iv q4, iv r96, rv b99, .val (.long ((q3.toInt64) - (q1.toInt64))), .second, .val (.long ((q2.toInt64) - (q3.toInt64))), .second, iv 1, iv 0, .unset, .unset, .unset]) rfl ?_
          show Steps _ _ _ (T130.setTop (mkF m 86 #[iv q1, iv q2, iv q3, iv q4, iv r96, rv b99, .val (.long ((q3.toInt64) - (q1.toInt64))), .second, .val (.long ((q2.toInt64) - (q3.toInt64))), .second, iv 1, iv 0, .unset, .unset, .unset] [])) _
          refine XS.aload X130.here hx rfl (hb hby at_86) rfl rfl ?_
          show Steps _ _ _ (T130.setTop (mkF m 88 #[iv q1, iv q2, iv q3, iv q4, iv r96, rv b99, .val (.long ((q3.toInt64) - (q1.toInt64))), .second, .val (.long ((q2.toInt64) - (q3.toInt64))), .second, iv 1, iv 0, .unset, .unset, .unset] [(.ref b99)])) _
          refine XS.iloadN X130.here hx rfl (hb hby at_88) rfl ?_
          show Steps _ _ _ (T130.setTop (mkF m 89 #[iv q1, iv q2, iv q3, iv q4, iv r96, rv b99, .val (.long ((q3.toInt64) - (q1.toInt64))), .second, .val (.long ((q2.toInt64) - (q3.toInt64))), .second, iv 1, iv 0, .unset, .unset, .unset] [(.int q3), (.ref b99)])) _
          exact q
        obtain ⟨cq164, kq164, q164a, q164b, q164c⟩ := isOf hZ116 (rfl : T130.heap = _) f_131
        obtain ⟨_, _, ⟨T164, L164, k164, n164⟩, -, X164, ⟨Lc164, hQ164, l164, y164, z164⟩, st164⟩ := X130.virtualBack hx (y := y_3) (z := y_3) hown116 (mvT hZ116 (hw _ (wd 42 rfl))) (mvT hZ116 (hw _ (wd 43 rfl))) (notFace_of_selects (args := #[]) (mvT hZ116 (hw _ (wd 45 rfl)))) (mvT hZ116 (hw _ (wd 45 rfl))) (mvT hZ116 (hw _ (wd 44 rfl))) (by decide) (backOf (W := 0) (cv l Z a0 hw [] a_FORWARDS a_BOTH a_BACKWARDS G b99 q3 q1 q2 (1 : Int32) T130.heap n0 O_138 I130_2 I130_3 (by simp [hA, hB])) hZ116 (hw _ (wd 46 rfl)) (hw _ (wd 2 rfl)) (by decide) (by decide)) q164a q164c (g := (mkF m 89 #[iv q1, iv q2, iv q3, iv q4, iv r96, rv b99, .val (.long ((q3.toInt64) - (q1.toInt64))), .second, .val (.long ((q2.toInt64) - (q3.toInt64))), .second, iv 1, iv 0, .unset, .unset, .unset] [(.int q3), (.ref b99)])) rfl (by rw [hml]; rfl) (Steps.refl _) (argsL := [(.int q3)]) (rest := []) (lenOf pd_3 rfl) rfl (by show 2 * 0 + _ ≤ _; exact Nat.le_of_eq rfl) (hb hby at_89) (fun _ _ => ⟨rfl, (rfl : T130.heap = _), (by decide : 5 + 0 ≤ _), (by decide : 22 + 0 ≤ _)⟩)
        dsimp only [Pt.U, Pt.locs, Pt.cells, Pt.slots] at X164 l164 y164 z164 st164 hQ164
        subst l164 y164 z164
        obtain ⟨rfl, N164q, e164⟩ := hQ164
        have N164 := Fr.app N130 N164q
        have k_165 : Go p.tables e below (s₁.setTop (entryFrame m #[(.int q1), (.int q2), (.int q3), (.int q4)] maxLocals)) (T164.setTop (mkF m 97 #[iv q1, iv q2, iv q3, iv q4, iv r96, rv b99, .val (.long ((q3.toInt64) - (q1.toInt64))), .second, .val (.long ((q2.toInt64) - (q3.toInt64))), .second, iv 1, iv 0, iv 1, .unset, .unset] [(.int q1), (.ref b99)])) := fun t q => by
          refine k_163 t ?_
          refine st164.trans ?_
          show Steps _ _ _ (T164.setTop (mkF m 92 #[iv q1, iv q2, iv q3, iv q4, iv r96, rv b99, .val (.long ((q3.toInt64) - (q1.toInt64))), .second, .val (.long ((q2.toInt64) - (q3.toInt64))), .second, iv 1, iv 0, .unset, .unset, .unset] [(.int 1)])) _
          refine XS.istore X164.here hx rfl (hb hby at_92) rfl (l' := #[iv q1, iv q2, iv q3, iv q4, iv r96, rv b99, .val (.long ((q3.toInt64) - (q1.toInt64))), .second, .val (.long ((q2.toInt64) - (q3.toInt64))), .second, iv 1, iv 0, iv 1, .unset, .unset]) rfl ?_
          show Steps _ _ _ (T164.setTop (mkF m 94 #[iv q1, iv q2, iv q3, iv q4, iv r96, rv b99, .val (.long ((q3.toInt64) - (q1.toInt64))), .second, .val (.long ((q2.toInt64) - (q3.toInt64))), .second, iv 1, iv 0, iv 1, .unset, .unset] [])) _
          refine XS.aload X164.here hx rfl (hb hby at_94) rfl rfl ?_
          show Steps _ _ _ (T164.setTop (mkF m 96 #[iv q1, iv q2, iv q3, iv q4, iv r96, rv b99, .val (.long ((q3.toInt64) - (q1.toInt64))), .second, .val (.long ((q2.toInt64) - (q3.toInt64))), .second, iv 1, iv 0, iv 1, .unset, .unset] [(.ref b99)])) _
          refine XS.iloadN X164.here hx rfl (hb hby at_96) rfl ?_
          show Steps _ _ _ (T164.setTop (mkF m 97 #[iv q1, iv q2, iv q3, iv q4, iv r96, rv b99, .val (.long ((q3.toInt64) - (q1.toInt64))), .second, .val (.long ((q2.toInt64) - (q3.toInt64))), .second, iv 1, iv 0, iv 1, .unset, .unset] [(.int q1), (.ref b99)])) _
          exact q
        obtain ⟨cq166, kq166, q166a, q166b, q166c⟩ := isOf hZ116 e164 f_131
        obtain ⟨_, _, ⟨T166, L166, k166, n166⟩, -, X166, ⟨Lc166, hQ166, l166, y166, z166⟩, st166⟩ := X164.virtualBack hx (y := y_3) (z := y_3) hown116 (mvT hZ116 (hw _ (wd 42 rfl))) (mvT hZ116 (hw _ (wd 43 rfl))) (notFace_of_selects (args := #[]) (mvT hZ116 (hw _ (wd 45 rfl)))) (mvT hZ116 (hw _ (wd 45 rfl))) (mvT hZ116 (hw _ (wd 44 rfl))) (by decide) (backOf (W := 0) (cv l Z a0 hw [] a_FORWARDS a_BOTH a_BACKWARDS G b99 q1 q1 q2 (0 : Int32) T130.heap n0 O_138 I130_2 I130_3 (by simp [hC, Int32.lt_irrefl])) hZ116 (hw _ (wd 46 rfl)) (hw _ (wd 2 rfl)) (by decide) (by decide)) q166a q166c (g := (mkF m 97 #[iv q1, iv q2, iv q3, iv q4, iv r96, rv b99, .val (.long ((q3.toInt64) - (q1.toInt64))), .second, .val (.long ((q2.toInt64) - (q3.toInt64))), .second, iv 1, iv 0, iv 1, .unset, .unset] [(.int q1), (.ref b99)])) rfl (by rw [hml]; rfl) (Steps.refl _) (argsL := [(.int q1)]) (rest := []) (lenOf pd_3 rfl) rfl (by show 2 * 0 + _ ≤ _; exact Nat.le_of_eq rfl) (hb hby at_97) (fun _ _ => ⟨rfl, e164, (by decide : 5 + 0 ≤ _), (by decide : 22 + 0 ≤ _)⟩)
        dsimp only [Pt.U, Pt.locs, Pt.cells, Pt.slots] at X166 l166 y166 z166 st166 hQ166
        subst l166 y166 z166
        obtain ⟨rfl, N166q, e166⟩ := hQ166
        have N166 := Fr.app N164 N166q
        have k_167 : Go p.tables e below (s₁.setTop (entryFrame m #[(.int q1), (.int q2), (.int q3), (.int q4)] maxLocals)) (T166.setTop (mkF m 105 #[iv q1, iv q2, iv q3, iv q4, iv r96, rv b99, .val (.long ((q3.toInt64) - (q1.toInt64))), .second, .val (.long ((q2.toInt64) - (q3.toInt64))), .second, iv 1, iv 0, iv 1, iv 0, .unset] [(.int q2), (.ref b99)])) := fun t q => by
          refine k_165 t ?_
          refine st166.trans ?_
          show Steps _ _ _ (T166.setTop (mkF m 100 #[iv q1, iv q2, iv q3, iv q4, iv r96, rv b99, .val (.long ((q3.toInt64) - (q1.toInt64))), .second, .val (.long ((q2.toInt64) - (q3.toInt64))), .second, iv 1, iv 0, iv 1, .unset, .unset] [(.int 0)])) _
          refine XS.istore X166.here hx rfl (hb hby at_100) rfl (l' := #[iv q1, iv q2, iv q3, iv q4, iv r96, rv b99, .val (.long ((q3.toInt64) - (q1.toInt64))), .second, .val (.long ((q2.toInt64) - (q3.toInt64))), .second, iv 1, iv 0, iv 1, iv 0, .unset]) rfl ?_
          show Steps _ _ _ (T166.setTop (mkF m 102 #[iv q1, iv q2, iv q3, iv q4, iv r96, rv b99, .val (.long ((q3.toInt64) - (q1.toInt64))), .second, .val (.long ((q2.toInt64) - (q3.toInt64))), .second, iv 1, iv 0, iv 1, iv 0, .unset] [])) _
          refine XS.aload X166.here hx rfl (hb hby at_102) rfl rfl ?_
          show Steps _ _ _ (T166.setTop (mkF m 104 #[iv q1, iv q2, iv q3, iv q4, iv r96, rv b99, .val (.long ((q3.toInt64) - (q1.toInt64))), .second, .val (.long ((q2.toInt64) - (q3.toInt64))), .second, iv 1, iv 0, iv 1, iv 0, .unset] [(.ref b99)])) _
          refine XS.iloadN X166.here hx rfl (hb hby at_104) rfl ?_
          show Steps _ _ _ (T166.setTop (mkF m 105 #[iv q1, iv q2, iv q3, iv q4, iv r96, rv b99, .val (.long ((q3.toInt64) - (q1.toInt64))), .second, .val (.long ((q2.toInt64) - (q3.toInt64))), .second, iv 1, iv 0, iv 1, iv 0, .unset] [(.int q2), (.ref b99)])) _
          exact q
        obtain ⟨cq168, kq168, q168a, q168b, q168c⟩ := isOf hZ116 e166 f_131
        obtain ⟨_, _, ⟨T168, L168, k168, n168⟩, -, X168, ⟨Lc168, hQ168, l168, y168, z168⟩, st168⟩ := X166.virtualBack hx (y := y_3) (z := y_3) hown116 (mvT hZ116 (hw _ (wd 42 rfl))) (mvT hZ116 (hw _ (wd 43 rfl))) (notFace_of_selects (args := #[]) (mvT hZ116 (hw _ (wd 45 rfl)))) (mvT hZ116 (hw _ (wd 45 rfl))) (mvT hZ116 (hw _ (wd 44 rfl))) (by decide) (backOf (W := 0) (cv l Z a0 hw [] a_FORWARDS a_BOTH a_BACKWARDS G b99 q2 q1 q2 (0 : Int32) T130.heap n0 O_138 I130_2 I130_3 (by simp [Int32.lt_irrefl])) hZ116 (hw _ (wd 46 rfl)) (hw _ (wd 2 rfl)) (by decide) (by decide)) q168a q168c (g := (mkF m 105 #[iv q1, iv q2, iv q3, iv q4, iv r96, rv b99, .val (.long ((q3.toInt64) - (q1.toInt64))), .second, .val (.long ((q2.toInt64) - (q3.toInt64))), .second, iv 1, iv 0, iv 1, iv 0, .unset] [(.int q2), (.ref b99)])) rfl (by rw [hml]; rfl) (Steps.refl _) (argsL := [(.int q2)]) (rest := []) (lenOf pd_3 rfl) rfl (by show 2 * 0 + _ ≤ _; exact Nat.le_of_eq rfl) (hb hby at_105) (fun _ _ => ⟨rfl, e166, (by decide : 5 + 0 ≤ _), (by decide : 22 + 0 ≤ _)⟩)
        dsimp only [Pt.U, Pt.locs, Pt.cells, Pt.slots] at X168 l168 y168 z168 st168 hQ168
        subst l168 y168 z168
        obtain ⟨rfl, N168q, e168⟩ := hQ168
        have N168 := Fr.app N166 N168q
        have k_169 : Go p.tables e below (s₁.setTop (entryFrame m #[(.int q1), (.int q2), (.int q3), (.int q4)] maxLocals)) (T168.setTop (mkF m 134 #[iv q1, iv q2, iv q3, iv q4, iv r96, rv b99, .val (.long ((q3.toInt64) - (q1.toInt64))), .second, .val (.long ((q2.toInt64) - (q3.toInt64))), .second, iv 1, iv 0, iv 1, iv 0, iv 0] [(.int 1)])) := fun t q => by
          refine k_167 t ?_
          refine st168.trans ?_
          show Steps _ _ _ (T168.setTop (mkF m 108 #[iv q1, iv q2, iv q3, iv q4, iv r96, rv b99, .val (.long ((q3.toInt64) - (q1.toInt64))), .second, .val (.long ((q2.toInt64) - (q3.toInt64))), .second, iv 1, iv 0, iv 1, iv 0, .unset] [(.int 0)])) _
          refine XS.istore X168.here hx rfl (hb hby at_108) rfl (l' := #[iv q1, iv q2, iv q3, iv q4, iv r96, rv b99, .val (.long ((q3.toInt64) - (q1.toInt64))), .second, .val (.long ((q2.toInt64) - (q3.toInt64))), .second, iv 1, iv 0, iv 1, iv 0, iv 0]) rfl ?_
          show Steps _ _ _ (T168.setTop (mkF m 110 #[iv q1, iv q2, iv q3, iv q4, iv r96, rv b99, .val (.long ((q3.toInt64) - (q1.toInt64))), .second, .val (.long ((q2.toInt64) - (q3.toInt64))), .second, iv 1, iv 0, iv 1, iv 0, iv 0] [])) _
          refine XS.iload X168.here hx rfl (hb hby at_110) rfl ?_
          show Steps _ _ _ (T168.setTop (mkF m 112 #[iv q1, iv q2, iv q3, iv q4, iv r96, rv b99, .val (.long ((q3.toInt64) - (q1.toInt64))), .second, .val (.long ((q2.toInt64) - (q3.toInt64))), .second, iv 1, iv 0, iv 1, iv 0, iv 0] [(.int 1)])) _
          refine XS.iload X168.here hx rfl (hb hby at_112) rfl ?_
          show Steps _ _ _ (T168.setTop (mkF m 114 #[iv q1, iv q2, iv q3, iv q4, iv r96, rv b99, .val (.long ((q3.toInt64) - (q1.toInt64))), .second, .val (.long ((q2.toInt64) - (q3.toInt64))), .second, iv 1, iv 0, iv 1, iv 0, iv 0] [(.int 1), (.int 1)])) _
          refine XS.icmpNo X168.here hx rfl (hb hby at_114) rfl (by decide) ?_
          show Steps _ _ _ (T168.setTop (mkF m 117 #[iv q1, iv q2, iv q3, iv q4, iv r96, rv b99, .val (.long ((q3.toInt64) - (q1.toInt64))), .second, .val (.long ((q2.toInt64) - (q3.toInt64))), .second, iv 1, iv 0, iv 1, iv 0, iv 0] [])) _
          refine XS.iload X168.here hx rfl (hb hby at_117) rfl ?_
          show Steps _ _ _ (T168.setTop (mkF m 119 #[iv q1, iv q2, iv q3, iv q4, iv r96, rv b99, .val (.long ((q3.toInt64) - (q1.toInt64))), .second, .val (.long ((q2.toInt64) - (q3.toInt64))), .second, iv 1, iv 0, iv 1, iv 0, iv 0] [(.int 0)])) _
          refine XS.iload X168.here hx rfl (hb hby at_119) rfl ?_
          show Steps _ _ _ (T168.setTop (mkF m 121 #[iv q1, iv q2, iv q3, iv q4, iv r96, rv b99, .val (.long ((q3.toInt64) - (q1.toInt64))), .second, .val (.long ((q2.toInt64) - (q3.toInt64))), .second, iv 1, iv 0, iv 1, iv 0, iv 0] [(.int 0), (.int 0)])) _
          refine XS.icmpNo X168.here hx rfl (hb hby at_121) rfl (by decide) ?_
          show Steps _ _ _ (T168.setTop (mkF m 124 #[iv q1, iv q2, iv q3, iv q4, iv r96, rv b99, .val (.long ((q3.toInt64) - (q1.toInt64))), .second, .val (.long ((q2.toInt64) - (q3.toInt64))), .second, iv 1, iv 0, iv 1, iv 0, iv 0] [])) _
          refine XS.iload X168.here hx rfl (hb hby at_124) rfl ?_
          show Steps _ _ _ (T168.setTop (mkF m 126 #[iv q1, iv q2, iv q3, iv q4, iv r96, rv b99, .val (.long ((q3.toInt64) - (q1.toInt64))), .second, .val (.long ((q2.toInt64) - (q3.toInt64))), .second, iv 1, iv 0, iv 1, iv 0, iv 0] [(.int 0)])) _
          refine XS.ifNo X168.here hx rfl (hb hby at_126) rfl (by decide) ?_
          show Steps _ _ _ (T168.setTop (mkF m 129 #[iv q1, iv q2, iv q3, iv q4, iv r96, rv b99, .val (.long ((q3.toInt64) - (q1.toInt64))), .second, .val (.long ((q2.toInt64) - (q3.toInt64))), .second, iv 1, iv 0, iv 1, iv 0, iv 0] [])) _
          refine XS.iconst X168.here hx rfl (hb hby at_129) ?_
          show Steps _ _ _ (T168.setTop (mkF m 130 #[iv q1, iv q2, iv q3, iv q4, iv r96, rv b99, .val (.long ((q3.toInt64) - (q1.toInt64))), .second, .val (.long ((q2.toInt64) - (q3.toInt64))), .second, iv 1, iv 0, iv 1, iv 0, iv 0] [(.int 1)])) _
          refine XS.goto X168.here hx rfl (pc0 := 130) (pc' := 134) rfl (hb hby at_130) (by decide) (by decide) ?_
          show Steps _ _ _ (T168.setTop (mkF m 134 #[iv q1, iv q2, iv q3, iv q4, iv r96, rv b99, .val (.long ((q3.toInt64) - (q1.toInt64))), .second, .val (.long ((q2.toInt64) - (q3.toInt64))), .second, iv 1, iv 0, iv 1, iv 0, iv 0] [(.int 1)])) _
          exact q
        obtain ⟨fs, hr, hrun, hended, hEnd⟩ := X168.leaveW hS116 ((e168).symm ▸ hk_140) (v := some (.int 1)) (fun h => by rw [Bd.returns] at h; cases h)
        refine ⟨_, _, k_169 _ ?_, hrun, hended, _, _, rfl, ?_, (⟨hEnd.1, hEnd.2.1, hEnd.2.2.1, hEnd.2.2.2.mono (by decide) (by decide)⟩ : ReturnedEndW _ _ _ _ _ _)⟩
        · exact retN X168 hx (t := .boolean) Bd.returns (by simp) (hb hby at_134) hr
        · show Q0 n0 _ T168.heap _
          rw [e168]
          exact ⟨rfl, N168⟩
    · skip
      rcases Decidable.em (q1 < q2) with hC | hC
      · skip
        have k_170 : Go p.tables e below (s₁.setTop (entryFrame m #[(.int q1), (.int q2), (.int q3), (.int q4)] maxLocals)) (T130.setTop (mkF m 89 #[iv q1, iv q2, iv q3, iv q4, iv r96, rv b99, .val (.long ((q3.toInt64) - (q1.toInt64))), .second, .val (.long ((q2.toInt64) - (q3.toInt64))), .second, iv 0, iv 1, .unset, .unset, .unset] [(.int q3), (.ref b99)])) := fun t q => by
          refine k_141 t ?_
          refine XS.iloadN X130.here hx rfl (hb hby at_34) rfl ?_
          show Steps _ _ _ (T130.setTop (mkF m 35 #[iv q1, iv q2, iv q3, iv q4, iv r96, rv b99, .unset, .unset, .unset, .unset, .unset, .unset, .unset, .unset, .unset] [(.int q3)])) _
          refine XS.i2l X130.here hx rfl (hb hby at_35) rfl ?_
          show Steps _ _ _ (T130.setTop (mkF m 36 #[iv q1, iv q2, iv q3, iv q4, iv r96, rv b99, .unset, .unset, .unset, .unset, .unset, .unset, .unset, .unset, .unset] [(.long (q3.toInt64))])) _
          refine XS.iloadN X130.here hx rfl (hb hby at_36) rfl ?_
          show Steps _ _ _ (T130.setTop (mkF m 37 #[iv q1, iv q2, iv q3, iv q4, iv r96, rv b99, .unset, .unset, .unset, .unset, .unset, .unset, .unset, .unset, .unset] [(.int q1), (.long (q3.toInt64))])) _
          refine XS.i2l X130.here hx rfl (hb hby at_37) rfl ?_
          show Steps _ _ _ (T130.setTop (mkF m 38 #[iv q1, iv q2, iv q3, iv q4, iv r96, rv b99, .unset, .unset, .unset, .unset, .unset, .unset, .unset, .unset, .unset] [(.long (q1.toInt64)), (.long (q3.toInt64))])) _
          refine XS.lsub X130.here hx rfl (hb hby at_38) rfl ?_
          show Steps _ _ _ (T130.setTop (mkF m 39 #[iv q1, iv q2, iv q3, iv q4, iv r96, rv b99, .unset, .unset, .unset, .unset, .unset, .unset, .unset, .unset, .unset] [(.long ((q3.toInt64) - (q1.toInt64)))])) _
          refine XS.lstore X130.here hx rfl (hb hby at_39) rfl (l' := #[iv q1, iv q2, iv q3, iv q4, iv r96, rv b99, .val (.long ((q3.toInt64) - (q1.toInt64))), .second, .unset, .unset, .unset, .unset, .unset, .unset, .unset]) rfl ?_
          show Steps _ _ _ (T130.setTop (mkF m 41 #[iv q1, iv q2, iv q3, iv q4, iv r96, rv b99, .val (.long ((q3.toInt64) - (q1.toInt64))), .second, .unset, .unset, .unset, .unset, .unset, .unset, .unset] [])) _
          refine XS.iloadN X130.here hx rfl (hb hby at_41) rfl ?_
          show Steps _ _ _ (T130.setTop (mkF m 42 #[iv q1, iv q2, iv q3, iv q4, iv r96, rv b99, .val (.long ((q3.toInt64) - (q1.toInt64))), .second, .unset, .unset, .unset, .unset, .unset, .unset, .unset] [(.int q2)])) _
          refine XS.i2l X130.here hx rfl (hb hby at_42) rfl ?_
          show Steps _ _ _ (T130.setTop (mkF m 43 #[iv q1, iv q2, iv q3, iv q4, iv r96, rv b99, .val (.long ((q3.toInt64) - (q1.toInt64))), .second, .unset, .unset, .unset, .unset, .unset, .unset, .unset] [(.long (q2.toInt64))])) _
          refine XS.iloadN X130.here hx rfl (hb hby at_43) rfl ?_
          show Steps _ _ _ (T130.setTop (mkF m 44 #[iv q1, iv q2, iv q3, iv q4, iv r96, rv b99, .val (.long ((q3.toInt64) - (q1.toInt64))), .second, .unset, .unset, .unset, .unset, .unset, .unset, .unset] [(.int q3), (.long (q2.toInt64))])) _
          refine XS.i2l X130.here hx rfl (hb hby at_44) rfl ?_
          show Steps _ _ _ (T130.setTop (mkF m 45 #[iv q1, iv q2, iv q3, iv q4, iv r96, rv b99, .val (.long ((q3.toInt64) - (q1.toInt64))), .second, .unset, .unset, .unset, .unset, .unset, .unset, .unset] [(.long (q3.toInt64)), (.long (q2.toInt64))])) _
          refine XS.lsub X130.here hx rfl (hb hby at_45) rfl ?_
          show Steps _ _ _ (T130.setTop (mkF m 46 #[iv q1, iv q2, iv q3, iv q4, iv r96, rv b99, .val (.long ((q3.toInt64) - (q1.toInt64))), .second, .unset, .unset, .unset, .unset, .unset, .unset, .unset] [(.long ((q2.toInt64) - (q3.toInt64)))])) _
          refine XS.lstore X130.here hx rfl (hb hby at_46) rfl (l' := #[iv q1, iv q2, iv q3, iv q4, iv r96, rv b99, .val (.long ((q3.toInt64) - (q1.toInt64))), .second, .val (.long ((q2.toInt64) - (q3.toInt64))), .second, .unset, .unset, .unset, .unset, .unset]) rfl ?_
          show Steps _ _ _ (T130.setTop (mkF m 48 #[iv q1, iv q2, iv q3, iv q4, iv r96, rv b99, .val (.long ((q3.toInt64) - (q1.toInt64))), .second, .val (.long ((q2.toInt64) - (q3.toInt64))), .second, .unset, .unset, .unset, .unset, .unset] [])) _
          refine XS.lload X130.here hx rfl (hb hby at_48) rfl ?_
          show Steps _ _ _ (T130.setTop (mkF m 50 #[iv q1, iv q2, iv q3, iv q4, iv r96, rv b99, .val (.long ((q3.toInt64) - (q1.toInt64))), .second, .val (.long ((q2.toInt64) - (q3.toInt64))), .second, .unset, .unset, .unset, .unset, .unset] [(.long ((q3.toInt64) - (q1.toInt64)))])) _
          refine XS.lconst X130.here hx rfl (hb hby at_50) ?_
          show Steps _ _ _ (T130.setTop (mkF m 51 #[iv q1, iv q2, iv q3, iv q4, iv r96, rv b99, .val (.long ((q3.toInt64) - (q1.toInt64))), .second, .val (.long ((q2.toInt64) - (q3.toInt64))), .second, .unset, .unset, .unset, .unset, .unset] [(.long (0 : Int64)), (.long ((q3.toInt64) - (q1.toInt64)))])) _
          refine XS.lcmp X130.here hx rfl (hb hby at_51) rfl ?_
          show Steps _ _ _ (T130.setTop (mkF m 52 #[iv q1, iv q2, iv q3, iv q4, iv r96, rv b99, .val (.long ((q3.toInt64) - (q1.toInt64))), .second, .val (.long ((q2.toInt64) - (q3.toInt64))), .second, .unset, .unset, .unset, .unset, .unset] [(.int (lcmpW ((q3.toInt64) - (q1.toInt64)) (0 : Int64)))])) _
          refine XS.ifNo X130.here hx rfl (hb hby at_52) rfl ((if0 _ _).trans (flt (fun z => hA ((own_sub_lt _ _).mp z))).1) ?_
          show Steps _ _ _ (T130.setTop (mkF m 55 #[iv q1, iv q2, iv q3, iv q4, iv r96, rv b99, .val (.long ((q3.toInt64) - (q1.toInt64))), .second, .val (.long ((q2.toInt64) - (q3.toInt64))), .second, .unset, .unset, .unset, .unset, .unset] [])) _
          refine XS.lload X130.here hx rfl (hb hby at_55) rfl ?_
          show Steps _ _ _ (T130.setTop (mkF m 57 #[iv q1, iv q2, iv q3, iv q4, iv r96, rv b99, .val (.long ((q3.toInt64) - (q1.toInt64))), .second, .val (.long ((q2.toInt64) - (q3.toInt64))), .second, .unset, .unset, .unset, .unset, .unset] [(.long ((q2.toInt64) - (q3.toInt64)))])) _
          refine XS.lconst X130.here hx rfl (hb hby at_57) ?_
          show Steps _ _ _ (T130.setTop (mkF m 58 #[iv q1, iv q2, iv q3, iv q4, iv r96, rv b99, .val (.long ((q3.toInt64) - (q1.toInt64))), .second, .val (.long ((q2.toInt64) - (q3.toInt64))), .second, .unset, .unset, .unset, .unset, .unset] [(.long (0 : Int64)), (.long ((q2.toInt64) - (q3.toInt64)))])) _
          refine XS.lcmp X130.here hx rfl (hb hby at_58) rfl ?_
          show Steps _ _ _ (T130.setTop (mkF m 59 #[iv q1, iv q2, iv q3, iv q4, iv r96, rv b99, .val (.long ((q3.toInt64) - (q1.toInt64))), .second, .val (.long ((q2.toInt64) - (q3.toInt64))), .second, .unset, .unset, .unset, .unset, .unset] [(.int (lcmpW ((q2.toInt64) - (q3.toInt64)) (0 : Int64)))])) _
          refine XS.ifYes X130.here hx rfl (pc0 := 59) (pc' := 66) rfl (hb hby at_59) rfl ((if0 _ _).trans (flt (fun z => hB ((own_sub_gt _ _).mp z))).2.2.2) (by decide) (by decide) ?_
          show Steps _ _ _ (T130.setTop (mkF m 66 #[iv q1, iv q2, iv q3, iv q4, iv r96, rv b99, .val (.long ((q3.toInt64) - (q1.toInt64))), .second, .val (.long ((q2.toInt64) - (q3.toInt64))), .second, .unset, .unset, .unset, .unset, .unset] [])) _
          refine XS.iconst X130.here hx rfl (hb hby at_66) ?_
          show Steps _ _ _ (T130.setTop (mkF m 67 #[iv q1, iv q2, iv q3, iv q4, iv r96, rv b99, .val (.long ((q3.toInt64) - (q1.toInt64))), .second, .val (.long ((q2.toInt64) - (q3.toInt64))), .second, .unset, .unset, .unset, .unset, .unset] [(.int 0)])) _
          refine XS.istore X130.here hx rfl (hb hby at_67) rfl (l' := #[iv q1, iv q2, iv q3, iv q4, iv r96, rv b99, .val (.long ((q3.toInt64) - (q1.toInt64))), .second, .val (.long ((q2.toInt64) - (q3.toInt64))), .second, iv 0, .unset, .unset, .unset, .unset]) rfl ?_
          show Steps _ _ _ (T130.setTop (mkF m 69 #[iv q1, iv q2, iv q3, iv q4, iv r96, rv b99, .val (.long ((q3.toInt64) - (q1.toInt64))), .second, .val (.long ((q2.toInt64) - (q3.toInt64))), .second, iv 0, .unset, .unset, .unset, .unset] [])) _
          refine XS.iloadN X130.here hx rfl (hb hby at_69) rfl ?_
          show Steps _ _ _ (T130.setTop (mkF m 70 #[iv q1, iv q2, iv q3, iv q4, iv r96, rv b99, .val (.long ((q3.toInt64) - (q1.toInt64))), .second, .val (.long ((q2.toInt64) - (q3.toInt64))), .second, iv 0, .unset, .unset, .unset, .unset] [(.int q2)])) _
          refine XS.i2l X130.here hx rfl (hb hby at_70) rfl ?_
          show Steps _ _ _ (T130.setTop (mkF m 71 #[iv q1, iv q2, iv q3, iv q4, iv r96, rv b99, .val (.long ((q3.toInt64) - (q1.toInt64))), .second, .val (.long ((q2.toInt64) - (q3.toInt64))), .second, iv 0, .unset, .unset, .unset, .unset] [(.long (q2.toInt64))])) _
          refine XS.iloadN X130.here hx rfl (hb hby at_71) rfl ?_
          show Steps _ _ _ (T130.setTop (mkF m 72 #[iv q1, iv q2, iv q3, iv q4, iv r96, rv b99, .val (.long ((q3.toInt64) - (q1.toInt64))), .second, .val (.long ((q2.toInt64) - (q3.toInt64))), .second, iv 0, .unset, .unset, .unset, .unset] [(.int q1), (.long (q2.toInt64))])) _
          refine XS.i2l X130.here hx rfl (hb hby at_72) rfl ?_
          show Steps _ _ _ (T130.setTop (mkF m 73 #[iv q1, iv q2, iv q3, iv q4, iv r96, rv b99, .val (.long ((q3.toInt64) - (q1.toInt64))), .second, .val (.long ((q2.toInt64) - (q3.toInt64))), .second, iv 0, .unset, .unset, .unset, .unset] [(.long (q1.toInt64)), (.long (q2.toInt64))])) _
          refine XS.lsub X130.here hx rfl (hb hby at_73) rfl ?_
          show Steps _ _ _ (T130.setTop (mkF m 74 #[iv q1, iv q2, iv q3, iv q4, iv r96, rv b99, .val (.long ((q3.toInt64) - (q1.toInt64))), .second, .val (.long ((q2.toInt64) - (q3.toInt64))), .second, iv 0, .unset, .unset, .unset, .unset] [(.long ((q2.toInt64) - (q1.toInt64)))])) _
          refine XS.lconst X130.here hx rfl (hb hby at_74) ?_
          show Steps _ _ _ (T130.setTop (mkF m 75 #[iv q1, iv q2, iv q3, iv q4, iv r96, rv b99, .val (.long ((q3.toInt64) - (q1.toInt64))), .second, .val (.long ((q2.toInt64) - (q3.toInt64))), .second, iv 0, .unset, .unset, .unset, .unset] [(.long (0 : Int64)), (.long ((q2.toInt64) - (q1.toInt64)))])) _
          refine XS.lcmp X130.here hx rfl (hb hby at_75) rfl ?_
          show Steps _ _ _ (T130.setTop (mkF m 76 #[iv q1, iv q2, iv q3, iv q4, iv r96, rv b99, .val (.long ((q3.toInt64) - (q1.toInt64))), .second, .val (.long ((q2.toInt64) - (q3.toInt64))), .second, iv 0, .unset, .unset, .unset, .unset] [(.int (lcmpW ((q2.toInt64) - (q1.toInt64)) (0 : Int64)))])) _
          refine XS.ifNo X130.here hx rfl (hb hby at_76) rfl ((if0 _ _).trans (tlt ((own_sub_gt _ _).mpr hC)).2.2.2) ?_
          show Steps _ _ _ (T130.setTop (mkF m 79 #[iv q1, iv q2, iv q3, iv q4, iv r96, rv b99, .val (.long ((q3.toInt64) - (q1.toInt64))), .second, .val (.long ((q2.toInt64) - (q3.toInt64))), .second, iv 0, .unset, .unset, .unset, .unset] [])) _
          refine XS.iconst X130.here hx rfl (hb hby at_79) ?_
          show Steps _ _ _ (T130.setTop (mkF m 80 #[iv q1, iv q2, iv q3, iv q4, iv r96, rv b99, .val (.long ((q3.toInt64) - (q1.toInt64))), .second, .val (.long ((q2.toInt64) - (q3.toInt64))), .second, iv 0, .unset, .unset, .unset, .unset] [(.int 1)])) _
          refine XS.goto X130.here hx rfl (pc0 := 80) (pc' := 84) rfl (hb hby at_80) (by decide) (by decide) ?_
          show Steps _ _ _ (T130.setTop (mkF m 84 #[iv q1, iv q2, iv q3, iv q4, iv r96, rv b99, .val (.long ((q3.toInt64) - (q1.toInt64))), .second, .val (.long ((q2.toInt64) - (q3.toInt64))), .second, iv 0, .unset, .unset, .unset, .unset] [(.int 1)])) _
          refine XS.istore X130.here hx rfl (hb hby at_84) rfl (l' := #[iv q1, iv q2, iv q3, iv q4, iv r96, rv b99, .val (.long ((q3.toInt64) - (q1.toInt64))), .second, .val (.long ((q2.toInt64) - (q3.toInt64))), .second, iv 0, iv 1, .unset, .unset, .unset]) rfl ?_
          show Steps _ _ _ (T130.setTop (mkF m 86 #[iv q1, iv q2, iv q3, iv q4, iv r96, rv b99, .val (.long ((q3.toInt64) - (q1.toInt64))), .second, .val (.long ((q2.toInt64) - (q3.toInt64))), .second, iv 0, iv 1, .unset, .unset, .unset] [])) _
          refine XS.aload X130.here hx rfl (hb hby at_86) rfl rfl ?_
          show Steps _ _ _ (T130.setTop (mkF m 88 #[iv q1, iv q2, iv q3, iv q4, iv r96, rv b99, .val (.long ((q3.toInt64) - (q1.toInt64))), .second, .val (.long ((q2.toInt64) - (q3.toInt64))), .second, iv 0, iv 1, .unset, .unset, .unset] [(.ref b99)])) _
          refine XS.iloadN X130.here hx rfl (hb hby at_88) rfl ?_
          show Steps _ _ _ (T130.setTop (mkF m 89 #[iv q1, iv q2, iv q3, iv q4, iv r96, rv b99, .val (.long ((q3.toInt64) - (q1.toInt64))), .second, .val (.long ((q2.toInt64) - (q3.toInt64))), .second, iv 0, iv 1, .unset, .unset, .unset] [(.int q3), (.ref b99)])) _
          exact q
        obtain ⟨cq171, kq171, q171a, q171b, q171c⟩ := isOf hZ116 (rfl : T130.heap = _) f_131
        obtain ⟨_, _, ⟨T171, L171, k171, n171⟩, -, X171, ⟨Lc171, hQ171, l171, y171, z171⟩, st171⟩ := X130.virtualBack hx (y := y_3) (z := y_3) hown116 (mvT hZ116 (hw _ (wd 42 rfl))) (mvT hZ116 (hw _ (wd 43 rfl))) (notFace_of_selects (args := #[]) (mvT hZ116 (hw _ (wd 45 rfl)))) (mvT hZ116 (hw _ (wd 45 rfl))) (mvT hZ116 (hw _ (wd 44 rfl))) (by decide) (backOf (W := 0) (cv l Z a0 hw [] a_FORWARDS a_BOTH a_BACKWARDS G b99 q3 q1 q2 (0 : Int32) T130.heap n0 O_138 I130_2 I130_3 (by simp [hA, hB])) hZ116 (hw _ (wd 46 rfl)) (hw _ (wd 2 rfl)) (by decide) (by decide)) q171a q171c (g := (mkF m 89 #[iv q1, iv q2, iv q3, iv q4, iv r96, rv b99, .val (.long ((q3.toInt64) - (q1.toInt64))), .second, .val (.long ((q2.toInt64) - (q3.toInt64))), .second, iv 0, iv 1, .unset, .unset, .unset] [(.int q3), (.ref b99)])) rfl (by rw [hml]; rfl) (Steps.refl _) (argsL := [(.int q3)]) (rest := []) (lenOf pd_3 rfl) rfl (by show 2 * 0 + _ ≤ _; exact Nat.le_of_eq rfl) (hb hby at_89) (fun _ _ => ⟨rfl, (rfl : T130.heap = _), (by decide : 5 + 0 ≤ _), (by decide : 22 + 0 ≤ _)⟩)
        dsimp only [Pt.U, Pt.locs, Pt.cells, Pt.slots] at X171 l171 y171 z171 st171 hQ171
        subst l171 y171 z171
        obtain ⟨rfl, N171q, e171⟩ := hQ171
        have N171 := Fr.app N130 N171q
        have k_172 : Go p.tables e below (s₁.setTop (entryFrame m #[(.int q1), (.int q2), (.int q3), (.int q4)] maxLocals)) (T171.setTop (mkF m 97 #[iv q1, iv q2, iv q3, iv q4, iv r96, rv b99, .val (.long ((q3.toInt64) - (q1.toInt64))), .second, .val (.long ((q2.toInt64) - (q3.toInt64))), .second, iv 0, iv 1, iv 0, .unset, .unset] [(.int q1), (.ref b99)])) := fun t q => by
          refine k_170 t ?_
          refine st171.trans ?_
          show Steps _ _ _ (T171.setTop (mkF m 92 #[iv q1, iv q2, iv q3, iv q4, iv r96, rv b99, .val (.long ((q3.toInt64) - (q1.toInt64))), .second, .val (.long ((q2.toInt64) - (q3.toInt64))), .second, iv 0, iv 1, .unset, .unset, .unset] [(.int 0)])) _
          refine XS.istore X171.here hx rfl (hb hby at_92) rfl (l' := #[iv q1, iv q2, iv q3, iv q4, iv r96, rv b99, .val (.long ((q3.toInt64) - (q1.toInt64))), .second, .val (.long ((q2.toInt64) - (q3.toInt64))), .second, iv 0, iv 1, iv 0, .unset, .unset]) rfl ?_
          show Steps _ _ _ (T171.setTop (mkF m 94 #[iv q1, iv q2, iv q3, iv q4, iv r96, rv b99, .val (.long ((q3.toInt64) - (q1.toInt64))), .second, .val (.long ((q2.toInt64) - (q3.toInt64))), .second, iv 0, iv 1, iv 0, .unset, .unset] [])) _
          refine XS.aload X171.here hx rfl (hb hby at_94) rfl rfl ?_
          show Steps _ _ _ (T171.setTop (mkF m 96 #[iv q1, iv q2, iv q3, iv q4, iv r96, rv b99, .val (.long ((q3.toInt64) - (q1.toInt64))), .second, .val (.long ((q2.toInt64) - (q3.toInt64))), .second, iv 0, iv 1, iv 0, .unset, .unset] [(.ref b99)])) _
          refine XS.iloadN X171.here hx rfl (hb hby at_96) rfl ?_
          show Steps _ _ _ (T171.setTop (mkF m 97 #[iv q1, iv q2, iv q3, iv q4, iv r96, rv b99, .val (.long ((q3.toInt64) - (q1.toInt64))), .second, .val (.long ((q2.toInt64) - (q3.toInt64))), .second, iv 0, iv 1, iv 0, .unset, .unset] [(.int q1), (.ref b99)])) _
          exact q
        obtain ⟨cq173, kq173, q173a, q173b, q173c⟩ := isOf hZ116 e171 f_131
        obtain ⟨_, _, ⟨T173, L173, k173, n173⟩, -, X173, ⟨Lc173, hQ173, l173, y173, z173⟩, st173⟩ := X171.virtualBack hx (y := y_3) (z := y_3) hown116 (mvT hZ116 (hw _ (wd 42 rfl))) (mvT hZ116 (hw _ (wd 43 rfl))) (notFace_of_selects (args := #[]) (mvT hZ116 (hw _ (wd 45 rfl)))) (mvT hZ116 (hw _ (wd 45 rfl))) (mvT hZ116 (hw _ (wd 44 rfl))) (by decide) (backOf (W := 0) (cv l Z a0 hw [] a_FORWARDS a_BOTH a_BACKWARDS G b99 q1 q1 q2 (1 : Int32) T130.heap n0 O_138 I130_2 I130_3 (by simp [hC, Int32.lt_irrefl])) hZ116 (hw _ (wd 46 rfl)) (hw _ (wd 2 rfl)) (by decide) (by decide)) q173a q173c (g := (mkF m 97 #[iv q1, iv q2, iv q3, iv q4, iv r96, rv b99, .val (.long ((q3.toInt64) - (q1.toInt64))), .second, .val (.long ((q2.toInt64) - (q3.toInt64))), .second, iv 0, iv 1, iv 0, .unset, .unset] [(.int q1), (.ref b99)])) rfl (by rw [hml]; rfl) (Steps.refl _) (argsL := [(.int q1)]) (rest := []) (lenOf pd_3 rfl) rfl (by show 2 * 0 + _ ≤ _; exact Nat.le_of_eq rfl) (hb hby at_97) (fun _ _ => ⟨rfl, e171, (by decide : 5 + 0 ≤ _), (by decide : 22 + 0 ≤ _)⟩)
        dsimp only [Pt.U, Pt.locs, Pt.cells, Pt.slots] at X173 l173 y173 z173 st173 hQ173
        subst l173 y173 z173
        obtain ⟨rfl, N173q, e173⟩ := hQ173
        have N173 := Fr.app N171 N173q
        have k_174 : Go p.tables e below (s₁.setTop (entryFrame m #[(.int q1), (.int q2), (.int q3), (.int q4)] maxLocals)) (T173.setTop (mkF m 105 #[iv q1, iv q2, iv q3, iv q4, iv r96, rv b99, .val (.long ((q3.toInt64) - (q1.toInt64))), .second, .val (.long ((q2.toInt64) - (q3.toInt64))), .second, iv 0, iv 1, iv 0, iv 1, .unset] [(.int q2), (.ref b99)])) := fun t q => by
          refine k_172 t ?_
          refine st173.trans ?_
          show Steps _ _ _ (T173.setTop (mkF m 100 #[iv q1, iv q2, iv q3, iv q4, iv r96, rv b99, .val (.long ((q3.toInt64) - (q1.toInt64))), .second, .val (.long ((q2.toInt64) - (q3.toInt64))), .second, iv 0, iv 1, iv 0, .unset, .unset] [(.int 1)])) _
          refine XS.istore X173.here hx rfl (hb hby at_100) rfl (l' := #[iv q1, iv q2, iv q3, iv q4, iv r96, rv b99, .val (.long ((q3.toInt64) - (q1.toInt64))), .second, .val (.long ((q2.toInt64) - (q3.toInt64))), .second, iv 0, iv 1, iv 0, iv 1, .unset]) rfl ?_
          show Steps _ _ _ (T173.setTop (mkF m 102 #[iv q1, iv q2, iv q3, iv q4, iv r96, rv b99, .val (.long ((q3.toInt64) - (q1.toInt64))), .second, .val (.long ((q2.toInt64) - (q3.toInt64))), .second, iv 0, iv 1, iv 0, iv 1, .unset] [])) _
          refine XS.aload X173.here hx rfl (hb hby at_102) rfl rfl ?_
          show Steps _ _ _ (T173.setTop (mkF m 104 #[iv q1, iv q2, iv q3, iv q4, iv r96, rv b99, .val (.long ((q3.toInt64) - (q1.toInt64))), .second, .val (.long ((q2.toInt64) - (q3.toInt64))), .second, iv 0, iv 1, iv 0, iv 1, .unset] [(.ref b99)])) _
          refine XS.iloadN X173.here hx rfl (hb hby at_104) rfl ?_
          show Steps _ _ _ (T173.setTop (mkF m 105 #[iv q1, iv q2, iv q3, iv q4, iv r96, rv b99, .val (.long ((q3.toInt64) - (q1.toInt64))), .second, .val (.long ((q2.toInt64) - (q3.toInt64))), .second, iv 0, iv 1, iv 0, iv 1, .unset] [(.int q2), (.ref b99)])) _
          exact q
        obtain ⟨cq175, kq175, q175a, q175b, q175c⟩ := isOf hZ116 e173 f_131
        obtain ⟨_, _, ⟨T175, L175, k175, n175⟩, -, X175, ⟨Lc175, hQ175, l175, y175, z175⟩, st175⟩ := X173.virtualBack hx (y := y_3) (z := y_3) hown116 (mvT hZ116 (hw _ (wd 42 rfl))) (mvT hZ116 (hw _ (wd 43 rfl))) (notFace_of_selects (args := #[]) (mvT hZ116 (hw _ (wd 45 rfl)))) (mvT hZ116 (hw _ (wd 45 rfl))) (mvT hZ116 (hw _ (wd 44 rfl))) (by decide) (backOf (W := 0) (cv l Z a0 hw [] a_FORWARDS a_BOTH a_BACKWARDS G b99 q2 q1 q2 (0 : Int32) T130.heap n0 O_138 I130_2 I130_3 (by simp [Int32.lt_irrefl])) hZ116 (hw _ (wd 46 rfl)) (hw _ (wd 2 rfl)) (by decide) (by decide)) q175a q175c (g := (mkF m 105 #[iv q1, iv q2, iv q3, iv q4, iv r96, rv b99, .val (.long ((q3.toInt64) - (q1.toInt64))), .second, .val (.long ((q2.toInt64) - (q3.toInt64))), .second, iv 0, iv 1, iv 0, iv 1, .unset] [(.int q2), (.ref b99)])) rfl (by rw [hml]; rfl) (Steps.refl _) (argsL := [(.int q2)]) (rest := []) (lenOf pd_3 rfl) rfl (by show 2 * 0 + _ ≤ _; exact Nat.le_of_eq rfl) (hb hby at_105) (fun _ _ => ⟨rfl, e173, (by decide : 5 + 0 ≤ _), (by decide : 22 + 0 ≤ _)⟩)
        dsimp only [Pt.U, Pt.locs, Pt.cells, Pt.slots] at X175 l175 y175 z175 st175 hQ175
        subst l175 y175 z175
        obtain ⟨rfl, N175q, e175⟩ := hQ175
        have N175 := Fr.app N173 N175q
        have k_176 : Go p.tables e below (s₁.setTop (entryFrame m #[(.int q1), (.int q2), (.int q3), (.int q4)] maxLocals)) (T175.setTop (mkF m 134 #[iv q1, iv q2, iv q3, iv q4, iv r96, rv b99, .val (.long ((q3.toInt64) - (q1.toInt64))), .second, .val (.long ((q2.toInt64) - (q3.toInt64))), .second, iv 0, iv 1, iv 0, iv 1, iv 0] [(.int 1)])) := fun t q => by
          refine k_174 t ?_
          refine st175.trans ?_
          show Steps _ _ _ (T175.setTop (mkF m 108 #[iv q1, iv q2, iv q3, iv q4, iv r96, rv b99, .val (.long ((q3.toInt64) - (q1.toInt64))), .second, .val (.long ((q2.toInt64) - (q3.toInt64))), .second, iv 0, iv 1, iv 0, iv 1, .unset] [(.int 0)])) _
          refine XS.istore X175.here hx rfl (hb hby at_108) rfl (l' := #[iv q1, iv q2, iv q3, iv q4, iv r96, rv b99, .val (.long ((q3.toInt64) - (q1.toInt64))), .second, .val (.long ((q2.toInt64) - (q3.toInt64))), .second, iv 0, iv 1, iv 0, iv 1, iv 0]) rfl ?_
          show Steps _ _ _ (T175.setTop (mkF m 110 #[iv q1, iv q2, iv q3, iv q4, iv r96, rv b99, .val (.long ((q3.toInt64) - (q1.toInt64))), .second, .val (.long ((q2.toInt64) - (q3.toInt64))), .second, iv 0, iv 1, iv 0, iv 1, iv 0] [])) _
          refine XS.iload X175.here hx rfl (hb hby at_110) rfl ?_
          show Steps _ _ _ (T175.setTop (mkF m 112 #[iv q1, iv q2, iv q3, iv q4, iv r96, rv b99, .val (.long ((q3.toInt64) - (q1.toInt64))), .second, .val (.long ((q2.toInt64) - (q3.toInt64))), .second, iv 0, iv 1, iv 0, iv 1, iv 0] [(.int 0)])) _
          refine XS.iload X175.here hx rfl (hb hby at_112) rfl ?_
          show Steps _ _ _ (T175.setTop (mkF m 114 #[iv q1, iv q2, iv q3, iv q4, iv r96, rv b99, .val (.long ((q3.toInt64) - (q1.toInt64))), .second, .val (.long ((q2.toInt64) - (q3.toInt64))), .second, iv 0, iv 1, iv 0, iv 1, iv 0] [(.int 0), (.int 0)])) _
          refine XS.icmpNo X175.here hx rfl (hb hby at_114) rfl (by decide) ?_
          show Steps _ _ _ (T175.setTop (mkF m 117 #[iv q1, iv q2, iv q3, iv q4, iv r96, rv b99, .val (.long ((q3.toInt64) - (q1.toInt64))), .second, .val (.long ((q2.toInt64) - (q3.toInt64))), .second, iv 0, iv 1, iv 0, iv 1, iv 0] [])) _
          refine XS.iload X175.here hx rfl (hb hby at_117) rfl ?_
          show Steps _ _ _ (T175.setTop (mkF m 119 #[iv q1, iv q2, iv q3, iv q4, iv r96, rv b99, .val (.long ((q3.toInt64) - (q1.toInt64))), .second, .val (.long ((q2.toInt64) - (q3.toInt64))), .second, iv 0, iv 1, iv 0, iv 1, iv 0] [(.int 1)])) _
          refine XS.iload X175.here hx rfl (hb hby at_119) rfl ?_
          show Steps _ _ _ (T175.setTop (mkF m 121 #[iv q1, iv q2, iv q3, iv q4, iv r96, rv b99, .val (.long ((q3.toInt64) - (q1.toInt64))), .second, .val (.long ((q2.toInt64) - (q3.toInt64))), .second, iv 0, iv 1, iv 0, iv 1, iv 0] [(.int 1), (.int 1)])) _
          refine XS.icmpNo X175.here hx rfl (hb hby at_121) rfl (by decide) ?_
          show Steps _ _ _ (T175.setTop (mkF m 124 #[iv q1, iv q2, iv q3, iv q4, iv r96, rv b99, .val (.long ((q3.toInt64) - (q1.toInt64))), .second, .val (.long ((q2.toInt64) - (q3.toInt64))), .second, iv 0, iv 1, iv 0, iv 1, iv 0] [])) _
          refine XS.iload X175.here hx rfl (hb hby at_124) rfl ?_
          show Steps _ _ _ (T175.setTop (mkF m 126 #[iv q1, iv q2, iv q3, iv q4, iv r96, rv b99, .val (.long ((q3.toInt64) - (q1.toInt64))), .second, .val (.long ((q2.toInt64) - (q3.toInt64))), .second, iv 0, iv 1, iv 0, iv 1, iv 0] [(.int 0)])) _
          refine XS.ifNo X175.here hx rfl (hb hby at_126) rfl (by decide) ?_
          show Steps _ _ _ (T175.setTop (mkF m 129 #[iv q1, iv q2, iv q3, iv q4, iv r96, rv b99, .val (.long ((q3.toInt64) - (q1.toInt64))), .second, .val (.long ((q2.toInt64) - (q3.toInt64))), .second, iv 0, iv 1, iv 0, iv 1, iv 0] [])) _
          refine XS.iconst X175.here hx rfl (hb hby at_129) ?_
          show Steps _ _ _ (T175.setTop (mkF m 130 #[iv q1, iv q2, iv q3, iv q4, iv r96, rv b99, .val (.long ((q3.toInt64) - (q1.toInt64))), .second, .val (.long ((q2.toInt64) - (q3.toInt64))), .second, iv 0, iv 1, iv 0, iv 1, iv 0] [(.int 1)])) _
          refine XS.goto X175.here hx rfl (pc0 := 130) (pc' := 134) rfl (hb hby at_130) (by decide) (by decide) ?_
          show Steps _ _ _ (T175.setTop (mkF m 134 #[iv q1, iv q2, iv q3, iv q4, iv r96, rv b99, .val (.long ((q3.toInt64) - (q1.toInt64))), .second, .val (.long ((q2.toInt64) - (q3.toInt64))), .second, iv 0, iv 1, iv 0, iv 1, iv 0] [(.int 1)])) _
          exact q
        obtain ⟨fs, hr, hrun, hended, hEnd⟩ := X175.leaveW hS116 ((e175).symm ▸ hk_140) (v := some (.int 1)) (fun h => by rw [Bd.returns] at h; cases h)
        refine ⟨_, _, k_176 _ ?_, hrun, hended, _, _, rfl, ?_, (⟨hEnd.1, hEnd.2.1, hEnd.2.2.1, hEnd.2.2.2.mono (by decide) (by decide)⟩ : ReturnedEndW _ _ _ _ _ _)⟩
        · exact retN X175 hx (t := .boolean) Bd.returns (by simp) (hb hby at_134) hr
        · show Q0 n0 _ T175.heap _
          rw [e175]
          exact ⟨rfl, N175⟩
      · skip
        have k_177 : Go p.tables e below (s₁.setTop (entryFrame m #[(.int q1), (.int q2), (.int q3), (.int q4)] maxLocals)) (T130.setTop (mkF m 89 #[iv q1, iv q2, iv q3, iv q4, iv r96, rv b99, .val (.long ((q3.toInt64) - (q1.toInt64))), .second, .val (.long ((q2.toInt64) - (q3.toInt64))), .second, iv 0, iv 0, .unset, .unset, .unset] [(.int q3), (.ref b99)])) := fun t q => by
          refine k_141 t ?_
          refine XS.iloadN X130.here hx rfl (hb hby at_34) rfl ?_
          show Steps _ _ _ (T130.setTop (mkF m 35 #[iv q1, iv q2, iv q3, iv q4, iv r96, rv b99, .unset, .unset, .unset, .unset, .unset, .unset, .unset, .unset, .unset] [(.int q3)])) _
          refine XS.i2l X130.here hx rfl (hb hby at_35) rfl ?_
          show Steps _ _ _ (T130.setTop (mkF m 36 #[iv q1, iv q2, iv q3, iv q4, iv r96, rv b99, .unset, .unset, .unset, .unset, .unset, .unset, .unset, .unset, .unset] [(.long (q3.toInt64))])) _
          refine XS.iloadN X130.here hx rfl (hb hby at_36) rfl ?_
          show Steps _ _ _ (T130.setTop (mkF m 37 #[iv q1, iv q2, iv q3, iv q4, iv r96, rv b99, .unset, .unset, .unset, .unset, .unset, .unset, .unset, .unset, .unset] [(.int q1), (.long (q3.toInt64))])) _
          refine XS.i2l X130.here hx rfl (hb hby at_37) rfl ?_
          show Steps _ _ _ (T130.setTop (mkF m 38 #[iv q1, iv q2, iv q3, iv q4, iv r96, rv b99, .unset, .unset, .unset, .unset, .unset, .unset, .unset, .unset, .unset] [(.long (q1.toInt64)), (.long (q3.toInt64))])) _
          refine XS.lsub X130.here hx rfl (hb hby at_38) rfl ?_
          show Steps _ _ _ (T130.setTop (mkF m 39 #[iv q1, iv q2, iv q3, iv q4, iv r96, rv b99, .unset, .unset, .unset, .unset, .unset, .unset, .unset, .unset, .unset] [(.long ((q3.toInt64) - (q1.toInt64)))])) _
          refine XS.lstore X130.here hx rfl (hb hby at_39) rfl (l' := #[iv q1, iv q2, iv q3, iv q4, iv r96, rv b99, .val (.long ((q3.toInt64) - (q1.toInt64))), .second, .unset, .unset, .unset, .unset, .unset, .unset, .unset]) rfl ?_
          show Steps _ _ _ (T130.setTop (mkF m 41 #[iv q1, iv q2, iv q3, iv q4, iv r96, rv b99, .val (.long ((q3.toInt64) - (q1.toInt64))), .second, .unset, .unset, .unset, .unset, .unset, .unset, .unset] [])) _
          refine XS.iloadN X130.here hx rfl (hb hby at_41) rfl ?_
          show Steps _ _ _ (T130.setTop (mkF m 42 #[iv q1, iv q2, iv q3, iv q4, iv r96, rv b99, .val (.long ((q3.toInt64) - (q1.toInt64))), .second, .unset, .unset, .unset, .unset, .unset, .unset, .unset] [(.int q2)])) _
          refine XS.i2l X130.here hx rfl (hb hby at_42) rfl ?_
          show Steps _ _ _ (T130.setTop (mkF m 43 #[iv q1, iv q2, iv q3, iv q4, iv r96, rv b99, .val (.long ((q3.toInt64) - (q1.toInt64))), .second, .unset, .unset, .unset, .unset, .unset, .unset, .unset] [(.long (q2.toInt64))])) _
          refine XS.iloadN X130.here hx rfl (hb hby at_43) rfl ?_
          show Steps _ _ _ (T130.setTop (mkF m 44 #[iv q1, iv q2, iv q3, iv q4, iv r96, rv b99, .val (.long ((q3.toInt64) - (q1.toInt64))), .second, .unset, .unset, .unset, .unset, .unset, .unset, .unset] [(.int q3), (.long (q2.toInt64))])) _
          refine XS.i2l X130.here hx rfl (hb hby at_44) rfl ?_
          show Steps _ _ _ (T130.setTop (mkF m 45 #[iv q1, iv q2, iv q3, iv q4, iv r96, rv b99, .val (.long ((q3.toInt64) - (q1.toInt64))), .second, .unset, .unset, .unset, .unset, .unset, .unset, .unset] [(.long (q3.toInt64)), (.long (q2.toInt64))])) _
          refine XS.lsub X130.here hx rfl (hb hby at_45) rfl ?_
          show Steps _ _ _ (T130.setTop (mkF m 46 #[iv q1, iv q2, iv q3, iv q4, iv r96, rv b99, .val (.long ((q3.toInt64) - (q1.toInt64))), .second, .unset, .unset, .unset, .unset, .unset, .unset, .unset] [(.long ((q2.toInt64) - (q3.toInt64)))])) _
          refine XS.lstore X130.here hx rfl (hb hby at_46) rfl (l' := #[iv q1, iv q2, iv q3, iv q4, iv r96, rv b99, .val (.long ((q3.toInt64) - (q1.toInt64))), .second, .val (.long ((q2.toInt64) - (q3.toInt64))), .second, .unset, .unset, .unset, .unset, .unset]) rfl ?_
          show Steps _ _ _ (T130.setTop (mkF m 48 #[iv q1, iv q2, iv q3, iv q4, iv r96, rv b99, .val (.long ((q3.toInt64) - (q1.toInt64))), .second, .val (.long ((q2.toInt64) - (q3.toInt64))), .second, .unset, .unset, .unset, .unset, .unset] [])) _
          refine XS.lload X130.here hx rfl (hb hby at_48) rfl ?_
          show Steps _ _ _ (T130.setTop (mkF m 50 #[iv q1, iv q2, iv q3, iv q4, iv r96, rv b99, .val (.long ((q3.toInt64) - (q1.toInt64))), .second, .val (.long ((q2.toInt64) - (q3.toInt64))), .second, .unset, .unset, .unset, .unset, .unset] [(.long ((q3.toInt64) - (q1.toInt64)))])) _
          refine XS.lconst X130.here hx rfl (hb hby at_50) ?_
          show Steps _ _ _ (T130.setTop (mkF m 51 #[iv q1, iv q2, iv q3, iv q4, iv r96, rv b99, .val (.long ((q3.toInt64) - (q1.toInt64))), .second, .val (.long ((q2.toInt64) - (q3.toInt64))), .second, .unset, .unset, .unset, .unset, .unset] [(.long (0 : Int64)), (.long ((q3.toInt64) - (q1.toInt64)))])) _
          refine XS.lcmp X130.here hx rfl (hb hby at_51) rfl ?_
          show Steps _ _ _ (T130.setTop (mkF m 52 #[iv q1, iv q2, iv q3, iv q4, iv r96, rv b99, .val (.long ((q3.toInt64) - (q1.toInt64))), .second, .val (.long ((q2.toInt64) - (q3.toInt64))), .second, .unset, .unset, .unset, .unset, .unset] [(.int (lcmpW ((q3.toInt64) - (q1.toInt64)) (0 : Int64)))])) _
          refine XS.ifNo X130.here hx rfl (hb hby at_52) rfl ((if0 _ _).trans (flt (fun z => hA ((own_sub_lt _ _).mp z))).1) ?_
          show Steps _ _ _ (T130.setTop (mkF m 55 #[iv q1, iv q2, iv q3, iv q4, iv r96, rv b99, .val (.long ((q3.toInt64) - (q1.toInt64))), .second, .val (.long ((q2.toInt64) - (q3.toInt64))), .second, .unset, .unset, .unset, .unset, .unset] [])) _
          refine XS.lload X130.here hx rfl (hb hby at_55) rfl ?_
          show Steps _ _ _ (T130.setTop (mkF m 57 #[iv q1, iv q2, iv q3, iv q4, iv r96, rv b99, .val (.long ((q3.toInt64) - (q1.toInt64))), .second, .val (.long ((q2.toInt64) - (q3.toInt64))), .second, .unset, .unset, .unset, .unset, .unset] [(.long ((q2.toInt64) - (q3.toInt64)))])) _
          refine XS.lconst X130.here hx rfl (hb hby at_57) ?_
          show Steps _ _ _ (T130.setTop (mkF m 58 #[iv q1, iv q2, iv q3, iv q4, iv r96, rv b99, .val (.long ((q3.toInt64) - (q1.toInt64))), .second, .val (.long ((q2.toInt64) - (q3.toInt64))), .second, .unset, .unset, .unset, .unset, .unset] [(.long (0 : Int64)), (.long ((q2.toInt64) - (q3.toInt64)))])) _
          refine XS.lcmp X130.here hx rfl (hb hby at_58) rfl ?_
          show Steps _ _ _ (T130.setTop (mkF m 59 #[iv q1, iv q2, iv q3, iv q4, iv r96, rv b99, .val (.long ((q3.toInt64) - (q1.toInt64))), .second, .val (.long ((q2.toInt64) - (q3.toInt64))), .second, .unset, .unset, .unset, .unset, .unset] [(.int (lcmpW ((q2.toInt64) - (q3.toInt64)) (0 : Int64)))])) _
          refine XS.ifYes X130.here hx rfl (pc0 := 59) (pc' := 66) rfl (hb hby at_59) rfl ((if0 _ _).trans (flt (fun z => hB ((own_sub_gt _ _).mp z))).2.2.2) (by decide) (by decide) ?_
          show Steps _ _ _ (T130.setTop (mkF m 66 #[iv q1, iv q2, iv q3, iv q4, iv r96, rv b99, .val (.long ((q3.toInt64) - (q1.toInt64))), .second, .val (.long ((q2.toInt64) - (q3.toInt64))), .second, .unset, .unset, .unset, .unset, .unset] [])) _
          refine XS.iconst X130.here hx rfl (hb hby at_66) ?_
          show Steps _ _ _ (T130.setTop (mkF m 67 #[iv q1, iv q2, iv q3, iv q4, iv r96, rv b99, .val (.long ((q3.toInt64) - (q1.toInt64))), .second, .val (.long ((q2.toInt64) - (q3.toInt64))), .second, .unset, .unset, .unset, .unset, .unset] [(.int 0)])) _
          refine XS.istore X130.here hx rfl (hb hby at_67) rfl (l' := #[iv q1, iv q2, iv q3, iv q4, iv r96, rv b99, .val (.long ((q3.toInt64) - (q1.toInt64))), .second, .val (.long ((q2.toInt64) - (q3.toInt64))), .second, iv 0, .unset, .unset, .unset, .unset]) rfl ?_
          show Steps _ _ _ (T130.setTop (mkF m 69 #[iv q1, iv q2, iv q3, iv q4, iv r96, rv b99, .val (.long ((q3.toInt64) - (q1.toInt64))), .second, .val (.long ((q2.toInt64) - (q3.toInt64))), .second, iv 0, .unset, .unset, .unset, .unset] [])) _
          refine XS.iloadN X130.here hx rfl (hb hby at_69) rfl ?_
          show Steps _ _ _ (T130.setTop (mkF m 70 #[iv q1, iv q2, iv q3, iv q4, iv r96, rv b99, .val (.long ((q3.toInt64) - (q1.toInt64))), .second, .val (.long ((q2.toInt64) - (q3.toInt64))), .second, iv 0, .unset, .unset, .unset, .unset] [(.int q2)])) _
          refine XS.i2l X130.here hx rfl (hb hby at_70) rfl ?_
          show Steps _ _ _ (T130.setTop (mkF m 71 #[iv q1, iv q2, iv q3, iv q4, iv r96, rv b99, .val (.long ((q3.toInt64) - (q1.toInt64))), .second, .val (.long ((q2.toInt64) - (q3.toInt64))), .second, iv 0, .unset, .unset, .unset, .unset] [(.long (q2.toInt64))])) _
          refine XS.iloadN X130.here hx rfl (hb hby at_71) rfl ?_
          show Steps _ _ _ (T130.setTop (mkF m 72 #[iv q1, iv q2, iv q3, iv q4, iv r96, rv b99, .val (.long ((q3.toInt64) - (q1.toInt64))), .second, .val (.long ((q2.toInt64) - (q3.toInt64))), .second, iv 0, .unset, .unset, .unset, .unset] [(.int q1), (.long (q2.toInt64))])) _
          refine XS.i2l X130.here hx rfl (hb hby at_72) rfl ?_
          show Steps _ _ _ (T130.setTop (mkF m 73 #[iv q1, iv q2, iv q3, iv q4, iv r96, rv b99, .val (.long ((q3.toInt64) - (q1.toInt64))), .second, .val (.long ((q2.toInt64) - (q3.toInt64))), .second, iv 0, .unset, .unset, .unset, .unset] [(.long (q1.toInt64)), (.long (q2.toInt64))])) _
          refine XS.lsub X130.here hx rfl (hb hby at_73) rfl ?_
          show Steps _ _ _ (T130.setTop (mkF m 74 #[iv q1, iv q2, iv q3, iv q4, iv r96, rv b99, .val (.long ((q3.toInt64) - (q1.toInt64))), .second, .val (.long ((q2.toInt64) - (q3.toInt64))), .second, iv 0, .unset, .unset, .unset, .unset] [(.long ((q2.toInt64) - (q1.toInt64)))])) _
          refine XS.lconst X130.here hx rfl (hb hby at_74) ?_
          show Steps _ _ _ (T130.setTop (mkF m 75 #[iv q1, iv q2, iv q3, iv q4, iv r96, rv b99, .val (.long ((q3.toInt64) - (q1.toInt64))), .second, .val (.long ((q2.toInt64) - (q3.toInt64))), .second, iv 0, .unset, .unset, .unset, .unset] [(.long (0 : Int64)), (.long ((q2.toInt64) - (q1.toInt64)))])) _
          refine XS.lcmp X130.here hx rfl (hb hby at_75) rfl ?_
          show Steps _ _ _ (T130.setTop (mkF m 76 #[iv q1, iv q2, iv q3, iv q4, iv r96, rv b99, .val (.long ((q3.toInt64) - (q1.toInt64))), .second, .val (.long ((q2.toInt64) - (q3.toInt64))), .second, iv 0, .unset, .unset, .unset, .unset] [(.int (lcmpW ((q2.toInt64) - (q1.toInt64)) (0 : Int64)))])) _
          refine XS.ifYes X130.here hx rfl (pc0 := 76) (pc' := 83) rfl (hb hby at_76) rfl ((if0 _ _).trans (flt (fun z => hC ((own_sub_gt _ _).mp z))).2.2.2) (by decide) (by decide) ?_
          show Steps _ _ _ (T130.setTop (mkF m 83 #[iv q1, iv q2, iv q3, iv q4, iv r96, rv b99, .val (.long ((q3.toInt64) - (q1.toInt64))), .second, .val (.long ((q2.toInt64) - (q3.toInt64))), .second, iv 0, .unset, .unset, .unset, .unset] [])) _
          refine XS.iconst X130.here hx rfl (hb hby at_83) ?_
          show Steps _ _ _ (T130.setTop (mkF m 84 #[iv q1, iv q2, iv q3, iv q4, iv r96, rv b99, .val (.long ((q3.toInt64) - (q1.toInt64))), .second, .val (.long ((q2.toInt64) - (q3.toInt64))), .second, iv 0, .unset, .unset, .unset, .unset] [(.int 0)])) _
          refine XS.istore X130.here hx rfl (hb hby at_84) rfl (l' := #[iv q1, iv q2, iv q3, iv q4, iv r96, rv b99, .val (.long ((q3.toInt64) - (q1.toInt64))), .second, .val (.long ((q2.toInt64) - (q3.toInt64))), .second, iv 0, iv 0, .unset, .unset, .unset]) rfl ?_
          show Steps _ _ _ (T130.setTop (mkF m 86 #[iv q1, iv q2, iv q3, iv q4, iv r96, rv b99, .val (.long ((q3.toInt64) - (q1.toInt64))), .second, .val (.long ((q2.toInt64) - (q3.toInt64))), .second, iv 0, iv 0, .unset, .unset, .unset] [])) _
          refine XS.aload X130.here hx rfl (hb hby at_86) rfl rfl ?_
          show Steps _ _ _ (T130.setTop (mkF m 88 #[iv q1, iv q2, iv q3, iv q4, iv r96, rv b99, .val (.long ((q3.toInt64) - (q1.toInt64))), .second, .val (.long ((q2.toInt64) - (q3.toInt64))), .second, iv 0, iv 0, .unset, .unset, .unset] [(.ref b99)])) _
          refine XS.iloadN X130.here hx rfl (hb hby at_88) rfl ?_
          show Steps _ _ _ (T130.setTop (mkF m 89 #[iv q1, iv q2, iv q3, iv q4, iv r96, rv b99, .val (.long ((q3.toInt64) - (q1.toInt64))), .second, .val (.long ((q2.toInt64) - (q3.toInt64))), .second, iv 0, iv 0, .unset, .unset, .unset] [(.int q3), (.ref b99)])) _
          exact q
        obtain ⟨cq178, kq178, q178a, q178b, q178c⟩ := isOf hZ116 (rfl : T130.heap = _) f_131
        obtain ⟨_, _, ⟨T178, L178, k178, n178⟩, -, X178, ⟨Lc178, hQ178, l178, y178, z178⟩, st178⟩ := X130.virtualBack hx (y := y_3) (z := y_3) hown116 (mvT hZ116 (hw _ (wd 42 rfl))) (mvT hZ116 (hw _ (wd 43 rfl))) (notFace_of_selects (args := #[]) (mvT hZ116 (hw _ (wd 45 rfl)))) (mvT hZ116 (hw _ (wd 45 rfl))) (mvT hZ116 (hw _ (wd 44 rfl))) (by decide) (backOf (W := 0) (cv l Z a0 hw [] a_FORWARDS a_BOTH a_BACKWARDS G b99 q3 q1 q2 (0 : Int32) T130.heap n0 O_138 I130_2 I130_3 (by simp [hA, hB])) hZ116 (hw _ (wd 46 rfl)) (hw _ (wd 2 rfl)) (by decide) (by decide)) q178a q178c (g := (mkF m 89 #[iv q1, iv q2, iv q3, iv q4, iv r96, rv b99, .val (.long ((q3.toInt64) - (q1.toInt64))), .second, .val (.long ((q2.toInt64) - (q3.toInt64))), .second, iv 0, iv 0, .unset, .unset, .unset] [(.int q3), (.ref b99)])) rfl (by rw [hml]; rfl) (Steps.refl _) (argsL := [(.int q3)]) (rest := []) (lenOf pd_3 rfl) rfl (by show 2 * 0 + _ ≤ _; exact Nat.le_of_eq rfl) (hb hby at_89) (fun _ _ => ⟨rfl, (rfl : T130.heap = _), (by decide : 5 + 0 ≤ _), (by decide : 22 + 0 ≤ _)⟩)
        dsimp only [Pt.U, Pt.locs, Pt.cells, Pt.slots] at X178 l178 y178 z178 st178 hQ178
        subst l178 y178 z178
        obtain ⟨rfl, N178q, e178⟩ := hQ178
        have N178 := Fr.app N130 N178q
        have k_179 : Go p.tables e below (s₁.setTop (entryFrame m #[(.int q1), (.int q2), (.int q3), (.int q4)] maxLocals)) (T178.setTop (mkF m 97 #[iv q1, iv q2, iv q3, iv q4, iv r96, rv b99, .val (.long ((q3.toInt64) - (q1.toInt64))), .second, .val (.long ((q2.toInt64) - (q3.toInt64))), .second, iv 0, iv 0, iv 0, .unset, .unset] [(.int q1), (.ref b99)])) := fun t q => by
          refine k_177 t ?_
          refine st178.trans ?_
          show Steps _ _ _ (T178.setTop (mkF m 92 #[iv q1, iv q2, iv q3, iv q4, iv r96, rv b99, .val (.long ((q3.toInt64) - (q1.toInt64))), .second, .val (.long ((q2.toInt64) - (q3.toInt64))), .second, iv 0, iv 0, .unset, .unset, .unset] [(.int 0)])) _
          refine XS.istore X178.here hx rfl (hb hby at_92) rfl (l' := #[iv q1, iv q2, iv q3, iv q4, iv r96, rv b99, .val (.long ((q3.toInt64) - (q1.toInt64))), .second, .val (.long ((q2.toInt64) - (q3.toInt64))), .second, iv 0, iv 0, iv 0, .unset, .unset]) rfl ?_
          show Steps _ _ _ (T178.setTop (mkF m 94 #[iv q1, iv q2, iv q3, iv q4, iv r96, rv b99, .val (.long ((q3.toInt64) - (q1.toInt64))), .second, .val (.long ((q2.toInt64) - (q3.toInt64))), .second, iv 0, iv 0, iv 0, .unset, .unset] [])) _
          refine XS.aload X178.here hx rfl (hb hby at_94) rfl rfl ?_
          show Steps _ _ _ (T178.setTop (mkF m 96 #[iv q1, iv q2, iv q3, iv q4, iv r96, rv b99, .val (.long ((q3.toInt64) - (q1.toInt64))), .second, .val (.long ((q2.toInt64) - (q3.toInt64))), .second, iv 0, iv 0, iv 0, .unset, .unset] [(.ref b99)])) _
          refine XS.iloadN X178.here hx rfl (hb hby at_96) rfl ?_
          show Steps _ _ _ (T178.setTop (mkF m 97 #[iv q1, iv q2, iv q3, iv q4, iv r96, rv b99, .val (.long ((q3.toInt64) - (q1.toInt64))), .second, .val (.long ((q2.toInt64) - (q3.toInt64))), .second, iv 0, iv 0, iv 0, .unset, .unset] [(.int q1), (.ref b99)])) _
          exact q
        obtain ⟨cq180, kq180, q180a, q180b, q180c⟩ := isOf hZ116 e178 f_131
        obtain ⟨_, _, ⟨T180, L180, k180, n180⟩, -, X180, ⟨Lc180, hQ180, l180, y180, z180⟩, st180⟩ := X178.virtualBack hx (y := y_3) (z := y_3) hown116 (mvT hZ116 (hw _ (wd 42 rfl))) (mvT hZ116 (hw _ (wd 43 rfl))) (notFace_of_selects (args := #[]) (mvT hZ116 (hw _ (wd 45 rfl)))) (mvT hZ116 (hw _ (wd 45 rfl))) (mvT hZ116 (hw _ (wd 44 rfl))) (by decide) (backOf (W := 0) (cv l Z a0 hw [] a_FORWARDS a_BOTH a_BACKWARDS G b99 q1 q1 q2 (0 : Int32) T130.heap n0 O_138 I130_2 I130_3 (by simp [hC, Int32.lt_irrefl])) hZ116 (hw _ (wd 46 rfl)) (hw _ (wd 2 rfl)) (by decide) (by decide)) q180a q180c (g := (mkF m 97 #[iv q1, iv q2, iv q3, iv q4, iv r96, rv b99, .val (.long ((q3.toInt64) - (q1.toInt64))), .second, .val (.long ((q2.toInt64) - (q3.toInt64))), .second, iv 0, iv 0, iv 0, .unset, .unset] [(.int q1), (.ref b99)])) rfl (by rw [hml]; rfl) (Steps.refl _) (argsL := [(.int q1)]) (rest := []) (lenOf pd_3 rfl) rfl (by show 2 * 0 + _ ≤ _; exact Nat.le_of_eq rfl) (hb hby at_97) (fun _ _ => ⟨rfl, e178, (by decide : 5 + 0 ≤ _), (by decide : 22 + 0 ≤ _)⟩)
        dsimp only [Pt.U, Pt.locs, Pt.cells, Pt.slots] at X180 l180 y180 z180 st180 hQ180
        subst l180 y180 z180
        obtain ⟨rfl, N180q, e180⟩ := hQ180
        have N180 := Fr.app N178 N180q
        have k_181 : Go p.tables e below (s₁.setTop (entryFrame m #[(.int q1), (.int q2), (.int q3), (.int q4)] maxLocals)) (T180.setTop (mkF m 105 #[iv q1, iv q2, iv q3, iv q4, iv r96, rv b99, .val (.long ((q3.toInt64) - (q1.toInt64))), .second, .val (.long ((q2.toInt64) - (q3.toInt64))), .second, iv 0, iv 0, iv 0, iv 0, .unset] [(.int q2), (.ref b99)])) := fun t q => by
          refine k_179 t ?_
          refine st180.trans ?_
          show Steps _ _ _ (T180.setTop (mkF m 100 #[iv q1, iv q2, iv q3, iv q4, iv r96, rv b99, .val (.long ((q3.toInt64) - (q1.toInt64))), .second, .val (.long ((q2.toInt64) - (q3.toInt64))), .second, iv 0, iv 0, iv 0, .unset, .unset] [(.int 0)])) _
          refine XS.istore X180.here hx rfl (hb hby at_100) rfl (l' := #[iv q1, iv q2, iv q3, iv q4, iv r96, rv b99, .val (.long ((q3.toInt64) - (q1.toInt64))), .second, .val (.long ((q2.toInt64) - (q3.toInt64))), .second, iv 0, iv 0, iv 0, iv 0, .unset]) rfl ?_
          show Steps _ _ _ (T180.setTop (mkF m 102 #[iv q1, iv q2, iv q3, iv q4, iv r96, rv b99, .val (.long ((q3.toInt64) - (q1.toInt64))), .second, .val (.long ((q2.toInt64) - (q3.toInt64))), .second, iv 0, iv 0, iv 0, iv 0, .unset] [])) _
          refine XS.aload X180.here hx rfl (hb hby at_102) rfl rfl ?_
          show Steps _ _ _ (T180.setTop (mkF m 104 #[iv q1, iv q2, iv q3, iv q4, iv r96, rv b99, .val (.long ((q3.toInt64) - (q1.toInt64))), .second, .val (.long ((q2.toInt64) - (q3.toInt64))), .second, iv 0, iv 0, iv 0, iv 0, .unset] [(.ref b99)])) _
          refine XS.iloadN X180.here hx rfl (hb hby at_104) rfl ?_
          show Steps _ _ _ (T180.setTop (mkF m 105 #[iv q1, iv q2, iv q3, iv q4, iv r96, rv b99, .val (.long ((q3.toInt64) - (q1.toInt64))), .second, .val (.long ((q2.toInt64) - (q3.toInt64))), .second, iv 0, iv 0, iv 0, iv 0, .unset] [(.int q2), (.ref b99)])) _
          exact q
        obtain ⟨cq182, kq182, q182a, q182b, q182c⟩ := isOf hZ116 e180 f_131
        obtain ⟨_, _, ⟨T182, L182, k182, n182⟩, -, X182, ⟨Lc182, hQ182, l182, y182, z182⟩, st182⟩ := X180.virtualBack hx (y := y_3) (z := y_3) hown116 (mvT hZ116 (hw _ (wd 42 rfl))) (mvT hZ116 (hw _ (wd 43 rfl))) (notFace_of_selects (args := #[]) (mvT hZ116 (hw _ (wd 45 rfl)))) (mvT hZ116 (hw _ (wd 45 rfl))) (mvT hZ116 (hw _ (wd 44 rfl))) (by decide) (backOf (W := 0) (cv l Z a0 hw [] a_FORWARDS a_BOTH a_BACKWARDS G b99 q2 q1 q2 (0 : Int32) T130.heap n0 O_138 I130_2 I130_3 (by simp [Int32.lt_irrefl])) hZ116 (hw _ (wd 46 rfl)) (hw _ (wd 2 rfl)) (by decide) (by decide)) q182a q182c (g := (mkF m 105 #[iv q1, iv q2, iv q3, iv q4, iv r96, rv b99, .val (.long ((q3.toInt64) - (q1.toInt64))), .second, .val (.long ((q2.toInt64) - (q3.toInt64))), .second, iv 0, iv 0, iv 0, iv 0, .unset] [(.int q2), (.ref b99)])) rfl (by rw [hml]; rfl) (Steps.refl _) (argsL := [(.int q2)]) (rest := []) (lenOf pd_3 rfl) rfl (by show 2 * 0 + _ ≤ _; exact Nat.le_of_eq rfl) (hb hby at_105) (fun _ _ => ⟨rfl, e180, (by decide : 5 + 0 ≤ _), (by decide : 22 + 0 ≤ _)⟩)
        dsimp only [Pt.U, Pt.locs, Pt.cells, Pt.slots] at X182 l182 y182 z182 st182 hQ182
        subst l182 y182 z182
        obtain ⟨rfl, N182q, e182⟩ := hQ182
        have N182 := Fr.app N180 N182q
        have k_183 : Go p.tables e below (s₁.setTop (entryFrame m #[(.int q1), (.int q2), (.int q3), (.int q4)] maxLocals)) (T182.setTop (mkF m 134 #[iv q1, iv q2, iv q3, iv q4, iv r96, rv b99, .val (.long ((q3.toInt64) - (q1.toInt64))), .second, .val (.long ((q2.toInt64) - (q3.toInt64))), .second, iv 0, iv 0, iv 0, iv 0, iv 0] [(.int 1)])) := fun t q => by
          refine k_181 t ?_
          refine st182.trans ?_
          show Steps _ _ _ (T182.setTop (mkF m 108 #[iv q1, iv q2, iv q3, iv q4, iv r96, rv b99, .val (.long ((q3.toInt64) - (q1.toInt64))), .second, .val (.long ((q2.toInt64) - (q3.toInt64))), .second, iv 0, iv 0, iv 0, iv 0, .unset] [(.int 0)])) _
          refine XS.istore X182.here hx rfl (hb hby at_108) rfl (l' := #[iv q1, iv q2, iv q3, iv q4, iv r96, rv b99, .val (.long ((q3.toInt64) - (q1.toInt64))), .second, .val (.long ((q2.toInt64) - (q3.toInt64))), .second, iv 0, iv 0, iv 0, iv 0, iv 0]) rfl ?_
          show Steps _ _ _ (T182.setTop (mkF m 110 #[iv q1, iv q2, iv q3, iv q4, iv r96, rv b99, .val (.long ((q3.toInt64) - (q1.toInt64))), .second, .val (.long ((q2.toInt64) - (q3.toInt64))), .second, iv 0, iv 0, iv 0, iv 0, iv 0] [])) _
          refine XS.iload X182.here hx rfl (hb hby at_110) rfl ?_
          show Steps _ _ _ (T182.setTop (mkF m 112 #[iv q1, iv q2, iv q3, iv q4, iv r96, rv b99, .val (.long ((q3.toInt64) - (q1.toInt64))), .second, .val (.long ((q2.toInt64) - (q3.toInt64))), .second, iv 0, iv 0, iv 0, iv 0, iv 0] [(.int 0)])) _
          refine XS.iload X182.here hx rfl (hb hby at_112) rfl ?_
          show Steps _ _ _ (T182.setTop (mkF m 114 #[iv q1, iv q2, iv q3, iv q4, iv r96, rv b99, .val (.long ((q3.toInt64) - (q1.toInt64))), .second, .val (.long ((q2.toInt64) - (q3.toInt64))), .second, iv 0, iv 0, iv 0, iv 0, iv 0] [(.int 0), (.int 0)])) _
          refine XS.icmpNo X182.here hx rfl (hb hby at_114) rfl (by decide) ?_
          show Steps _ _ _ (T182.setTop (mkF m 117 #[iv q1, iv q2, iv q3, iv q4, iv r96, rv b99, .val (.long ((q3.toInt64) - (q1.toInt64))), .second, .val (.long ((q2.toInt64) - (q3.toInt64))), .second, iv 0, iv 0, iv 0, iv 0, iv 0] [])) _
          refine XS.iload X182.here hx rfl (hb hby at_117) rfl ?_
          show Steps _ _ _ (T182.setTop (mkF m 119 #[iv q1, iv q2, iv q3, iv q4, iv r96, rv b99, .val (.long ((q3.toInt64) - (q1.toInt64))), .second, .val (.long ((q2.toInt64) - (q3.toInt64))), .second, iv 0, iv 0, iv 0, iv 0, iv 0] [(.int 0)])) _
          refine XS.iload X182.here hx rfl (hb hby at_119) rfl ?_
          show Steps _ _ _ (T182.setTop (mkF m 121 #[iv q1, iv q2, iv q3, iv q4, iv r96, rv b99, .val (.long ((q3.toInt64) - (q1.toInt64))), .second, .val (.long ((q2.toInt64) - (q3.toInt64))), .second, iv 0, iv 0, iv 0, iv 0, iv 0] [(.int 0), (.int 0)])) _
          refine XS.icmpNo X182.here hx rfl (hb hby at_121) rfl (by decide) ?_
          show Steps _ _ _ (T182.setTop (mkF m 124 #[iv q1, iv q2, iv q3, iv q4, iv r96, rv b99, .val (.long ((q3.toInt64) - (q1.toInt64))), .second, .val (.long ((q2.toInt64) - (q3.toInt64))), .second, iv 0, iv 0, iv 0, iv 0, iv 0] [])) _
          refine XS.iload X182.here hx rfl (hb hby at_124) rfl ?_
          show Steps _ _ _ (T182.setTop (mkF m 126 #[iv q1, iv q2, iv q3, iv q4, iv r96, rv b99, .val (.long ((q3.toInt64) - (q1.toInt64))), .second, .val (.long ((q2.toInt64) - (q3.toInt64))), .second, iv 0, iv 0, iv 0, iv 0, iv 0] [(.int 0)])) _
          refine XS.ifNo X182.here hx rfl (hb hby at_126) rfl (by decide) ?_
          show Steps _ _ _ (T182.setTop (mkF m 129 #[iv q1, iv q2, iv q3, iv q4, iv r96, rv b99, .val (.long ((q3.toInt64) - (q1.toInt64))), .second, .val (.long ((q2.toInt64) - (q3.toInt64))), .second, iv 0, iv 0, iv 0, iv 0, iv 0] [])) _
          refine XS.iconst X182.here hx rfl (hb hby at_129) ?_
          show Steps _ _ _ (T182.setTop (mkF m 130 #[iv q1, iv q2, iv q3, iv q4, iv r96, rv b99, .val (.long ((q3.toInt64) - (q1.toInt64))), .second, .val (.long ((q2.toInt64) - (q3.toInt64))), .second, iv 0, iv 0, iv 0, iv 0, iv 0] [(.int 1)])) _
          refine XS.goto X182.here hx rfl (pc0 := 130) (pc' := 134) rfl (hb hby at_130) (by decide) (by decide) ?_
          show Steps _ _ _ (T182.setTop (mkF m 134 #[iv q1, iv q2, iv q3, iv q4, iv r96, rv b99, .val (.long ((q3.toInt64) - (q1.toInt64))), .second, .val (.long ((q2.toInt64) - (q3.toInt64))), .second, iv 0, iv 0, iv 0, iv 0, iv 0] [(.int 1)])) _
          exact q
        obtain ⟨fs, hr, hrun, hended, hEnd⟩ := X182.leaveW hS116 ((e182).symm ▸ hk_140) (v := some (.int 1)) (fun h => by rw [Bd.returns] at h; cases h)
        refine ⟨_, _, k_183 _ ?_, hrun, hended, _, _, rfl, ?_, (⟨hEnd.1, hEnd.2.1, hEnd.2.2.1, hEnd.2.2.2.mono (by decide) (by decide)⟩ : ReturnedEndW _ _ _ _ _ _)⟩
        · exact retN X182 hx (t := .boolean) Bd.returns (by simp) (hb hby at_134) hr
        · show Q0 n0 _ T182.heap _
          rw [e182]
          exact ⟨rfl, N182⟩
set_option maxRecDepth 65536 in
set_option maxHeartbeats 40000000 in
theorem comes_1 {Post : Tables → Env → Array Value → State → Outcome → State → Prop} (hpost : ∀ tb e args s v u, (limb_1_1.after args s (.returned v) u = true ∧ limb_1_2.after args s (.returned v) u = true ∧ True) → ReturnedEndW s (.returned v) u (Jvm.fieldLocs frame_1_writes args s ++ Jvm.arrayLocs frame_1_arrays args s ++ Jvm.staticLocs frame_1_statics s) 16 2176 → Post tb e args s (.returned v) u) :
    ArmFor flags0 classFile x code maxLocals ret World_1 tables_1 room_1 Calls_1 rest_1 Pre_1 Post := by
  intro l hfl _ _ p e ha hc hk s m args below hf hA hF happ hP
  obtain ⟨hcalls, hrest, hpre⟩ := hP
  obtain ⟨-, -, -, hnamed, -, -, -, hat⟩ := (Spec.applies_iff hf).mp happ
  obtain ⟨hg, hn⟩ := and_e (Cond.before_iff.mp (show (Jvm.Cond.and given_1 narrow_1).before args s = true from hpre))
  obtain ⟨g0, c0⟩ := and_e hg
  obtain ⟨g1, c1⟩ := and_e c0
  obtain ⟨g2, c2⟩ := and_e c1
  obtain ⟨g3, c3⟩ := and_e c2
  obtain ⟨w0, w1, w2, w3, rfl⟩ : ∃ w0 w1 w2 w3 : Value, args = #[w0, w1, w2, w3] := by
    have hs : args.size = 4 := by simpa [Cond.value, given_1] using g0
    obtain ⟨L⟩ := args
    match L, hs with
    | [w0, w1, w2, w3], _ => exact ⟨w0, w1, w2, w3, rfl⟩
  have hw := fun d (hd : d ∈ tables_1) => atoms_spec (ws := Jvm.Cond.code x code maxLocals ret :: tables_1) hat d (List.mem_cons_of_mem _ hd)
  obtain ⟨i0, ei0⟩ := is_v g1
  obtain rfl : w0 = (.int i0) := Option.some.inj ei0
  obtain ⟨i1, ei1⟩ := is_v g2
  obtain rfl : w1 = (.int i1) := Option.some.inj ei1
  obtain ⟨i2, ei2⟩ := is_v g3
  obtain rfl : w2 = (.int i2) := Option.some.inj ei2
  obtain ⟨i3, ei3⟩ := is_v c3
  obtain rfl : w3 = (.int i3) := Option.some.inj ei3
  obtain ⟨n0, r0⟩ := and_e hn
  obtain ⟨n1, r1⟩ := and_e r0
  obtain ⟨a_FORWARDS, v_FORWARDS⟩ := exa_v n0
  have E_FORWARDS := Exa.start v_FORWARDS n0
  have S_FORWARDS := Sta.start v_FORWARDS (Or.inr ⟨(hw _ (wd 17 rfl)), (hw _ (wd 18 rfl))⟩)
  obtain ⟨a_BOTH, v_BOTH⟩ := exa_v n1
  have E_BOTH := Exa.start v_BOTH n1
  have S_BOTH := Sta.start v_BOTH (Or.inr ⟨(hw _ (wd 17 rfl)), (hw _ (wd 48 rfl))⟩)
  obtain ⟨a_BACKWARDS, v_BACKWARDS⟩ := exa_v r1
  have E_BACKWARDS := Exa.start v_BACKWARDS r1
  have S_BACKWARDS := Sta.start v_BACKWARDS (Or.inr ⟨(hw _ (wd 17 rfl)), (hw _ (wd 50 rfl))⟩)
  have G : Own s a_FORWARDS a_BOTH a_BACKWARDS := ⟨S_FORWARDS, E_FORWARDS, S_BOTH, E_BOTH, S_BACKWARDS, E_BACKWARDS⟩
  obtain ⟨n, o, h1, h2, h3, _, L, rfl, ⟨rfl, N⟩, hq⟩ := rm0 l s _ hw tables_1 a_FORWARDS a_BOTH a_BACKWARDS G i0 i1 i2 i3 s.heap s.heap.size (Old.start s) p e ha hc hk s m _ below hf ((Spec.applies_iff_loose hf).mp happ).1 ⟨rfl, State.Warmed39.refl s, rfl⟩ trivial
  refine ⟨n, _, h1, h2, h3, hpost _ _ _ _ _ _ ⟨Cond.after_iff.mpr rfl, Cond.after_iff.mpr (eq_i res_at (Term.int_eval (1)) rfl), trivial⟩ ⟨hq.1, hq.2.1, hq.2.2.1, (hq.2.2.2.sift fun y hy => Or.inr (N y hy)).mono (by decide) (by decide)⟩⟩
theorem main_1_1 : Claimed_1_1 := comes_1 fun _ _ _ _ _ _ h hF => ⟨h.1, hF⟩
theorem main_1_2 : Claimed_1_2 := comes_1 fun _ _ _ _ _ _ h hF => ⟨h.2.1, hF⟩
end Jvm.Pilot.@@N@@
namespace Jvm.Pilot.@@N@@
open Jvm Jvm.ClassFile Sem Op Lib Jvm.Free Jvm.Stand Jvm.Pilot.@@N@@.Jvm.D
/-! MADE BY PROGRAM (witnessworld.py) out of the Statement's table words and the real class files: 18 classes; the members and pool entries that the words name. The judged class is class 1, her method 2. -/
namespace start1
open Jvm.ClassFile
def u (s : String) : CpInfo := .utf8 (stringToUtf16 s)
/-- a pool by its gaps: so many unusable entries, then the entry; so many at the end -/
def gap : Nat → List CpInfo → List CpInfo
  | 0, r => r
  | n + 1, r => .unusable :: gap n r
def poolList (es : List (Nat × CpInfo)) (last : Nat) : List CpInfo := es.foldr (fun e r => gap e.1 (e.2 :: r)) (gap last [])
def pool (es : List (Nat × CpInfo)) (last : Nat) : Array CpInfo := ⟨poolList es last⟩
def fileOf (pool : Array CpInfo) (this : Nat) (attrs : Array Attribute := #[]) (ms : Array MethodInfo := #[]) (fl : Nat := 33) (sup : Nat := 0) (ifs : Array Nat := #[]) (fds : Array FieldInfo := #[]) : ClassFile where
  minorVersion := 0
  majorVersion := 65
  constantPool := pool
  accessFlags := fl
  thisClass := this
  superClass := sup
  interfaces := ifs
  fields := fds
  methods := ms
  attributes := attrs
def plain (name : String) (sup : Option ClassId) : Class where
  name := name
  kind := .ordinary
  loader := none
  accessFlags := 33
  super := sup
  interfaces := #[]
  cf := none
  fields := #[]
  methods := #[]
  instanceTypes := #[]
  staticTypes := #[]
  resolved := #[]
  callSites := []
  init := .initialized
  statics := none
  mirror := none

def pool0 : Array CpInfo := pool [(5, u "<init>"), (0, u "()V"), (1, .class_ 10), (1, u "java/lang/Object")] 113

def k0c0 : Code := { maxStack := 0, maxLocals := 1, code := object_method_1_code, exceptionTable := #[], attributes := #[] }
def k0m0 : Method := { name := "<init>", desc := "()V", sig := { parameters := [], returnType := none }, accessFlags := 1, code := some k0c0 }
/-- java/lang/Object -/
def k0 : Class := { plain "java/lang/Object" none with
  accessFlags := 33
  interfaces := #[]
  cf := some (fileOf pool0 8 #[] #[{ accessFlags := 1, nameIndex := 5, descriptorIndex := 6, attributes := #[] }] 33 0 #[] #[])
  fields := #[]
  methods := #[k0m0]
  instanceTypes := #[]
  staticTypes := #[]
  resolved := Array.replicate 124 none
  statics := none }

def pool1 : Array CpInfo := pool [(2, .class_ 4), (1, u "java/lang/Object"), (0, u "<init>"), (0, u "()V"), (0, .fieldref 8 9), (0, .class_ 10), (0, .nameAndType 11 12), (0, u "com/example/stationgraph/stationgraph/station/PathwayDirection"), (0, u "FORWARDS"), (0, u "Lcom/example/stationgraph/stationgraph/station/PathwayDirection;"), (0, .fieldref 8 14), (0, .nameAndType 15 12), (0, u "BOTH"), (0, .fieldref 8 17), (0, .nameAndType 18 12), (0, u "BACKWARDS"), (0, .class_ 20), (0, u "com/example/stationgraph/stationgraph/station/PlannedChanges$Change"), (0, .string 22), (0, u "p"), (0, .string 24), (0, u "s"), (0, .methodref 26 27), (0, .class_ 28), (0, .nameAndType 29 30), (0, u "com/example/stationgraph/stationgraph/station/ChangeCoversPinLaw"), (0, u "direction"), (0, u "(I)Lcom/example/stationgraph/stationgraph/station/PathwayDirection;"), (0, .methodref 19 32), (0, .nameAndType 5 33), (0, u "(Ljava/lang/String;Ljava/lang/String;IIZLcom/example/stationgraph/stationgraph/station/PathwayDirection;)V"), (0, .methodref 19 35), (0, .nameAndType 36 37), (0, u "covers"), (0, u "(I)Z"), (3, u "law"), (0, u "(IIII)Z")] 6

def k1m0 : Method := { name := "<init>", desc := "()V", sig := { parameters := [], returnType := none }, accessFlags := 2, code := none }
def k1c1 : Code := { maxStack := 2, maxLocals := 2, code := method_2_code, exceptionTable := #[], attributes := #[] }
def k1m1 : Method := { name := "direction", desc := "(I)Lcom/example/stationgraph/stationgraph/station/PathwayDirection;", sig := { parameters := [.int], returnType := some (.object "com/example/stationgraph/stationgraph/station/PathwayDirection") }, accessFlags := 10, code := some k1c1 }
def k1c2 : Code := { maxStack := 8, maxLocals := 15, code := code, exceptionTable := #[], attributes := #[] }
def k1m2 : Method := { name := "law", desc := "(IIII)Z", sig := { parameters := [.int, .int, .int, .int], returnType := some .boolean }, accessFlags := 9, code := some k1c2 }
/-- com/example/stationgraph/stationgraph/station/ChangeCoversPinLaw -/
def k1 : Class := { plain "com/example/stationgraph/stationgraph/station/ChangeCoversPinLaw" (some 0) with
  accessFlags := 49
  interfaces := #[]
  cf := some (fileOf pool1 26 #[] #[{ accessFlags := 2, nameIndex := 5, descriptorIndex := 6, attributes := #[] }, { accessFlags := 10, nameIndex := 29, descriptorIndex := 30, attributes := #[] }, { accessFlags := 9, nameIndex := 41, descriptorIndex := 42, attributes := #[] }] 49 2 #[] #[])
  fields := #[]
  methods := #[k1m0, k1m1, k1m2]
  instanceTypes := #[]
  staticTypes := #[]
  resolved := Array.replicate 49 none
  statics := none }

def pool2 : Array CpInfo := pool [(1, .methodref 2 3), (0, .class_ 4), (0, .nameAndType 5 6), (0, u "java/lang/Object"), (0, u "<init>"), (0, u "()V"), (0, .class_ 8), (0, u "java/lang/Record")] 13

def k2c0 : Code := { maxStack := 1, maxLocals := 1, code := jdk_30_method_1_code, exceptionTable := #[], attributes := #[] }
def k2m0 : Method := { name := "<init>", desc := "()V", sig := { parameters := [], returnType := none }, accessFlags := 4, code := some k2c0 }
/-- java/lang/Record -/
def k2 : Class := { plain "java/lang/Record" (some 0) with
  accessFlags := 1057
  interfaces := #[]
  cf := some (fileOf pool2 7 #[] #[{ accessFlags := 4, nameIndex := 5, descriptorIndex := 6, attributes := #[] }] 1057 2 #[] #[])
  fields := #[]
  methods := #[k2m0]
  instanceTypes := #[]
  staticTypes := #[]
  resolved := Array.replicate 22 none
  statics := none }

def pool3 : Array CpInfo := pool [(1, .methodref 2 3), (0, .class_ 4), (0, .nameAndType 5 6), (0, u "java/lang/Record"), (0, u "<init>"), (0, u "()V"), (0, .fieldref 8 9), (0, .class_ 10), (0, .nameAndType 11 12), (0, u "com/example/stationgraph/stationgraph/station/PlannedChanges$Change"), (0, u "pathwayId"), (0, u "Ljava/lang/String;"), (0, .fieldref 8 14), (0, .nameAndType 15 12), (0, u "serviceId"), (0, .fieldref 8 17), (0, .nameAndType 18 19), (0, u "start"), (0, u "I"), (0, .fieldref 8 21), (0, .nameAndType 22 19), (0, u "end"), (0, .fieldref 8 24), (0, .nameAndType 25 26), (0, u "closed"), (0, u "Z"), (0, .fieldref 8 28), (0, .nameAndType 29 30), (0, u "direction"), (0, u "Lcom/example/stationgraph/stationgraph/station/PathwayDirection;"), (12, u "(Ljava/lang/String;Ljava/lang/String;IIZLcom/example/stationgraph/stationgraph/station/PathwayDirection;)V"), (3, u "covers"), (0, u "(I)Z"), (9, .class_ 59), (0, u "com/example/stationgraph/stationgraph/station/PlannedChanges")] 24

def k3c0 : Code := { maxStack := 2, maxLocals := 7, code := prog_69_method_1_code, exceptionTable := #[], attributes := #[] }
def k3m0 : Method := { name := "<init>", desc := "(Ljava/lang/String;Ljava/lang/String;IIZLcom/example/stationgraph/stationgraph/station/PathwayDirection;)V", sig := { parameters := [(.object "java/lang/String"), (.object "java/lang/String"), .int, .int, .boolean, (.object "com/example/stationgraph/stationgraph/station/PathwayDirection")], returnType := none }, accessFlags := 0, code := some k3c0 }
def k3c1 : Code := { maxStack := 2, maxLocals := 2, code := prog_69_method_2_code, exceptionTable := #[], attributes := #[] }
def k3m1 : Method := { name := "covers", desc := "(I)Z", sig := { parameters := [.int], returnType := some .boolean }, accessFlags := 0, code := some k3c1 }
/-- com/example/stationgraph/stationgraph/station/PlannedChanges$Change -/
def k3 : Class := { plain "com/example/stationgraph/stationgraph/station/PlannedChanges$Change" (some 2) with
  accessFlags := 48
  interfaces := #[]
  cf := some (fileOf pool3 8 #[.nestHost 58] #[{ accessFlags := 0, nameIndex := 5, descriptorIndex := 43, attributes := #[] }, { accessFlags := 0, nameIndex := 47, descriptorIndex := 48, attributes := #[] }] 48 2 #[] #[{ accessFlags := 18, nameIndex := 11, descriptorIndex := 12, attributes := #[] }, { accessFlags := 18, nameIndex := 15, descriptorIndex := 12, attributes := #[] }, { accessFlags := 18, nameIndex := 18, descriptorIndex := 19, attributes := #[] }, { accessFlags := 18, nameIndex := 22, descriptorIndex := 19, attributes := #[] }, { accessFlags := 18, nameIndex := 25, descriptorIndex := 26, attributes := #[] }, { accessFlags := 18, nameIndex := 29, descriptorIndex := 30, attributes := #[] }])
  fields := #[{ name := "pathwayId", type := (.object "java/lang/String"), accessFlags := 18, slot := 0, constantValue := 0 }, { name := "serviceId", type := (.object "java/lang/String"), accessFlags := 18, slot := 1, constantValue := 0 }, { name := "start", type := .int, accessFlags := 18, slot := 2, constantValue := 0 }, { name := "end", type := .int, accessFlags := 18, slot := 3, constantValue := 0 }, { name := "closed", type := .boolean, accessFlags := 18, slot := 4, constantValue := 0 }, { name := "direction", type := (.object "com/example/stationgraph/stationgraph/station/PathwayDirection"), accessFlags := 18, slot := 5, constantValue := 0 }]
  methods := #[k3m0, k3m1]
  instanceTypes := #[(.object "java/lang/String"), (.object "java/lang/String"), .int, .int, .boolean, (.object "com/example/stationgraph/stationgraph/station/PathwayDirection")]
  staticTypes := #[]
  resolved := Array.replicate 84 none
  statics := none }

def pool4 : Array CpInfo := pool [(1, .class_ 2), (0, u "java/io/Serializable"), (0, .class_ 4), (0, u "java/lang/Object")] 2

/-- java/io/Serializable -/
def k4 : Class := { plain "java/io/Serializable" (some 0) with
  accessFlags := 1537
  interfaces := #[]
  cf := some (fileOf pool4 1 #[] #[] 1537 3 #[] #[])
  fields := #[]
  methods := #[]
  instanceTypes := #[]
  staticTypes := #[]
  resolved := Array.replicate 7 none
  statics := none }

def pool5 : Array CpInfo := pool [(1, .class_ 2), (0, u "java/lang/Comparable"), (0, .class_ 4), (0, u "java/lang/Object")] 7

/-- java/lang/Comparable -/
def k5 : Class := { plain "java/lang/Comparable" (some 0) with
  accessFlags := 1537
  interfaces := #[]
  cf := some (fileOf pool5 1 #[] #[] 1537 3 #[] #[])
  fields := #[]
  methods := #[]
  instanceTypes := #[]
  staticTypes := #[]
  resolved := Array.replicate 12 none
  statics := none }

def pool6 : Array CpInfo := pool [(2, .class_ 4), (1, u "java/lang/CharSequence"), (42, .class_ 48), (0, u "java/lang/CharSequence$1CodePointIterator"), (10, .class_ 60), (0, u "java/lang/CharSequence$1CharIterator"), (5, .class_ 67), (0, u "java/lang/Object")] 63

/-- java/lang/CharSequence -/
def k6 : Class := { plain "java/lang/CharSequence" (some 0) with
  accessFlags := 1537
  interfaces := #[]
  cf := some (fileOf pool6 2 #[.nestMembers #[47, 59]] #[] 1537 66 #[] #[])
  fields := #[]
  methods := #[]
  instanceTypes := #[]
  staticTypes := #[]
  resolved := Array.replicate 131 none
  statics := none }

def pool7 : Array CpInfo := pool [(1, .class_ 2), (0, u "java/lang/constant/Constable"), (0, .class_ 4), (0, u "java/lang/Object")] 6

/-- java/lang/constant/Constable -/
def k7 : Class := { plain "java/lang/constant/Constable" (some 0) with
  accessFlags := 1537
  interfaces := #[]
  cf := some (fileOf pool7 1 #[] #[] 1537 3 #[] #[])
  fields := #[]
  methods := #[]
  instanceTypes := #[]
  staticTypes := #[]
  resolved := Array.replicate 11 none
  statics := none }

def pool8 : Array CpInfo := pool [(1, .class_ 2), (0, u "java/lang/constant/ConstantDesc"), (0, .class_ 4), (0, u "java/lang/Object")] 32

/-- java/lang/constant/ConstantDesc -/
def k8 : Class := { plain "java/lang/constant/ConstantDesc" (some 0) with
  accessFlags := 1537
  interfaces := #[]
  cf := some (fileOf pool8 1 #[] #[] 1537 3 #[] #[])
  fields := #[]
  methods := #[]
  instanceTypes := #[]
  staticTypes := #[]
  resolved := Array.replicate 37 none
  statics := none }

def pool9 : Array CpInfo := pool [(2, .class_ 4), (1, u "java/lang/Object"), (0, u "<init>"), (0, u "()V"), (3, .class_ 12), (1, u "java/lang/String"), (0, u "value"), (0, u "[B"), (2, u "coder"), (0, u "B"), (2, u "hash"), (0, u "I"), (2, u "hashIsZero"), (0, u "Z"), (13, u "COMPACT_STRINGS"), (534, .class_ 576), (0, u "java/lang/CharSequence"), (22, u "CASE_INSENSITIVE_ORDER"), (0, u "Ljava/util/Comparator;"), (500, u "serialPersistentFields"), (0, u "[Ljava/io/ObjectStreamField;"), (0, .class_ 1104), (0, u "java/lang/String$CaseInsensitiveComparator"), (1, .class_ 1107), (0, u "java/io/Serializable"), (0, .class_ 1109), (0, u "java/lang/Comparable"), (0, .class_ 1111), (0, u "java/lang/constant/Constable"), (0, .class_ 1113), (0, u "java/lang/constant/ConstantDesc"), (2, u "serialVersionUID"), (0, u "J"), (3, u "REPL"), (0, u "C"), (2, u "LATIN1"), (1, u "UTF16")] 323

def k9m0 : Method := { name := "<init>", desc := "()V", sig := { parameters := [], returnType := none }, accessFlags := 1, code := none }
/-- java/lang/String -/
def k9 : Class := { plain "java/lang/String" (some 0) with
  accessFlags := 49
  interfaces := #[4, 5, 6, 7, 8]
  cf := some (fileOf pool9 10 #[.nestMembers #[1103]] #[{ accessFlags := 1, nameIndex := 5, descriptorIndex := 6, attributes := #[] }] 49 2 #[1106, 1108, 575, 1110, 1112] #[{ accessFlags := 18, nameIndex := 13, descriptorIndex := 14, attributes := #[] }, { accessFlags := 18, nameIndex := 17, descriptorIndex := 18, attributes := #[] }, { accessFlags := 2, nameIndex := 21, descriptorIndex := 22, attributes := #[] }, { accessFlags := 2, nameIndex := 25, descriptorIndex := 26, attributes := #[] }, { accessFlags := 26, nameIndex := 1116, descriptorIndex := 1117, attributes := #[] }, { accessFlags := 24, nameIndex := 40, descriptorIndex := 26, attributes := #[] }, { accessFlags := 26, nameIndex := 1101, descriptorIndex := 1102, attributes := #[] }, { accessFlags := 26, nameIndex := 1121, descriptorIndex := 1122, attributes := #[] }, { accessFlags := 25, nameIndex := 599, descriptorIndex := 600, attributes := #[] }, { accessFlags := 24, nameIndex := 1125, descriptorIndex := 18, attributes := #[] }, { accessFlags := 24, nameIndex := 1127, descriptorIndex := 18, attributes := #[] }])
  fields := #[{ name := "value", type := (.array .byte), accessFlags := 18, slot := 0, constantValue := 0 }, { name := "coder", type := .byte, accessFlags := 18, slot := 1, constantValue := 0 }, { name := "hash", type := .int, accessFlags := 2, slot := 2, constantValue := 0 }, { name := "hashIsZero", type := .boolean, accessFlags := 2, slot := 3, constantValue := 0 }, { name := "serialVersionUID", type := .long, accessFlags := 26, slot := 0, constantValue := 0 }, { name := "COMPACT_STRINGS", type := .boolean, accessFlags := 24, slot := 1, constantValue := 0 }, { name := "serialPersistentFields", type := (.array (.object "java/io/ObjectStreamField")), accessFlags := 26, slot := 2, constantValue := 0 }, { name := "REPL", type := .char, accessFlags := 26, slot := 3, constantValue := 0 }, { name := "CASE_INSENSITIVE_ORDER", type := (.object "java/util/Comparator"), accessFlags := 25, slot := 4, constantValue := 0 }, { name := "LATIN1", type := .byte, accessFlags := 24, slot := 5, constantValue := 0 }, { name := "UTF16", type := .byte, accessFlags := 24, slot := 6, constantValue := 0 }]
  methods := #[k9m0]
  instanceTypes := #[(.array .byte), .byte, .int, .boolean]
  staticTypes := #[.long, .boolean, (.array (.object "java/io/ObjectStreamField")), .char, (.object "java/util/Comparator"), .byte, .byte]
  resolved := Array.replicate 1451 none
  statics := none }

def pool10 : Array CpInfo := pool [(2, .class_ 4), (1, u "java/lang/Enum"), (0, u "name"), (0, u "Ljava/lang/String;"), (2, u "ordinal"), (0, u "I"), (1, .class_ 14), (1, u "java/lang/Object"), (4, u "hash"), (86, .class_ 108), (1, u "java/lang/Enum$EnumDesc"), (2, .class_ 112), (0, u "java/lang/constant/Constable"), (0, .class_ 114), (0, u "java/lang/Comparable"), (0, .class_ 116), (0, u "java/io/Serializable")] 87

/-- java/lang/Enum -/
def k10 : Class := { plain "java/lang/Enum" (some 0) with
  accessFlags := 1057
  interfaces := #[7, 5, 4]
  cf := some (fileOf pool10 2 #[.nestMembers #[106]] #[] 1057 12 #[111, 113, 115] #[{ accessFlags := 18, nameIndex := 5, descriptorIndex := 6, attributes := #[] }, { accessFlags := 18, nameIndex := 9, descriptorIndex := 10, attributes := #[] }, { accessFlags := 2, nameIndex := 19, descriptorIndex := 10, attributes := #[] }])
  fields := #[{ name := "name", type := (.object "java/lang/String"), accessFlags := 18, slot := 0, constantValue := 0 }, { name := "ordinal", type := .int, accessFlags := 18, slot := 1, constantValue := 0 }, { name := "hash", type := .int, accessFlags := 2, slot := 2, constantValue := 0 }]
  methods := #[]
  instanceTypes := #[(.object "java/lang/String"), .int, .int]
  staticTypes := #[]
  resolved := Array.replicate 204 none
  statics := none }

def pool11 : Array CpInfo := pool [(8, .class_ 10), (1, u "com/example/stationgraph/stationgraph/station/Coded"), (26, .class_ 38), (0, u "java/lang/Object")] 30

/-- com/example/stationgraph/stationgraph/station/Coded -/
def k11 : Class := { plain "com/example/stationgraph/stationgraph/station/Coded" (some 0) with
  accessFlags := 1537
  interfaces := #[]
  cf := some (fileOf pool11 8 #[] #[] 1537 37 #[] #[])
  fields := #[]
  methods := #[]
  instanceTypes := #[]
  staticTypes := #[]
  resolved := Array.replicate 69 none
  statics := none }

def pool12 : Array CpInfo := pool [(1, .class_ 2), (0, u "com/example/stationgraph/stationgraph/station/PathwayDirection"), (2, u "FORWARDS"), (0, u "Lcom/example/stationgraph/stationgraph/station/PathwayDirection;"), (2, u "BOTH"), (2, u "BACKWARDS"), (2, u "$VALUES"), (0, u "[Lcom/example/stationgraph/stationgraph/station/PathwayDirection;"), (6, .class_ 25), (1, u "java/lang/Enum"), (8, u "code"), (0, u "I"), (2, u "VALUES"), (5, .class_ 46), (1, u "com/example/stationgraph/stationgraph/station/Coded")] 32

/-- com/example/stationgraph/stationgraph/station/PathwayDirection -/
def k12 : Class := { plain "com/example/stationgraph/stationgraph/station/PathwayDirection" (some 10) with
  accessFlags := 16433
  interfaces := #[11]
  cf := some (fileOf pool12 1 #[] #[] 16433 23 #[44] #[{ accessFlags := 16409, nameIndex := 5, descriptorIndex := 6, attributes := #[] }, { accessFlags := 16409, nameIndex := 9, descriptorIndex := 6, attributes := #[] }, { accessFlags := 16409, nameIndex := 12, descriptorIndex := 6, attributes := #[] }, { accessFlags := 26, nameIndex := 38, descriptorIndex := 16, attributes := #[] }, { accessFlags := 18, nameIndex := 34, descriptorIndex := 35, attributes := #[] }, { accessFlags := 4122, nameIndex := 15, descriptorIndex := 16, attributes := #[] }])
  fields := #[{ name := "FORWARDS", type := (.object "com/example/stationgraph/stationgraph/station/PathwayDirection"), accessFlags := 16409, slot := 0, constantValue := 0 }, { name := "BOTH", type := (.object "com/example/stationgraph/stationgraph/station/PathwayDirection"), accessFlags := 16409, slot := 1, constantValue := 0 }, { name := "BACKWARDS", type := (.object "com/example/stationgraph/stationgraph/station/PathwayDirection"), accessFlags := 16409, slot := 2, constantValue := 0 }, { name := "VALUES", type := (.array (.object "com/example/stationgraph/stationgraph/station/PathwayDirection")), accessFlags := 26, slot := 3, constantValue := 0 }, { name := "code", type := .int, accessFlags := 18, slot := 3, constantValue := 0 }, { name := "$VALUES", type := (.array (.object "com/example/stationgraph/stationgraph/station/PathwayDirection")), accessFlags := 4122, slot := 4, constantValue := 0 }]
  methods := #[]
  instanceTypes := #[(.object "java/lang/String"), .int, .int, .int]
  staticTypes := #[(.object "com/example/stationgraph/stationgraph/station/PathwayDirection"), (.object "com/example/stationgraph/stationgraph/station/PathwayDirection"), (.object "com/example/stationgraph/stationgraph/station/PathwayDirection"), (.array (.object "com/example/stationgraph/stationgraph/station/PathwayDirection")), (.array (.object "com/example/stationgraph/stationgraph/station/PathwayDirection"))]
  resolved := Array.replicate 79 none
  statics := some 0 }

def pool13 : Array CpInfo := pool [(1, u "java/lang/Cloneable"), (0, .class_ 1), (0, u "java/lang/Object"), (0, .class_ 3)] 3

/-- java/lang/Cloneable -/
def k13 : Class := { plain "java/lang/Cloneable" (some 0) with
  accessFlags := 1537
  interfaces := #[]
  cf := some (fileOf pool13 2 #[] #[] 1537 4 #[] #[])
  fields := #[]
  methods := #[]
  instanceTypes := #[]
  staticTypes := #[]
  resolved := Array.replicate 8 none
  statics := none }

/-- the primitive byte -/
def k14 : Class := { plain "byte" none with kind := .primitive 'B', accessFlags := 0x411 }
/-- [B -/
def k15 : Class := { plain "[B" (some 0) with kind := .array 14 .byte, interfaces := #[13, 4], accessFlags := 1041 }

/-- the primitive int -/
def k16 : Class := { plain "int" none with kind := .primitive 'I', accessFlags := 0x411 }
/-- [I -/
def k17 : Class := { plain "[I" (some 0) with kind := .array 16 .int, interfaces := #[13, 4], accessFlags := 1041 }

def heap : Heap := #[{ cls := 12, slots := #[.ref 1, .ref 2, .ref 3, .null, .null], vm := .statics 12 },
  { cls := 12, slots := #[.null, .int 0, .int 0, .int 0], vm := .none },
  { cls := 12, slots := #[.null, .int 1, .int 0, .int 0], vm := .none },
  { cls := 12, slots := #[.null, .int 2, .int 0, .int 0], vm := .none }]
def classes : Array Class := #[k0, k1, k2, k3, k4, k5, k6, k7, k8, k9, k10, k11, k12, k13, k14, k15, k16, k17]
def interned : List (Array UInt16 × Addr) := []
def slotsUsed : Nat := 17
def theMethod : MethodId := ⟨1, 2⟩
def args0 : Array Value := #[.int 5, .int 6, .int 7, .int 8]
def aboutOver (below : List Frame) : State where
  vm := { classes := classes, interned := interned.toArray }
  heap := heap
  slotsUsed := slotsUsed
  threads := #[{ frames := .invoking theMethod args0 :: below }]
def below0 : List Frame := [.native { method := ⟨0, 0⟩, args := #[] }]
def about1 : State := aboutOver below0
def p0 : Program := .bare "" "" ""
def e0 : Env := launch0.env 0 0 0
theorem w_frames : about1.frames = Frame.invoking theMethod args0 :: below0 := rfl
set_option maxRecDepth 65536 in
theorem w_args : argsFit about1.vm theMethod args0 = true := by decide +kernel
set_option maxRecDepth 65536 in
theorem w_heap : heapFits about1 = true := by decide +kernel
set_option maxRecDepth 65536 in
theorem w_runnable : about1.curStatus? = some .runnable := by decide +kernel
set_option maxRecDepth 65536 in
theorem w_alone : about1.alone = true := by decide +kernel
set_option maxRecDepth 65536 in
theorem w_named : about1.methodNamed? x = some theMethod := by decide +kernel
set_option maxRecDepth 65536 in
theorem w_hears : about1.hears theMethod below0 = true := by decide +kernel
set_option maxRecDepth 65536 in
theorem w_ripe : about1.ripe theMethod args0 below0 = true := by decide +kernel
theorem w_running : about1.status = .running := rfl
set_option maxRecDepth 65536 in
theorem w_room : about1.hasRoom e0.platform room_1 = true :=
  launch0.hasRoom_least _ room_1 (by decide +kernel) (by decide +kernel) (by decide +kernel) (by decide +kernel) (by decide +kernel) (by decide +kernel)
theorem allAtoms_all (ts : List Jvm.Cond) (a : Array Jvm.Value) (st : Jvm.State) : (allAtoms ts).before a st = ts.all (fun c => c.before a st) := by
  induction ts with
  | nil => rfl
  | cons c t ih =>
    show (Jvm.Cond.and c (allAtoms t)).before a st = _
    rw [Jvm.Cond.before_and, ih, List.all_cons]
def words1 : List Jvm.Cond := Jvm.Cond.code x code maxLocals ret :: tables_1
/-- a 'code' word, met by the world's own term for the bytes: nothing is compared byte by byte -/
theorem code_word {y : MethodName} {bytes : ByteArray} {mx : Nat} {rt : Option FieldType} {a : Array Value} {s : State} {m : MethodId} {meth : Method} {c : Code} (h1 : s.methodNamed? y = some m) (h2 : s.vm.method? m = some meth) (h3 : meth.code = some c) (h4 : c.code = bytes)
    (h5 : (c.maxLocals == mx && c.exceptionTable.isEmpty && decide (c.maxStack ≤ mostOperands) && decide (meth.sig.returnType = rt) && !meth.locks && decide (parseMethodDescriptor y.desc = some meth.sig)) = true) : (Jvm.Cond.code y bytes mx rt).before a s = true := by
  simp only [Bool.and_eq_true, beq_iff_eq, Bool.not_eq_true', decide_eq_true_eq] at h5
  obtain ⟨⟨⟨⟨⟨g1, g2⟩, g3⟩, g4⟩, g5⟩, g6⟩ := h5
  simp [Cond.before, Cond.holds, Cond.value, h1, h2, h3, h4, g1, g2, g3, g4, g5, g6]
def isCode : Jvm.Cond → Bool
  | .code _ _ _ _ => true
  | _ => false
theorem all_split {L : List Jvm.Cond} {P : Jvm.Cond → Bool} (h1 : L.all (fun c => isCode c || P c) = true) (h2 : ∀ c ∈ L.filter isCode, P c = true) : L.all P = true := by
  refine List.all_eq_true.mpr fun c hc => ?_
  have h := List.all_eq_true.mp h1 c hc
  rcases Bool.eq_false_or_eq_true (isCode c) with hi | hi
  · exact h2 c (List.mem_filter.mpr ⟨hc, hi⟩)
  · simpa [hi] using h
set_option maxRecDepth 65536 in
theorem w_c0 : (Jvm.Cond.code x code maxLocals ret).before args0 about1 = true := code_word (m := ⟨1, 2⟩) (meth := k1m2) (c := k1c2) (by decide +kernel) rfl rfl rfl (by decide +kernel)
set_option maxRecDepth 65536 in
theorem w_c1 : (Jvm.Cond.code ({ cls := "com/example/stationgraph/stationgraph/station/ChangeCoversPinLaw", name := "direction", desc := "(I)Lcom/example/stationgraph/stationgraph/station/PathwayDirection;" } : Jvm.MethodName) method_2_code (2 : Nat) (Option.some (Jvm.ClassFile.FieldType.object "com/example/stationgraph/stationgraph/station/PathwayDirection"))).before args0 about1 = true := code_word (m := ⟨1, 1⟩) (meth := k1m1) (c := k1c1) (by decide +kernel) rfl rfl rfl (by decide +kernel)
set_option maxRecDepth 65536 in
theorem w_c2 : (Jvm.Cond.code ({ cls := "com/example/stationgraph/stationgraph/station/PlannedChanges$Change", name := "<init>", desc := "(Ljava/lang/String;Ljava/lang/String;IIZLcom/example/stationgraph/stationgraph/station/PathwayDirection;)V" } : Jvm.MethodName) prog_69_method_1_code (7 : Nat) (Option.none : Option Jvm.ClassFile.FieldType)).before args0 about1 = true := code_word (m := ⟨3, 0⟩) (meth := k3m0) (c := k3c0) (by decide +kernel) rfl rfl rfl (by decide +kernel)
set_option maxRecDepth 65536 in
theorem w_c3 : (Jvm.Cond.code ({ cls := "java/lang/Record", name := "<init>", desc := "()V" } : Jvm.MethodName) jdk_30_method_1_code (1 : Nat) (Option.none : Option Jvm.ClassFile.FieldType)).before args0 about1 = true := code_word (m := ⟨2, 0⟩) (meth := k2m0) (c := k2c0) (by decide +kernel) rfl rfl rfl (by decide +kernel)
set_option maxRecDepth 65536 in
theorem w_c4 : (Jvm.Cond.code ({ cls := "java/lang/Object", name := "<init>", desc := "()V" } : Jvm.MethodName) object_method_1_code (1 : Nat) (Option.none : Option Jvm.ClassFile.FieldType)).before args0 about1 = true := code_word (m := ⟨0, 0⟩) (meth := k0m0) (c := k0c0) (by decide +kernel) rfl rfl rfl (by decide +kernel)
set_option maxRecDepth 65536 in
theorem w_c5 : (Jvm.Cond.code ({ cls := "com/example/stationgraph/stationgraph/station/PlannedChanges$Change", name := "covers", desc := "(I)Z" } : Jvm.MethodName) prog_69_method_2_code (2 : Nat) (Option.some Jvm.ClassFile.FieldType.boolean)).before args0 about1 = true := code_word (m := ⟨3, 1⟩) (meth := k3m1) (c := k3c1) (by decide +kernel) rfl rfl rfl (by decide +kernel)
def codes1 : List Jvm.Cond := [Jvm.Cond.code x code maxLocals ret, Jvm.Cond.code ({ cls := "com/example/stationgraph/stationgraph/station/ChangeCoversPinLaw", name := "direction", desc := "(I)Lcom/example/stationgraph/stationgraph/station/PathwayDirection;" } : Jvm.MethodName) method_2_code (2 : Nat) (Option.some (Jvm.ClassFile.FieldType.object "com/example/stationgraph/stationgraph/station/PathwayDirection")), Jvm.Cond.code ({ cls := "com/example/stationgraph/stationgraph/station/PlannedChanges$Change", name := "<init>", desc := "(Ljava/lang/String;Ljava/lang/String;IIZLcom/example/stationgraph/stationgraph/station/PathwayDirection;)V" } : Jvm.MethodName) prog_69_method_1_code (7 : Nat) (Option.none : Option Jvm.ClassFile.FieldType), Jvm.Cond.code ({ cls := "java/lang/Record", name := "<init>", desc := "()V" } : Jvm.MethodName) jdk_30_method_1_code (1 : Nat) (Option.none : Option Jvm.ClassFile.FieldType), Jvm.Cond.code ({ cls := "java/lang/Object", name := "<init>", desc := "()V" } : Jvm.MethodName) object_method_1_code (1 : Nat) (Option.none : Option Jvm.ClassFile.FieldType), Jvm.Cond.code ({ cls := "com/example/stationgraph/stationgraph/station/PlannedChanges$Change", name := "covers", desc := "(I)Z" } : Jvm.MethodName) prog_69_method_2_code (2 : Nat) (Option.some Jvm.ClassFile.FieldType.boolean)]
set_option maxRecDepth 65536 in
theorem codes_eq : words1.filter isCode = codes1 := rfl
theorem w_codes : ∀ c ∈ words1.filter isCode, c.before args0 about1 = true := by
  rw [codes_eq]
  intro c hc
  simp only [codes1, List.mem_cons, List.not_mem_nil, or_false] at hc
  rcases hc with rfl | rfl | rfl | rfl | rfl | rfl
  · exact w_c0
  · exact w_c1
  · exact w_c2
  · exact w_c3
  · exact w_c4
  · exact w_c5
set_option maxRecDepth 65536 in
theorem w_t1 : (words1.take 24).all (fun c => isCode c || c.before args0 about1) = true := by decide +kernel
set_option maxRecDepth 65536 in
theorem w_t2 : ((words1.drop 24).take 24).all (fun c => isCode c || c.before args0 about1) = true := by decide +kernel
set_option maxRecDepth 65536 in
theorem w_t3 : ((words1.drop 24).drop 24).all (fun c => isCode c || c.before args0 about1) = true := by decide +kernel
theorem w_tables : (allAtoms (Jvm.Cond.code x code maxLocals ret :: tables_1)).before args0 about1 = true := by
  rw [allAtoms_all]
  show words1.all (fun c => c.before args0 about1) = true
  refine all_split ?_ w_codes
  rw [← List.take_append_drop 24 words1, List.all_append, w_t1, ← List.take_append_drop 24 (words1.drop 24), List.all_append, w_t2, w_t3]
  rfl
set_option maxRecDepth 65536 in
theorem w_case : (Jvm.Cond.and given_1 narrow_1).before args0 about1 = true := by decide +kernel
theorem w_applies : (headSpec (Jvm.Cond.code x code maxLocals ret :: tables_1) room_1).applies x e0.platform about1 = true :=
  (Spec.applies_iff w_frames).mpr ⟨w_running, w_runnable, w_alone, w_named, w_hears, w_ripe, w_room, w_tables⟩
theorem atStart : AtStart classFile x code maxLocals ret World_1 tables_1 room_1 Calls_1 rest_1 Pre_1 launch0 p0 e0 about1 theMethod args0 below0 :=
  ⟨lists_1, trivial, launch0.admits_env _ _ _, launch0.least_env, fairChoices_fair.cas, fairChoices_fair.clock, w_frames, w_args, w_heap, w_applies, trivial, trivial, w_case⟩
end start1
theorem witness_1 : WitnessClaimed_1 := ⟨start1.p0, start1.e0, start1.about1, start1.theMethod, start1.args0, start1.below0, start1.atStart⟩
end Jvm.Pilot.@@N@@
