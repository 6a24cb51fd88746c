import JvmDerived
import JvmDerived.Pilot.@@N@@Statement
import JvmDerived.Pilot.@@N@@Code
set_option linter.unusedVariables false
set_option linter.unusedSimpArgs false
namespace Jvm.Pilot.@@N@@
open Jvm Jvm.ClassFile Sem Op Lib Jvm.Free Jvm.Stand Jvm.LawKit Jvm.RoadKit Bundle Jvm.Pilot.@@N@@.Jvm.D
theorem wd {d : Jvm.Cond} (i : Nat) (h : tables_1[i]? = some d) : d ∈ tables_1 := List.mem_of_getElem? h
def Go (tb : Tables) (e : Env) (below : List Frame) (S0 S : State) : Prop := ∀ t, Steps tb e below S t → Steps tb e below S0 t
theorem own_old_le {Z : State} {n0 : Nat} {h : Heap} (O : Old Z n0 h) : n0 ≤ h.size := O.1 ▸ O.2.1
theorem own_lcmp_self (x : Int64) : lcmpW x x = 0 := by rw [lcW, lc_eq]
theorem own_ne {Z : State} {h : Heap} {a b : Addr} {C n d : String} {i j : Int32} (F : Fld Z h a C n d (.int i)) (G : Fld Z h b C n d (.int j)) (q : i ≠ j) : a ≠ b := F.ne G fun e => q (Value.int.inj e)
theorem own_narrow_ref {v : Value} {n : String} (h : v.isRef = true) : narrow (.object n) v = v := by rcases ref_cases h with rfl | ⟨_, rfl⟩ <;> rfl
theorem own_fits_ref {v : Value} {n : String} (h : v.isRef = true) : fits (.object n) v = true := by rcases ref_cases h with rfl | ⟨_, rfl⟩ <;> rfl
theorem own_narrow_bool {z : Int32} (h : z = 0 ∨ z = 1) : narrow .boolean (.int z) = .int z := by rcases h with rfl | rfl <;> rfl
theorem own_fits_bool {z : Int32} (h : z = 0 ∨ z = 1) : fits .boolean (.int z) = true := by rcases h with rfl | rfl <;> rfl
def QV (w : Option Value) (h0 : Heap) (n0 : Nat) (v : Option Value) (h : Heap) (L : List Loc) : Prop := v = w ∧ Fr n0 L ∧ h = h0
def Q0 (n0 : Nat) (v : Option Value) (h : Heap) (L : List Loc) : Prop := v = some (.int (1 : Int32)) ∧ Fr n0 L
abbrev y_0 : MethodName := ⟨"com/example/nkdb/nkdb/transaction/LockKindCoversPinLaw", "hasRow", "(I)Z"⟩
abbrev y_1 : MethodName := ⟨"com/example/nkdb/nkdb/transaction/LockKindCoversPinLaw", "hasGap", "(I)Z"⟩
abbrev y_2 : MethodName := ⟨"com/example/nkdb/nkdb/transaction/LockKindCoversPinLaw", "kind", "(I)Lcom/example/nkdb/nkdb/transaction/LockKind;"⟩
abbrev y_3 : MethodName := ⟨"com/example/nkdb/nkdb/transaction/LockKind", "covers", "(Lcom/example/nkdb/nkdb/transaction/LockKind;Z)Z"⟩
theorem d1_0 : decode method_2_code 0 = .ok (.iconst 4, 1) := by decide +kernel
theorem d1_1 : decode method_2_code 1 = .ok (.anewarray 7, 3) := by decide +kernel
theorem d1_4 : decode method_2_code 4 = .ok (.dup, 1) := by decide +kernel
theorem d1_5 : decode method_2_code 5 = .ok (.iconst 0, 1) := by decide +kernel
theorem d1_6 : decode method_2_code 6 = .ok (.getstatic 9, 3) := by decide +kernel
theorem d1_9 : decode method_2_code 9 = .ok (.aastore, 1) := by decide +kernel
theorem d1_10 : decode method_2_code 10 = .ok (.dup, 1) := by decide +kernel
theorem d1_11 : decode method_2_code 11 = .ok (.iconst 1, 1) := by decide +kernel
theorem d1_12 : decode method_2_code 12 = .ok (.getstatic 13, 3) := by decide +kernel
theorem d1_15 : decode method_2_code 15 = .ok (.aastore, 1) := by decide +kernel
theorem d1_16 : decode method_2_code 16 = .ok (.dup, 1) := by decide +kernel
theorem d1_17 : decode method_2_code 17 = .ok (.iconst 2, 1) := by decide +kernel
theorem d1_18 : decode method_2_code 18 = .ok (.getstatic 16, 3) := by decide +kernel
theorem d1_21 : decode method_2_code 21 = .ok (.aastore, 1) := by decide +kernel
theorem d1_22 : decode method_2_code 22 = .ok (.dup, 1) := by decide +kernel
theorem d1_23 : decode method_2_code 23 = .ok (.iconst 3, 1) := by decide +kernel
theorem d1_24 : decode method_2_code 24 = .ok (.getstatic 19, 3) := by decide +kernel
theorem d1_27 : decode method_2_code 27 = .ok (.aastore, 1) := by decide +kernel
theorem d1_28 : decode method_2_code 28 = .ok (.astore_n 1, 1) := by decide +kernel
theorem d1_29 : decode method_2_code 29 = .ok (.aload_n 1, 1) := by decide +kernel
theorem d1_30 : decode method_2_code 30 = .ok (.iload_n 0, 1) := by decide +kernel
theorem d1_31 : decode method_2_code 31 = .ok (.iconst 3, 1) := by decide +kernel
theorem d1_32 : decode method_2_code 32 = .ok (.iand, 1) := by decide +kernel
theorem d1_33 : decode method_2_code 33 = .ok (.aaload, 1) := by decide +kernel
theorem d1_34 : decode method_2_code 34 = .ok (.areturn, 1) := by decide +kernel
theorem d2_0 : decode prog_87_method_5_code 0 = .ok (.aload_n 0, 1) := by decide +kernel
theorem d2_1 : decode prog_87_method_5_code 1 = .ok (.getstatic 13, 3) := by decide +kernel
theorem d2_4 : decode prog_87_method_5_code 4 = .ok (.if_acmp .eq 10, 3) := by decide +kernel
theorem d2_7 : decode prog_87_method_5_code 7 = .ok (.aload_n 1, 1) := by decide +kernel
theorem d2_8 : decode prog_87_method_5_code 8 = .ok (.getstatic 13, 3) := by decide +kernel
theorem d2_11 : decode prog_87_method_5_code 11 = .ok (.if_acmp .ne 8, 3) := by decide +kernel
theorem d2_14 : decode prog_87_method_5_code 14 = .ok (.iconst 0, 1) := by decide +kernel
theorem d2_15 : decode prog_87_method_5_code 15 = .ok (.istore_n 3, 1) := by decide +kernel
theorem d2_16 : decode prog_87_method_5_code 16 = .ok (.goto 25, 3) := by decide +kernel
theorem d2_19 : decode prog_87_method_5_code 19 = .ok (.iload_n 2, 1) := by decide +kernel
theorem d2_20 : decode prog_87_method_5_code 20 = .ok (.ifCond .ne 15, 3) := by decide +kernel
theorem d2_23 : decode prog_87_method_5_code 23 = .ok (.aload_n 0, 1) := by decide +kernel
theorem d2_24 : decode prog_87_method_5_code 24 = .ok (.getstatic 3, 3) := by decide +kernel
theorem d2_27 : decode prog_87_method_5_code 27 = .ok (.if_acmp .eq 8, 3) := by decide +kernel
theorem d2_30 : decode prog_87_method_5_code 30 = .ok (.aload_n 0, 1) := by decide +kernel
theorem d2_31 : decode prog_87_method_5_code 31 = .ok (.aload_n 1, 1) := by decide +kernel
theorem d2_32 : decode prog_87_method_5_code 32 = .ok (.if_acmp .ne 7, 3) := by decide +kernel
theorem d2_35 : decode prog_87_method_5_code 35 = .ok (.iconst 1, 1) := by decide +kernel
theorem d2_36 : decode prog_87_method_5_code 36 = .ok (.goto 4, 3) := by decide +kernel
theorem d2_39 : decode prog_87_method_5_code 39 = .ok (.iconst 0, 1) := by decide +kernel
theorem d2_40 : decode prog_87_method_5_code 40 = .ok (.istore_n 3, 1) := by decide +kernel
theorem d2_41 : decode prog_87_method_5_code 41 = .ok (.iload_n 3, 1) := by decide +kernel
theorem d2_42 : decode prog_87_method_5_code 42 = .ok (.ireturn, 1) := by decide +kernel
theorem d3_0 : decode method_4_code 0 = .ok (.iload_n 0, 1) := by decide +kernel
theorem d3_1 : decode method_4_code 1 = .ok (.ifCond .eq 8, 3) := by decide +kernel
theorem d3_4 : decode method_4_code 4 = .ok (.iload_n 0, 1) := by decide +kernel
theorem d3_5 : decode method_4_code 5 = .ok (.iconst 2, 1) := by decide +kernel
theorem d3_6 : decode method_4_code 6 = .ok (.if_icmp .ne 7, 3) := by decide +kernel
theorem d3_9 : decode method_4_code 9 = .ok (.iconst 1, 1) := by decide +kernel
theorem d3_10 : decode method_4_code 10 = .ok (.goto 4, 3) := by decide +kernel
theorem d3_13 : decode method_4_code 13 = .ok (.iconst 0, 1) := by decide +kernel
theorem d3_14 : decode method_4_code 14 = .ok (.ireturn, 1) := by decide +kernel
theorem d4_0 : decode method_3_code 0 = .ok (.iload_n 0, 1) := by decide +kernel
theorem d4_1 : decode method_3_code 1 = .ok (.ifCond .eq 8, 3) := by decide +kernel
theorem d4_4 : decode method_3_code 4 = .ok (.iload_n 0, 1) := by decide +kernel
theorem d4_5 : decode method_3_code 5 = .ok (.iconst 1, 1) := by decide +kernel
theorem d4_6 : decode method_3_code 6 = .ok (.if_icmp .ne 7, 3) := by decide +kernel
theorem d4_9 : decode method_3_code 9 = .ok (.iconst 1, 1) := by decide +kernel
theorem d4_10 : decode method_3_code 10 = .ok (.goto 4, 3) := by decide +kernel
theorem d4_13 : decode method_3_code 13 = .ok (.iconst 0, 1) := by decide +kernel
theorem d4_14 : decode method_3_code 14 = .ok (.ireturn, 1) := by decide +kernel
theorem pn_0 : plainName "com/example/nkdb/nkdb/transaction/LockKindCoversPinLaw" = true := by first | (simp [plainName, overriddenIn]; done) | decide +kernel
theorem pn_1 : plainName "com/example/nkdb/nkdb/transaction/LockKind" = true := by first | (simp [plainName, overriddenIn]; done) | decide +kernel
theorem pd_0 : parseMethodDescriptor "(I)Z" = some ⟨[.int], some .boolean⟩ := by decide +kernel
theorem pd_1 : parseMethodDescriptor "(I)Lcom/example/nkdb/nkdb/transaction/LockKind;" = some ⟨[.int], some (.object "com/example/nkdb/nkdb/transaction/LockKind")⟩ := by decide +kernel
theorem pd_2 : parseMethodDescriptor "(Lcom/example/nkdb/nkdb/transaction/LockKind;Z)Z" = some ⟨[(.object "com/example/nkdb/nkdb/transaction/LockKind"), .boolean], some .boolean⟩ := by decide +kernel
theorem own_cases_4 {y : Int32} (h0 : 0 ≤ y.toInt) (h1 : y.toInt < 4) : y = 0 ∨ y = 1 ∨ y = 2 ∨ y = 3 := by
  have h : y.toInt = 0 ∨ y.toInt = 1 ∨ y.toInt = 2 ∨ y.toInt = 3 := by omega
  rcases h with h | h | h | h
  · exact (Or.inl (Int32.toInt_inj.mp (h.trans (show (0 : Int) = (0 : Int32).toInt from by decide))))
  · exact (Or.inr (Or.inl (Int32.toInt_inj.mp (h.trans (show (1 : Int) = (1 : Int32).toInt from by decide)))))
  · exact (Or.inr (Or.inr (Or.inl (Int32.toInt_inj.mp (h.trans (show (2 : Int) = (2 : Int32).toInt from by decide))))))
  · exact (Or.inr (Or.inr (Or.inr (Int32.toInt_inj.mp (h.trans (show (3 : Int) = (3 : Int32).toInt from by decide))))))
theorem own_mask_4 (x : Int32) : x &&& 3 = 0 ∨ x &&& 3 = 1 ∨ x &&& 3 = 2 ∨ x &&& 3 = 3 := by
  have h := c_and x 3 (by decide)
  have e : (3 : Int32).toInt = 3 := by decide
  exact own_cases_4 h.1 (by omega)
def Own (Z : State) (a_NEXT_KEY a_GAP a_RECORD a_INSERT_INTENTION : Addr) : Prop := Sta Z Z.heap "com/example/nkdb/nkdb/transaction/LockKind" "NEXT_KEY" "Lcom/example/nkdb/nkdb/transaction/LockKind;" (.ref a_NEXT_KEY) ∧ Exa Z Z.heap a_NEXT_KEY "com/example/nkdb/nkdb/transaction/LockKind" ∧ Sta Z Z.heap "com/example/nkdb/nkdb/transaction/LockKind" "GAP" "Lcom/example/nkdb/nkdb/transaction/LockKind;" (.ref a_GAP) ∧ Exa Z Z.heap a_GAP "com/example/nkdb/nkdb/transaction/LockKind" ∧ Sta Z Z.heap "com/example/nkdb/nkdb/transaction/LockKind" "RECORD" "Lcom/example/nkdb/nkdb/transaction/LockKind;" (.ref a_RECORD) ∧ Exa Z Z.heap a_RECORD "com/example/nkdb/nkdb/transaction/LockKind" ∧ Sta Z Z.heap "com/example/nkdb/nkdb/transaction/LockKind" "INSERT_INTENTION" "Lcom/example/nkdb/nkdb/transaction/LockKind;" (.ref a_INSERT_INTENTION) ∧ Exa Z Z.heap a_INSERT_INTENTION "com/example/nkdb/nkdb/transaction/LockKind" ∧ Fld Z Z.heap a_NEXT_KEY "java/lang/Enum" "ordinal" "I" (.int 0) ∧ Fld Z Z.heap a_INSERT_INTENTION "java/lang/Enum" "ordinal" "I" (.int 3) ∧ Fld Z Z.heap a_GAP "java/lang/Enum" "ordinal" "I" (.int 1) ∧ Fld Z Z.heap a_RECORD "java/lang/Enum" "ordinal" "I" (.int 2)
theorem own_fld {args : Array Value} {s : State} {t : Term} {C n d : String} {a : Addr} {k : Int32} (ev : t.eval args s none [] s = some (.ref a)) (h : (Jvm.Cond.eq (.field t C n d) (.int k)).value args s none s [] = some true) : Fld s s.heap a C n d (.int k) := by
  refine Fld.start ?_
  obtain ⟨u, w, h1, h2, h3, h4⟩ := cmp_v (Or.inl h)
  have e2 : w = .int k := (Option.some.inj h2).symm
  subst e2
  obtain ⟨z, rfl⟩ := h4
  rw [fld_at ev] at h1
  rw [h1]
  have q : (Jvm.Cond.eq (.field t C n d) (.int k)).value args s none s [] = some (decide (z = k)) := by simp [Cond.value, Term.eval, ev, h1]
  have := gotT q h
  rw [this]
def QK (h0 : Heap) (n0 : Nat) (a : Addr) (v : Option Value) (h : Heap) (L : List Loc) : Prop := v = some (.ref a) ∧ Fr n0 L ∧ Keep h0 h []
set_option maxRecDepth 65536 in
set_option maxHeartbeats 40000000 in
theorem hr_0 (l : Launch) (Z : State) (a0 : Array Value) (hw : ∀ d ∈ tables_1, d.before a0 Z = true) (ws : List Jvm.Cond) (a_NEXT_KEY a_GAP a_RECORD a_INSERT_INTENTION : Addr) (G : Own Z a_NEXT_KEY a_GAP a_RECORD a_INSERT_INTENTION)  (h0 : Heap) (n0 : Nat) (O0 : Old Z n0 h0)  :
    MetFree l y_0 (head1 (Jvm.Cond.code y_0 method_4_code 1 (some .boolean) :: ws) ({ frames := 0, cells := 0, slots := 0, locals := 0 } : Room)) (fun a U => a = #[(.int 0)] ∧ Z.Warmed39 U.vm ∧ U.heap = h0) (fun _ _ _ _ _ => True) (fun _ U o U' => ∃ v L, o = .returned v ∧ QV (some (.int 1)) h0 n0 v U'.heap L ∧ FrameEnd U o U' L ({ frames := 0, cells := 0, slots := 0, locals := 0 } : Room).cells ({ frames := 0, cells := 0, slots := 0, locals := 0 } : Room).slots) := by
  refine MetFree.of_bodySF (plainFor_of_name pn_0) hisR ?_
  intro p e s m args below meth c s₁ Bd hml0 hP hK
  obtain ⟨rfl, hZ, hh⟩ := hP
  have hx := Bd.exec
  have hby := Bd.bytes
  have hml : c.maxLocals = 1 := hml0
  have hown : s.vm.findClass "com/example/nkdb/nkdb/transaction/LockKindCoversPinLaw" = some m.cls := findClass_of_methodNamed Bd.named
  have hnm := (name_of_methodNamed Bd.named Bd.method).1
  have X0 : Stand p l e ({ frames := 0, cells := 0, slots := 0, locals := 0 } : Room) s m #[(.int 0)] below meth c s₁ [] 0 0 := Stand.of_body Bd
  have e0 : s₁.heap = h0 := by rw [← hh, Bd.state]; rfl
  have N0 := Fr.nil n0
  have K0 := Keep.refl h0 []
  have k0 : Go p.tables e below (s₁.setTop (entryFrame m #[(.int 0)] 1)) (s₁.setTop (mkF m 0 #[iv 0] [])) := fun t k => castTop (by first | rfl | (simp [entryFrame, mkF, argsToLocals, Value.category]; done)) k
  have ⟨S_NEXT_KEY, E_NEXT_KEY, S_GAP, E_GAP, S_RECORD, E_RECORD, S_INSERT_INTENTION, E_INSERT_INTENTION, R_NEXT_KEY_ordinal, R_INSERT_INTENTION_ordinal, R_GAP_ordinal, R_RECORD_ordinal⟩ := G
  have k_1 : Go p.tables e below (s₁.setTop (entryFrame m #[(.int 0)] 1)) (s₁.setTop (mkF m 14 #[iv 0] [(.int 1)])) := fun t q => by
    refine k0 t ?_
    refine XS.iloadN X0.here hx rfl (hb hby d3_0) rfl ?_
    show Steps _ _ _ (s₁.setTop (mkF m 1 #[iv 0] [(.int 0)])) _
    refine XS.ifYes X0.here hx rfl (pc0 := 1) (pc' := 9) rfl (hb hby d3_1) rfl (by decide) (by decide) (by decide) ?_
    show Steps _ _ _ (s₁.setTop (mkF m 9 #[iv 0] [])) _
    refine XS.iconst X0.here hx rfl (hb hby d3_9) ?_
    show Steps _ _ _ (s₁.setTop (mkF m 10 #[iv 0] [(.int 1)])) _
    refine XS.goto X0.here hx rfl (pc0 := 10) (pc' := 14) rfl (hb hby d3_10) (by decide) (by decide) ?_
    show Steps _ _ _ (s₁.setTop (mkF m 14 #[iv 0] [(.int 1)])) _
    exact q
  obtain ⟨fs, hr, hrun, hended, hW, hsame⟩ := X0.leave (v := some (.int 1)) (fun h => by rw [Bd.returns] at h; cases h)
  refine ⟨_, _, k_1 _ ?_, hrun, hended, _, _, rfl, ?_, ⟨_, rfl⟩, hW, hsame.mono (by decide) (by decide)⟩
  · exact retN X0 hx (t := .boolean) Bd.returns (by simp) (hb hby d3_14) hr
  · show QV (some (.int 1)) h0 n0 _ s₁.heap _
    rw [e0]
    exact ⟨rfl, N0, rfl⟩
set_option maxRecDepth 65536 in
set_option maxHeartbeats 40000000 in
theorem hg_0 (l : Launch) (Z : State) (a0 : Array Value) (hw : ∀ d ∈ tables_1, d.before a0 Z = true) (ws : List Jvm.Cond) (a_NEXT_KEY a_GAP a_RECORD a_INSERT_INTENTION : Addr) (G : Own Z a_NEXT_KEY a_GAP a_RECORD a_INSERT_INTENTION)  (h0 : Heap) (n0 : Nat) (O0 : Old Z n0 h0)  :
    MetFree l y_1 (head1 (Jvm.Cond.code y_1 method_3_code 1 (some .boolean) :: ws) ({ frames := 0, cells := 0, slots := 0, locals := 0 } : Room)) (fun a U => a = #[(.int 0)] ∧ Z.Warmed39 U.vm ∧ U.heap = h0) (fun _ _ _ _ _ => True) (fun _ U o U' => ∃ v L, o = .returned v ∧ QV (some (.int 1)) h0 n0 v U'.heap L ∧ FrameEnd U o U' L ({ frames := 0, cells := 0, slots := 0, locals := 0 } : Room).cells ({ frames := 0, cells := 0, slots := 0, locals := 0 } : Room).slots) := by
  refine MetFree.of_bodySF (plainFor_of_name pn_0) hisR ?_
  intro p e s m args below meth c s₁ Bd hml0 hP hK
  obtain ⟨rfl, hZ, hh⟩ := hP
  have hx := Bd.exec
  have hby := Bd.bytes
  have hml : c.maxLocals = 1 := hml0
  have hown : s.vm.findClass "com/example/nkdb/nkdb/transaction/LockKindCoversPinLaw" = some m.cls := findClass_of_methodNamed Bd.named
  have hnm := (name_of_methodNamed Bd.named Bd.method).1
  have X0 : Stand p l e ({ frames := 0, cells := 0, slots := 0, locals := 0 } : Room) s m #[(.int 0)] below meth c s₁ [] 0 0 := Stand.of_body Bd
  have e0 : s₁.heap = h0 := by rw [← hh, Bd.state]; rfl
  have N0 := Fr.nil n0
  have K0 := Keep.refl h0 []
  have k0 : Go p.tables e below (s₁.setTop (entryFrame m #[(.int 0)] 1)) (s₁.setTop (mkF m 0 #[iv 0] [])) := fun t k => castTop (by first | rfl | (simp [entryFrame, mkF, argsToLocals, Value.category]; done)) k
  have ⟨S_NEXT_KEY, E_NEXT_KEY, S_GAP, E_GAP, S_RECORD, E_RECORD, S_INSERT_INTENTION, E_INSERT_INTENTION, R_NEXT_KEY_ordinal, R_INSERT_INTENTION_ordinal, R_GAP_ordinal, R_RECORD_ordinal⟩ := G
  have k_2 : Go p.tables e below (s₁.setTop (entryFrame m #[(.int 0)] 1)) (s₁.setTop (mkF m 14 #[iv 0] [(.int 1)])) := fun t q => by
    refine k0 t ?_
    refine XS.iloadN X0.here hx rfl (hb hby d4_0) rfl ?_
    show Steps _ _ _ (s₁.setTop (mkF m 1 #[iv 0] [(.int 0)])) _
    refine XS.ifYes X0.here hx rfl (pc0 := 1) (pc' := 9) rfl (hb hby d4_1) rfl (by decide) (by decide) (by decide) ?_
    show Steps _ _ _ (s₁.setTop (mkF m 9 #[iv 0] [])) _
    refine XS.iconst X0.here hx rfl (hb hby d4_9) ?_
    show Steps _ _ _ (s₁.setTop (mkF m 10 #[iv 0] [(.int 1)])) _
    refine XS.goto X0.here hx rfl (pc0 := 10) (pc' := 14) rfl (hb hby d4_10) (by decide) (by decide) ?_
    show Steps _ _ _ (s₁.setTop (mkF m 14 #[iv 0] [(.int 1)])) _
    exact q
  obtain ⟨fs, hr, hrun, hended, hW, hsame⟩ := X0.leave (v := some (.int 1)) (fun h => by rw [Bd.returns] at h; cases h)
  refine ⟨_, _, k_2 _ ?_, hrun, hended, _, _, rfl, ?_, ⟨_, rfl⟩, hW, hsame.mono (by decide) (by decide)⟩
  · exact retN X0 hx (t := .boolean) Bd.returns (by simp) (hb hby d4_14) hr
  · show QV (some (.int 1)) h0 n0 _ s₁.heap _
    rw [e0]
    exact ⟨rfl, N0, rfl⟩
set_option maxRecDepth 65536 in
set_option maxHeartbeats 40000000 in
theorem hr_1 (l : Launch) (Z : State) (a0 : Array Value) (hw : ∀ d ∈ tables_1, d.before a0 Z = true) (ws : List Jvm.Cond) (a_NEXT_KEY a_GAP a_RECORD a_INSERT_INTENTION : Addr) (G : Own Z a_NEXT_KEY a_GAP a_RECORD a_INSERT_INTENTION)  (h0 : Heap) (n0 : Nat) (O0 : Old Z n0 h0)  :
    MetFree l y_0 (head1 (Jvm.Cond.code y_0 method_4_code 1 (some .boolean) :: ws) ({ frames := 0, cells := 0, slots := 0, locals := 0 } : Room)) (fun a U => a = #[(.int 1)] ∧ Z.Warmed39 U.vm ∧ U.heap = h0) (fun _ _ _ _ _ => True) (fun _ U o U' => ∃ v L, o = .returned v ∧ QV (some (.int 0)) h0 n0 v U'.heap L ∧ FrameEnd U o U' L ({ frames := 0, cells := 0, slots := 0, locals := 0 } : Room).cells ({ frames := 0, cells := 0, slots := 0, locals := 0 } : Room).slots) := by
  refine MetFree.of_bodySF (plainFor_of_name pn_0) hisR ?_
  intro p e s m args below meth c s₁ Bd hml0 hP hK
  obtain ⟨rfl, hZ, hh⟩ := hP
  have hx := Bd.exec
  have hby := Bd.bytes
  have hml : c.maxLocals = 1 := hml0
  have hown : s.vm.findClass "com/example/nkdb/nkdb/transaction/LockKindCoversPinLaw" = some m.cls := findClass_of_methodNamed Bd.named
  have hnm := (name_of_methodNamed Bd.named Bd.method).1
  have X0 : Stand p l e ({ frames := 0, cells := 0, slots := 0, locals := 0 } : Room) s m #[(.int 1)] below meth c s₁ [] 0 0 := Stand.of_body Bd
  have e0 : s₁.heap = h0 := by rw [← hh, Bd.state]; rfl
  have N0 := Fr.nil n0
  have K0 := Keep.refl h0 []
  have k0 : Go p.tables e below (s₁.setTop (entryFrame m #[(.int 1)] 1)) (s₁.setTop (mkF m 0 #[iv 1] [])) := fun t k => castTop (by first | rfl | (simp [entryFrame, mkF, argsToLocals, Value.category]; done)) k
  have ⟨S_NEXT_KEY, E_NEXT_KEY, S_GAP, E_GAP, S_RECORD, E_RECORD, S_INSERT_INTENTION, E_INSERT_INTENTION, R_NEXT_KEY_ordinal, R_INSERT_INTENTION_ordinal, R_GAP_ordinal, R_RECORD_ordinal⟩ := G
  have k_3 : Go p.tables e below (s₁.setTop (entryFrame m #[(.int 1)] 1)) (s₁.setTop (mkF m 14 #[iv 1] [(.int 0)])) := fun t q => by
    refine k0 t ?_
    refine XS.iloadN X0.here hx rfl (hb hby d3_0) rfl ?_
    show Steps _ _ _ (s₁.setTop (mkF m 1 #[iv 1] [(.int 1)])) _
    refine XS.ifNo X0.here hx rfl (hb hby d3_1) rfl (by decide) ?_
    show Steps _ _ _ (s₁.setTop (mkF m 4 #[iv 1] [])) _
    refine XS.iloadN X0.here hx rfl (hb hby d3_4) rfl ?_
    show Steps _ _ _ (s₁.setTop (mkF m 5 #[iv 1] [(.int 1)])) _
    refine XS.iconst X0.here hx rfl (hb hby d3_5) ?_
    show Steps _ _ _ (s₁.setTop (mkF m 6 #[iv 1] [(.int 2), (.int 1)])) _
    refine XS.icmpYes X0.here hx rfl (pc0 := 6) (pc' := 13) rfl (hb hby d3_6) rfl (by decide) (by decide) (by decide) ?_
    show Steps _ _ _ (s₁.setTop (mkF m 13 #[iv 1] [])) _
    refine XS.iconst X0.here hx rfl (hb hby d3_13) ?_
    show Steps _ _ _ (s₁.setTop (mkF m 14 #[iv 1] [(.int 0)])) _
    exact q
  obtain ⟨fs, hr, hrun, hended, hW, hsame⟩ := X0.leave (v := some (.int 0)) (fun h => by rw [Bd.returns] at h; cases h)
  refine ⟨_, _, k_3 _ ?_, hrun, hended, _, _, rfl, ?_, ⟨_, rfl⟩, hW, hsame.mono (by decide) (by decide)⟩
  · exact retN X0 hx (t := .boolean) Bd.returns (by simp) (hb hby d3_14) hr
  · show QV (some (.int 0)) h0 n0 _ s₁.heap _
    rw [e0]
    exact ⟨rfl, N0, rfl⟩
set_option maxRecDepth 65536 in
set_option maxHeartbeats 40000000 in
theorem hg_1 (l : Launch) (Z : State) (a0 : Array Value) (hw : ∀ d ∈ tables_1, d.before a0 Z = true) (ws : List Jvm.Cond) (a_NEXT_KEY a_GAP a_RECORD a_INSERT_INTENTION : Addr) (G : Own Z a_NEXT_KEY a_GAP a_RECORD a_INSERT_INTENTION)  (h0 : Heap) (n0 : Nat) (O0 : Old Z n0 h0)  :
    MetFree l y_1 (head1 (Jvm.Cond.code y_1 method_3_code 1 (some .boolean) :: ws) ({ frames := 0, cells := 0, slots := 0, locals := 0 } : Room)) (fun a U => a = #[(.int 1)] ∧ Z.Warmed39 U.vm ∧ U.heap = h0) (fun _ _ _ _ _ => True) (fun _ U o U' => ∃ v L, o = .returned v ∧ QV (some (.int 1)) h0 n0 v U'.heap L ∧ FrameEnd U o U' L ({ frames := 0, cells := 0, slots := 0, locals := 0 } : Room).cells ({ frames := 0, cells := 0, slots := 0, locals := 0 } : Room).slots) := by
  refine MetFree.of_bodySF (plainFor_of_name pn_0) hisR ?_
  intro p e s m args below meth c s₁ Bd hml0 hP hK
  obtain ⟨rfl, hZ, hh⟩ := hP
  have hx := Bd.exec
  have hby := Bd.bytes
  have hml : c.maxLocals = 1 := hml0
  have hown : s.vm.findClass "com/example/nkdb/nkdb/transaction/LockKindCoversPinLaw" = some m.cls := findClass_of_methodNamed Bd.named
  have hnm := (name_of_methodNamed Bd.named Bd.method).1
  have X0 : Stand p l e ({ frames := 0, cells := 0, slots := 0, locals := 0 } : Room) s m #[(.int 1)] below meth c s₁ [] 0 0 := Stand.of_body Bd
  have e0 : s₁.heap = h0 := by rw [← hh, Bd.state]; rfl
  have N0 := Fr.nil n0
  have K0 := Keep.refl h0 []
  have k0 : Go p.tables e below (s₁.setTop (entryFrame m #[(.int 1)] 1)) (s₁.setTop (mkF m 0 #[iv 1] [])) := fun t k => castTop (by first | rfl | (simp [entryFrame, mkF, argsToLocals, Value.category]; done)) k
  have ⟨S_NEXT_KEY, E_NEXT_KEY, S_GAP, E_GAP, S_RECORD, E_RECORD, S_INSERT_INTENTION, E_INSERT_INTENTION, R_NEXT_KEY_ordinal, R_INSERT_INTENTION_ordinal, R_GAP_ordinal, R_RECORD_ordinal⟩ := G
  have k_4 : Go p.tables e below (s₁.setTop (entryFrame m #[(.int 1)] 1)) (s₁.setTop (mkF m 14 #[iv 1] [(.int 1)])) := fun t q => by
    refine k0 t ?_
    refine XS.iloadN X0.here hx rfl (hb hby d4_0) rfl ?_
    show Steps _ _ _ (s₁.setTop (mkF m 1 #[iv 1] [(.int 1)])) _
    refine XS.ifNo X0.here hx rfl (hb hby d4_1) rfl (by decide) ?_
    show Steps _ _ _ (s₁.setTop (mkF m 4 #[iv 1] [])) _
    refine XS.iloadN X0.here hx rfl (hb hby d4_4) rfl ?_
    show Steps _ _ _ (s₁.setTop (mkF m 5 #[iv 1] [(.int 1)])) _
    refine XS.iconst X0.here hx rfl (hb hby d4_5) ?_
    show Steps _ _ _ (s₁.setTop (mkF m 6 #[iv 1] [(.int 1), (.int 1)])) _
    refine XS.icmpNo X0.here hx rfl (hb hby d4_6) rfl (by decide) ?_
    show Steps _ _ _ (s₁.setTop (mkF m 9 #[iv 1] [])) _
    refine XS.iconst X0.here hx rfl (hb hby d4_9) ?_
    show Steps _ _ _ (s₁.setTop (mkF m 10 #[iv 1] [(.int 1)])) _
    refine XS.goto X0.here hx rfl (pc0 := 10) (pc' := 14) rfl (hb hby d4_10) (by decide) (by decide) ?_
    show Steps _ _ _ (s₁.setTop (mkF m 14 #[iv 1] [(.int 1)])) _
    exact q
  obtain ⟨fs, hr, hrun, hended, hW, hsame⟩ := X0.leave (v := some (.int 1)) (fun h => by rw [Bd.returns] at h; cases h)
  refine ⟨_, _, k_4 _ ?_, hrun, hended, _, _, rfl, ?_, ⟨_, rfl⟩, hW, hsame.mono (by decide) (by decide)⟩
  · exact retN X0 hx (t := .boolean) Bd.returns (by simp) (hb hby d4_14) hr
  · show QV (some (.int 1)) h0 n0 _ s₁.heap _
    rw [e0]
    exact ⟨rfl, N0, rfl⟩
set_option maxRecDepth 65536 in
set_option maxHeartbeats 40000000 in
theorem hr_2 (l : Launch) (Z : State) (a0 : Array Value) (hw : ∀ d ∈ tables_1, d.before a0 Z = true) (ws : List Jvm.Cond) (a_NEXT_KEY a_GAP a_RECORD a_INSERT_INTENTION : Addr) (G : Own Z a_NEXT_KEY a_GAP a_RECORD a_INSERT_INTENTION)  (h0 : Heap) (n0 : Nat) (O0 : Old Z n0 h0)  :
    MetFree l y_0 (head1 (Jvm.Cond.code y_0 method_4_code 1 (some .boolean) :: ws) ({ frames := 0, cells := 0, slots := 0, locals := 0 } : Room)) (fun a U => a = #[(.int 2)] ∧ Z.Warmed39 U.vm ∧ U.heap = h0) (fun _ _ _ _ _ => True) (fun _ U o U' => ∃ v L, o = .returned v ∧ QV (some (.int 1)) h0 n0 v U'.heap L ∧ FrameEnd U o U' L ({ frames := 0, cells := 0, slots := 0, locals := 0 } : Room).cells ({ frames := 0, cells := 0, slots := 0, locals := 0 } : Room).slots) := by
  refine MetFree.of_bodySF (plainFor_of_name pn_0) hisR ?_
  intro p e s m args below meth c s₁ Bd hml0 hP hK
  obtain ⟨rfl, hZ, hh⟩ := hP
  have hx := Bd.exec
  have hby := Bd.bytes
  have hml : c.maxLocals = 1 := hml0
  have hown : s.vm.findClass "com/example/nkdb/nkdb/transaction/LockKindCoversPinLaw" = some m.cls := findClass_of_methodNamed Bd.named
  have hnm := (name_of_methodNamed Bd.named Bd.method).1
  have X0 : Stand p l e ({ frames := 0, cells := 0, slots := 0, locals := 0 } : Room) s m #[(.int 2)] below meth c s₁ [] 0 0 := Stand.of_body Bd
  have e0 : s₁.heap = h0 := by rw [← hh, Bd.state]; rfl
  have N0 := Fr.nil n0
  have K0 := Keep.refl h0 []
  have k0 : Go p.tables e below (s₁.setTop (entryFrame m #[(.int 2)] 1)) (s₁.setTop (mkF m 0 #[iv 2] [])) := fun t k => castTop (by first | rfl | (simp [entryFrame, mkF, argsToLocals, Value.category]; done)) k
  have ⟨S_NEXT_KEY, E_NEXT_KEY, S_GAP, E_GAP, S_RECORD, E_RECORD, S_INSERT_INTENTION, E_INSERT_INTENTION, R_NEXT_KEY_ordinal, R_INSERT_INTENTION_ordinal, R_GAP_ordinal, R_RECORD_ordinal⟩ := G
  have k_5 : Go p.tables e below (s₁.setTop (entryFrame m #[(.int 2)] 1)) (s₁.setTop (mkF m 14 #[iv 2] [(.int 1)])) := fun t q => by
    refine k0 t ?_
    refine XS.iloadN X0.here hx rfl (hb hby d3_0) rfl ?_
    show Steps _ _ _ (s₁.setTop (mkF m 1 #[iv 2] [(.int 2)])) _
    refine XS.ifNo X0.here hx rfl (hb hby d3_1) rfl (by decide) ?_
    show Steps _ _ _ (s₁.setTop (mkF m 4 #[iv 2] [])) _
    refine XS.iloadN X0.here hx rfl (hb hby d3_4) rfl ?_
    show Steps _ _ _ (s₁.setTop (mkF m 5 #[iv 2] [(.int 2)])) _
    refine XS.iconst X0.here hx rfl (hb hby d3_5) ?_
    show Steps _ _ _ (s₁.setTop (mkF m 6 #[iv 2] [(.int 2), (.int 2)])) _
    refine XS.icmpNo X0.here hx rfl (hb hby d3_6) rfl (by decide) ?_
    show Steps _ _ _ (s₁.setTop (mkF m 9 #[iv 2] [])) _
    refine XS.iconst X0.here hx rfl (hb hby d3_9) ?_
    show Steps _ _ _ (s₁.setTop (mkF m 10 #[iv 2] [(.int 1)])) _
    refine XS.goto X0.here hx rfl (pc0 := 10) (pc' := 14) rfl (hb hby d3_10) (by decide) (by decide) ?_
    show Steps _ _ _ (s₁.setTop (mkF m 14 #[iv 2] [(.int 1)])) _
    exact q
  obtain ⟨fs, hr, hrun, hended, hW, hsame⟩ := X0.leave (v := some (.int 1)) (fun h => by rw [Bd.returns] at h; cases h)
  refine ⟨_, _, k_5 _ ?_, hrun, hended, _, _, rfl, ?_, ⟨_, rfl⟩, hW, hsame.mono (by decide) (by decide)⟩
  · exact retN X0 hx (t := .boolean) Bd.returns (by simp) (hb hby d3_14) hr
  · show QV (some (.int 1)) h0 n0 _ s₁.heap _
    rw [e0]
    exact ⟨rfl, N0, rfl⟩
set_option maxRecDepth 65536 in
set_option maxHeartbeats 40000000 in
theorem hg_2 (l : Launch) (Z : State) (a0 : Array Value) (hw : ∀ d ∈ tables_1, d.before a0 Z = true) (ws : List Jvm.Cond) (a_NEXT_KEY a_GAP a_RECORD a_INSERT_INTENTION : Addr) (G : Own Z a_NEXT_KEY a_GAP a_RECORD a_INSERT_INTENTION)  (h0 : Heap) (n0 : Nat) (O0 : Old Z n0 h0)  :
    MetFree l y_1 (head1 (Jvm.Cond.code y_1 method_3_code 1 (some .boolean) :: ws) ({ frames := 0, cells := 0, slots := 0, locals := 0 } : Room)) (fun a U => a = #[(.int 2)] ∧ Z.Warmed39 U.vm ∧ U.heap = h0) (fun _ _ _ _ _ => True) (fun _ U o U' => ∃ v L, o = .returned v ∧ QV (some (.int 0)) h0 n0 v U'.heap L ∧ FrameEnd U o U' L ({ frames := 0, cells := 0, slots := 0, locals := 0 } : Room).cells ({ frames := 0, cells := 0, slots := 0, locals := 0 } : Room).slots) := by
  refine MetFree.of_bodySF (plainFor_of_name pn_0) hisR ?_
  intro p e s m args below meth c s₁ Bd hml0 hP hK
  obtain ⟨rfl, hZ, hh⟩ := hP
  have hx := Bd.exec
  have hby := Bd.bytes
  have hml : c.maxLocals = 1 := hml0
  have hown : s.vm.findClass "com/example/nkdb/nkdb/transaction/LockKindCoversPinLaw" = some m.cls := findClass_of_methodNamed Bd.named
  have hnm := (name_of_methodNamed Bd.named Bd.method).1
  have X0 : Stand p l e ({ frames := 0, cells := 0, slots := 0, locals := 0 } : Room) s m #[(.int 2)] below meth c s₁ [] 0 0 := Stand.of_body Bd
  have e0 : s₁.heap = h0 := by rw [← hh, Bd.state]; rfl
  have N0 := Fr.nil n0
  have K0 := Keep.refl h0 []
  have k0 : Go p.tables e below (s₁.setTop (entryFrame m #[(.int 2)] 1)) (s₁.setTop (mkF m 0 #[iv 2] [])) := fun t k => castTop (by first | rfl | (simp [entryFrame, mkF, argsToLocals, Value.category]; done)) k
  have ⟨S_NEXT_KEY, E_NEXT_KEY, S_GAP, E_GAP, S_RECORD, E_RECORD, S_INSERT_INTENTION, E_INSERT_INTENTION, R_NEXT_KEY_ordinal, R_INSERT_INTENTION_ordinal, R_GAP_ordinal, R_RECORD_ordinal⟩ := G
  have k_6 : Go p.tables e below (s₁.setTop (entryFrame m #[(.int 2)] 1)) (s₁.setTop (mkF m 14 #[iv 2] [(.int 0)])) := fun t q => by
    refine k0 t ?_
    refine XS.iloadN X0.here hx rfl (hb hby d4_0) rfl ?_
    show Steps _ _ _ (s₁.setTop (mkF m 1 #[iv 2] [(.int 2)])) _
    refine XS.ifNo X0.here hx rfl (hb hby d4_1) rfl (by decide) ?_
    show Steps _ _ _ (s₁.setTop (mkF m 4 #[iv 2] [])) _
    refine XS.iloadN X0.here hx rfl (hb hby d4_4) rfl ?_
    show Steps _ _ _ (s₁.setTop (mkF m 5 #[iv 2] [(.int 2)])) _
    refine XS.iconst X0.here hx rfl (hb hby d4_5) ?_
    show Steps _ _ _ (s₁.setTop (mkF m 6 #[iv 2] [(.int 1), (.int 2)])) _
    refine XS.icmpYes X0.here hx rfl (pc0 := 6) (pc' := 13) rfl (hb hby d4_6) rfl (by decide) (by decide) (by decide) ?_
    show Steps _ _ _ (s₁.setTop (mkF m 13 #[iv 2] [])) _
    refine XS.iconst X0.here hx rfl (hb hby d4_13) ?_
    show Steps _ _ _ (s₁.setTop (mkF m 14 #[iv 2] [(.int 0)])) _
    exact q
  obtain ⟨fs, hr, hrun, hended, hW, hsame⟩ := X0.leave (v := some (.int 0)) (fun h => by rw [Bd.returns] at h; cases h)
  refine ⟨_, _, k_6 _ ?_, hrun, hended, _, _, rfl, ?_, ⟨_, rfl⟩, hW, hsame.mono (by decide) (by decide)⟩
  · exact retN X0 hx (t := .boolean) Bd.returns (by simp) (hb hby d4_14) hr
  · show QV (some (.int 0)) h0 n0 _ s₁.heap _
    rw [e0]
    exact ⟨rfl, N0, rfl⟩
set_option maxRecDepth 65536 in
set_option maxHeartbeats 40000000 in
theorem hr_3 (l : Launch) (Z : State) (a0 : Array Value) (hw : ∀ d ∈ tables_1, d.before a0 Z = true) (ws : List Jvm.Cond) (a_NEXT_KEY a_GAP a_RECORD a_INSERT_INTENTION : Addr) (G : Own Z a_NEXT_KEY a_GAP a_RECORD a_INSERT_INTENTION)  (h0 : Heap) (n0 : Nat) (O0 : Old Z n0 h0)  :
    MetFree l y_0 (head1 (Jvm.Cond.code y_0 method_4_code 1 (some .boolean) :: ws) ({ frames := 0, cells := 0, slots := 0, locals := 0 } : Room)) (fun a U => a = #[(.int 3)] ∧ Z.Warmed39 U.vm ∧ U.heap = h0) (fun _ _ _ _ _ => True) (fun _ U o U' => ∃ v L, o = .returned v ∧ QV (some (.int 0)) h0 n0 v U'.heap L ∧ FrameEnd U o U' L ({ frames := 0, cells := 0, slots := 0, locals := 0 } : Room).cells ({ frames := 0, cells := 0, slots := 0, locals := 0 } : Room).slots) := by
  refine MetFree.of_bodySF (plainFor_of_name pn_0) hisR ?_
  intro p e s m args below meth c s₁ Bd hml0 hP hK
  obtain ⟨rfl, hZ, hh⟩ := hP
  have hx := Bd.exec
  have hby := Bd.bytes
  have hml : c.maxLocals = 1 := hml0
  have hown : s.vm.findClass "com/example/nkdb/nkdb/transaction/LockKindCoversPinLaw" = some m.cls := findClass_of_methodNamed Bd.named
  have hnm := (name_of_methodNamed Bd.named Bd.method).1
  have X0 : Stand p l e ({ frames := 0, cells := 0, slots := 0, locals := 0 } : Room) s m #[(.int 3)] below meth c s₁ [] 0 0 := Stand.of_body Bd
  have e0 : s₁.heap = h0 := by rw [← hh, Bd.state]; rfl
  have N0 := Fr.nil n0
  have K0 := Keep.refl h0 []
  have k0 : Go p.tables e below (s₁.setTop (entryFrame m #[(.int 3)] 1)) (s₁.setTop (mkF m 0 #[iv 3] [])) := fun t k => castTop (by first | rfl | (simp [entryFrame, mkF, argsToLocals, Value.category]; done)) k
  have ⟨S_NEXT_KEY, E_NEXT_KEY, S_GAP, E_GAP, S_RECORD, E_RECORD, S_INSERT_INTENTION, E_INSERT_INTENTION, R_NEXT_KEY_ordinal, R_INSERT_INTENTION_ordinal, R_GAP_ordinal, R_RECORD_ordinal⟩ := G
  have k_7 : Go p.tables e below (s₁.setTop (entryFrame m #[(.int 3)] 1)) (s₁.setTop (mkF m 14 #[iv 3] [(.int 0)])) := fun t q => by
    refine k0 t ?_
    refine XS.iloadN X0.here hx rfl (hb hby d3_0) rfl ?_
    show Steps _ _ _ (s₁.setTop (mkF m 1 #[iv 3] [(.int 3)])) _
    refine XS.ifNo X0.here hx rfl (hb hby d3_1) rfl (by decide) ?_
    show Steps _ _ _ (s₁.setTop (mkF m 4 #[iv 3] [])) _
    refine XS.iloadN X0.here hx rfl (hb hby d3_4) rfl ?_
    show Steps _ _ _ (s₁.setTop (mkF m 5 #[iv 3] [(.int 3)])) _
    refine XS.iconst X0.here hx rfl (hb hby d3_5) ?_
    show Steps _ _ _ (s₁.setTop (mkF m 6 #[iv 3] [(.int 2), (.int 3)])) _
    refine XS.icmpYes X0.here hx rfl (pc0 := 6) (pc' := 13) rfl (hb hby d3_6) rfl (by decide) (by decide) (by decide) ?_
    show Steps _ _ _ (s₁.setTop (mkF m 13 #[iv 3] [])) _
    refine XS.iconst X0.here hx rfl (hb hby d3_13) ?_
    show Steps _ _ _ (s₁.setTop (mkF m 14 #[iv 3] [(.int 0)])) _
    exact q
  obtain ⟨fs, hr, hrun, hended, hW, hsame⟩ := X0.leave (v := some (.int 0)) (fun h => by rw [Bd.returns] at h; cases h)
  refine ⟨_, _, k_7 _ ?_, hrun, hended, _, _, rfl, ?_, ⟨_, rfl⟩, hW, hsame.mono (by decide) (by decide)⟩
  · exact retN X0 hx (t := .boolean) Bd.returns (by simp) (hb hby d3_14) hr
  · show QV (some (.int 0)) h0 n0 _ s₁.heap _
    rw [e0]
    exact ⟨rfl, N0, rfl⟩
set_option maxRecDepth 65536 in
set_option maxHeartbeats 40000000 in
theorem hg_3 (l : Launch) (Z : State) (a0 : Array Value) (hw : ∀ d ∈ tables_1, d.before a0 Z = true) (ws : List Jvm.Cond) (a_NEXT_KEY a_GAP a_RECORD a_INSERT_INTENTION : Addr) (G : Own Z a_NEXT_KEY a_GAP a_RECORD a_INSERT_INTENTION)  (h0 : Heap) (n0 : Nat) (O0 : Old Z n0 h0)  :
    MetFree l y_1 (head1 (Jvm.Cond.code y_1 method_3_code 1 (some .boolean) :: ws) ({ frames := 0, cells := 0, slots := 0, locals := 0 } : Room)) (fun a U => a = #[(.int 3)] ∧ Z.Warmed39 U.vm ∧ U.heap = h0) (fun _ _ _ _ _ => True) (fun _ U o U' => ∃ v L, o = .returned v ∧ QV (some (.int 0)) h0 n0 v U'.heap L ∧ FrameEnd U o U' L ({ frames := 0, cells := 0, slots := 0, locals := 0 } : Room).cells ({ frames := 0, cells := 0, slots := 0, locals := 0 } : Room).slots) := by
  refine MetFree.of_bodySF (plainFor_of_name pn_0) hisR ?_
  intro p e s m args below meth c s₁ Bd hml0 hP hK
  obtain ⟨rfl, hZ, hh⟩ := hP
  have hx := Bd.exec
  have hby := Bd.bytes
  have hml : c.maxLocals = 1 := hml0
  have hown : s.vm.findClass "com/example/nkdb/nkdb/transaction/LockKindCoversPinLaw" = some m.cls := findClass_of_methodNamed Bd.named
  have hnm := (name_of_methodNamed Bd.named Bd.method).1
  have X0 : Stand p l e ({ frames := 0, cells := 0, slots := 0, locals := 0 } : Room) s m #[(.int 3)] below meth c s₁ [] 0 0 := Stand.of_body Bd
  have e0 : s₁.heap = h0 := by rw [← hh, Bd.state]; rfl
  have N0 := Fr.nil n0
  have K0 := Keep.refl h0 []
  have k0 : Go p.tables e below (s₁.setTop (entryFrame m #[(.int 3)] 1)) (s₁.setTop (mkF m 0 #[iv 3] [])) := fun t k => castTop (by first | rfl | (simp [entryFrame, mkF, argsToLocals, Value.category]; done)) k
  have ⟨S_NEXT_KEY, E_NEXT_KEY, S_GAP, E_GAP, S_RECORD, E_RECORD, S_INSERT_INTENTION, E_INSERT_INTENTION, R_NEXT_KEY_ordinal, R_INSERT_INTENTION_ordinal, R_GAP_ordinal, R_RECORD_ordinal⟩ := G
  have k_8 : Go p.tables e below (s₁.setTop (entryFrame m #[(.int 3)] 1)) (s₁.setTop (mkF m 14 #[iv 3] [(.int 0)])) := fun t q => by
    refine k0 t ?_
    refine XS.iloadN X0.here hx rfl (hb hby d4_0) rfl ?_
    show Steps _ _ _ (s₁.setTop (mkF m 1 #[iv 3] [(.int 3)])) _
    refine XS.ifNo X0.here hx rfl (hb hby d4_1) rfl (by decide) ?_
    show Steps _ _ _ (s₁.setTop (mkF m 4 #[iv 3] [])) _
    refine XS.iloadN X0.here hx rfl (hb hby d4_4) rfl ?_
    show Steps _ _ _ (s₁.setTop (mkF m 5 #[iv 3] [(.int 3)])) _
    refine XS.iconst X0.here hx rfl (hb hby d4_5) ?_
    show Steps _ _ _ (s₁.setTop (mkF m 6 #[iv 3] [(.int 1), (.int 3)])) _
    refine XS.icmpYes X0.here hx rfl (pc0 := 6) (pc' := 13) rfl (hb hby d4_6) rfl (by decide) (by decide) (by decide) ?_
    show Steps _ _ _ (s₁.setTop (mkF m 13 #[iv 3] [])) _
    refine XS.iconst X0.here hx rfl (hb hby d4_13) ?_
    show Steps _ _ _ (s₁.setTop (mkF m 14 #[iv 3] [(.int 0)])) _
    exact q
  obtain ⟨fs, hr, hrun, hended, hW, hsame⟩ := X0.leave (v := some (.int 0)) (fun h => by rw [Bd.returns] at h; cases h)
  refine ⟨_, _, k_8 _ ?_, hrun, hended, _, _, rfl, ?_, ⟨_, rfl⟩, hW, hsame.mono (by decide) (by decide)⟩
  · exact retN X0 hx (t := .boolean) Bd.returns (by simp) (hb hby d4_14) hr
  · show QV (some (.int 0)) h0 n0 _ s₁.heap _
    rw [e0]
    exact ⟨rfl, N0, rfl⟩
set_option maxRecDepth 65536 in
set_option maxHeartbeats 40000000 in
theorem kd (l : Launch) (Z : State) (a0 : Array Value) (hw : ∀ d ∈ tables_1, d.before a0 Z = true) (ws : List Jvm.Cond) (a_NEXT_KEY a_GAP a_RECORD a_INSERT_INTENTION : Addr) (G : Own Z a_NEXT_KEY a_GAP a_RECORD a_INSERT_INTENTION) (q1 : Int32) (i : Nat) (h0 : Heap) (n0 : Nat) (O0 : Old Z n0 h0) (hi : (q1 &&& 3 = 0 ∧ i = 0) ∨ (q1 &&& 3 = 1 ∧ i = 1) ∨ (q1 &&& 3 = 2 ∧ i = 2) ∨ (q1 &&& 3 = 3 ∧ i = 3)) :
    MetFree l y_2 (head1 (Jvm.Cond.code y_2 method_2_code 2 (some (.object "com/example/nkdb/nkdb/transaction/LockKind")) :: ws) ({ frames := 0, cells := 1, slots := 4, locals := 0 } : Room)) (fun a U => a = #[(.int q1)] ∧ Z.Warmed39 U.vm ∧ U.heap = h0) (fun _ _ _ _ _ => True) (fun _ U o U' => ∃ v L, o = .returned v ∧ QK h0 n0 (if i = 0 then a_NEXT_KEY else if i = 1 then a_GAP else if i = 2 then a_RECORD else a_INSERT_INTENTION) v U'.heap L ∧ FrameEnd U o U' L ({ frames := 0, cells := 1, slots := 4, locals := 0 } : Room).cells ({ frames := 0, cells := 1, slots := 4, locals := 0 } : Room).slots) := by
  refine MetFree.of_bodySF (plainFor_of_name pn_0) hisR ?_
  intro p e s m args below meth c s₁ Bd hml0 hP hK
  obtain ⟨rfl, hZ, hh⟩ := hP
  have hx := Bd.exec
  have hby := Bd.bytes
  have hml : c.maxLocals = 2 := hml0
  have hown : s.vm.findClass "com/example/nkdb/nkdb/transaction/LockKindCoversPinLaw" = some m.cls := findClass_of_methodNamed Bd.named
  have hnm := (name_of_methodNamed Bd.named Bd.method).1
  have X0 : Stand p l e ({ frames := 0, cells := 1, slots := 4, locals := 0 } : Room) s m #[(.int q1)] below meth c s₁ [] 0 0 := Stand.of_body Bd
  have e0 : s₁.heap = h0 := by rw [← hh, Bd.state]; rfl
  have N0 := Fr.nil n0
  have K0 := Keep.refl h0 []
  have k0 : Go p.tables e below (s₁.setTop (entryFrame m #[(.int q1)] 2)) (s₁.setTop (mkF m 0 #[iv q1, .unset] [])) := fun t k => castTop (by first | rfl | (simp [entryFrame, mkF, argsToLocals, Value.category]; done)) k
  have ⟨S_NEXT_KEY, E_NEXT_KEY, S_GAP, E_GAP, S_RECORD, E_RECORD, S_INSERT_INTENTION, E_INSERT_INTENTION, R_NEXT_KEY_ordinal, R_INSERT_INTENTION_ordinal, R_GAP_ordinal, R_RECORD_ordinal⟩ := G
  have k_9 : Go p.tables e below (s₁.setTop (entryFrame m #[(.int q1)] 2)) (s₁.setTop (mkF m 1 #[iv q1, .unset] [(.int 4)])) := fun t q => by
    refine k0 t ?_
    refine XS.iconst X0.here hx rfl (hb hby d1_0) ?_
    show Steps _ _ _ (s₁.setTop (mkF m 1 #[iv q1, .unset] [(.int 4)])) _
    exact q
  obtain ⟨T10, h10, c10, X10, e10, E10, A10, V10, st10⟩ := newR X0 hx hZ hown (hw _ (wd 4 rfl)) (hw _ (wd 5 rfl)) e0 (g := (mkF m 1 #[iv q1, .unset] [(.int 4)])) rfl (hb hby d1_1) rfl (by decide) (cap := 4) (by decide) (by decide) (by decide) (by decide)
  obtain ⟨b10, g10⟩ : ∃ z, z = h0.size := ⟨_, rfl⟩
  rw [← g10] at A10 st10
  have g_b10 : n0 ≤ b10 := Nat.le_trans (own_old_le O0) (Nat.le_of_eq g10.symm)
  have sz_b10 : h0.size ≤ b10 := Nat.le_trans K0.1 (Nat.le_of_eq g10.symm)
  have O_11 := O0.ext E10
  have K_12 := K0.ext E10
  have B10 : Arv Z h10 b10 c10 (.object "com/example/nkdb/nkdb/transaction/LockKind") (4 : Int32) [.null, .null, .null, .null] .null := (Arv.new A10 (by decide)).pad (pad_rep [] .null 4)
  have k_13 : Go p.tables e below (s₁.setTop (entryFrame m #[(.int q1)] 2)) (T10.setTop (mkF m 6 #[iv q1, .unset] [(.int 0), (.ref b10), (.ref b10)])) := fun t q => by
    refine k_9 t ?_
    refine st10 _ ?_
    show Steps _ _ _ (T10.setTop (mkF m 4 #[iv q1, .unset] [(.ref b10)])) _
    refine XS.dup X10.here hx rfl (hb hby d1_4) rfl rfl ?_
    show Steps _ _ _ (T10.setTop (mkF m 5 #[iv q1, .unset] [(.ref b10), (.ref b10)])) _
    refine XS.iconst X10.here hx rfl (hb hby d1_5) ?_
    show Steps _ _ _ (T10.setTop (mkF m 6 #[iv q1, .unset] [(.int 0), (.ref b10), (.ref b10)])) _
    exact q
  obtain ⟨T14, X14, e14, st14⟩ := getS2 X10 hx hZ hown (host := "") (Or.inl (hw _ (wd 6 rfl))) Via.refl e10 (S_NEXT_KEY.ext O_11.2) (g := (mkF m 6 #[iv q1, .unset] [(.int 0), (.ref b10), (.ref b10)])) rfl (hb hby d1_6)
  have k_15 : Go p.tables e below (s₁.setTop (entryFrame m #[(.int q1)] 2)) (T14.setTop (mkF m 9 #[iv q1, .unset] [(.ref a_NEXT_KEY), (.int 0), (.ref b10), (.ref b10)])) := fun t q => by
    refine k_13 t ?_
    refine st14 _ ?_
    show Steps _ _ _ (T14.setTop (mkF m 9 #[iv q1, .unset] [(.ref a_NEXT_KEY), (.int 0), (.ref b10), (.ref b10)])) _
    exact q
  obtain ⟨cl16, Ar16, q16, S16, M16, H16, G16⟩ := B10
  have hin16 : ¬ ((0 : Int32) < 0 ∨ cl16.slots.size ≤ ((0 : Int32)).toNatClampNeg) := inb_of S16 ⟨by decide, by decide⟩
  obtain ⟨T17, h17, X17, e17, W17, st17⟩ := stR X14 hx hZ e14 Ar16 (j := (0 : Int32)) hin16 rfl (Sto.ofV Ar16 q16 V10 (Ins.self (Exa.ext O_11.2 E_NEXT_KEY))) (g := (mkF m 9 #[iv q1, .unset] [(.ref a_NEXT_KEY), (.int 0), (.ref b10), (.ref b10)])) rfl rfl (hb hby d1_9)
  have B17 : Arv Z h17 b10 c10 (.object "com/example/nkdb/nkdb/transaction/LockKind") (4 : Int32) [(.ref a_NEXT_KEY), .null, .null, .null] .null := Arv.set Ar16 q16 S16 M16 H16 G16 rfl W17 0 rfl (Nat.le_of_ble_eq_true rfl)
  have N17 := Fr.snoc X17 N0 g_b10
  have O_18 := O_11.wr W17 g_b10
  have K_19 := K_12.wr W17 (Or.inr sz_b10)
  have k_20 : Go p.tables e below (s₁.setTop (entryFrame m #[(.int q1)] 2)) (T17.setTop (mkF m 12 #[iv q1, .unset] [(.int 1), (.ref b10), (.ref b10)])) := fun t q => by
    refine k_15 t ?_
    refine st17 _ ?_
    show Steps _ _ _ (T17.setTop (mkF m 10 #[iv q1, .unset] [(.ref b10)])) _
    refine XS.dup X17.here hx rfl (hb hby d1_10) rfl rfl ?_
    show Steps _ _ _ (T17.setTop (mkF m 11 #[iv q1, .unset] [(.ref b10), (.ref b10)])) _
    refine XS.iconst X17.here hx rfl (hb hby d1_11) ?_
    show Steps _ _ _ (T17.setTop (mkF m 12 #[iv q1, .unset] [(.int 1), (.ref b10), (.ref b10)])) _
    exact q
  obtain ⟨T21, X21, e21, st21⟩ := getS2 X17 hx hZ hown (host := "") (Or.inl (hw _ (wd 10 rfl))) Via.refl e17 (S_GAP.ext O_18.2) (g := (mkF m 12 #[iv q1, .unset] [(.int 1), (.ref b10), (.ref b10)])) rfl (hb hby d1_12)
  have k_22 : Go p.tables e below (s₁.setTop (entryFrame m #[(.int q1)] 2)) (T21.setTop (mkF m 15 #[iv q1, .unset] [(.ref a_GAP), (.int 1), (.ref b10), (.ref b10)])) := fun t q => by
    refine k_20 t ?_
    refine st21 _ ?_
    show Steps _ _ _ (T21.setTop (mkF m 15 #[iv q1, .unset] [(.ref a_GAP), (.int 1), (.ref b10), (.ref b10)])) _
    exact q
  obtain ⟨cl23, Ar23, q23, S23, M23, H23, G23⟩ := B17
  have hin23 : ¬ ((1 : Int32) < 0 ∨ cl23.slots.size ≤ ((1 : Int32)).toNatClampNeg) := inb_of S23 ⟨by decide, by decide⟩
  obtain ⟨T24, h24, X24, e24, W24, st24⟩ := stR X21 hx hZ e21 Ar23 (j := (1 : Int32)) hin23 rfl (Sto.ofV Ar23 q23 V10 (Ins.self (Exa.ext O_18.2 E_GAP))) (g := (mkF m 15 #[iv q1, .unset] [(.ref a_GAP), (.int 1), (.ref b10), (.ref b10)])) rfl rfl (hb hby d1_15)
  have B24 : Arv Z h24 b10 c10 (.object "com/example/nkdb/nkdb/transaction/LockKind") (4 : Int32) [(.ref a_NEXT_KEY), (.ref a_GAP), .null, .null] .null := Arv.set Ar23 q23 S23 M23 H23 G23 rfl W24 1 rfl (Nat.le_of_ble_eq_true rfl)
  have N24 := Fr.snoc X24 N17 g_b10
  have O_25 := O_18.wr W24 g_b10
  have K_26 := K_19.wr W24 (Or.inr sz_b10)
  have k_27 : Go p.tables e below (s₁.setTop (entryFrame m #[(.int q1)] 2)) (T24.setTop (mkF m 18 #[iv q1, .unset] [(.int 2), (.ref b10), (.ref b10)])) := fun t q => by
    refine k_22 t ?_
    refine st24 _ ?_
    show Steps _ _ _ (T24.setTop (mkF m 16 #[iv q1, .unset] [(.ref b10)])) _
    refine XS.dup X24.here hx rfl (hb hby d1_16) rfl rfl ?_
    show Steps _ _ _ (T24.setTop (mkF m 17 #[iv q1, .unset] [(.ref b10), (.ref b10)])) _
    refine XS.iconst X24.here hx rfl (hb hby d1_17) ?_
    show Steps _ _ _ (T24.setTop (mkF m 18 #[iv q1, .unset] [(.int 2), (.ref b10), (.ref b10)])) _
    exact q
  obtain ⟨T28, X28, e28, st28⟩ := getS2 X24 hx hZ hown (host := "") (Or.inl (hw _ (wd 12 rfl))) Via.refl e24 (S_RECORD.ext O_25.2) (g := (mkF m 18 #[iv q1, .unset] [(.int 2), (.ref b10), (.ref b10)])) rfl (hb hby d1_18)
  have k_29 : Go p.tables e below (s₁.setTop (entryFrame m #[(.int q1)] 2)) (T28.setTop (mkF m 21 #[iv q1, .unset] [(.ref a_RECORD), (.int 2), (.ref b10), (.ref b10)])) := fun t q => by
    refine k_27 t ?_
    refine st28 _ ?_
    show Steps _ _ _ (T28.setTop (mkF m 21 #[iv q1, .unset] [(.ref a_RECORD), (.int 2), (.ref b10), (.ref b10)])) _
    exact q
  obtain ⟨cl30, Ar30, q30, S30, M30, H30, G30⟩ := B24
  have hin30 : ¬ ((2 : Int32) < 0 ∨ cl30.slots.size ≤ ((2 : Int32)).toNatClampNeg) := inb_of S30 ⟨by decide, by decide⟩
  obtain ⟨T31, h31, X31, e31, W31, st31⟩ := stR X28 hx hZ e28 Ar30 (j := (2 : Int32)) hin30 rfl (Sto.ofV Ar30 q30 V10 (Ins.self (Exa.ext O_25.2 E_RECORD))) (g := (mkF m 21 #[iv q1, .unset] [(.ref a_RECORD), (.int 2), (.ref b10), (.ref b10)])) rfl rfl (hb hby d1_21)
  have B31 : Arv Z h31 b10 c10 (.object "com/example/nkdb/nkdb/transaction/LockKind") (4 : Int32) [(.ref a_NEXT_KEY), (.ref a_GAP), (.ref a_RECORD), .null] .null := Arv.set Ar30 q30 S30 M30 H30 G30 rfl W31 2 rfl (Nat.le_of_ble_eq_true rfl)
  have N31 := Fr.snoc X31 N24 g_b10
  have O_32 := O_25.wr W31 g_b10
  have K_33 := K_26.wr W31 (Or.inr sz_b10)
  have k_34 : Go p.tables e below (s₁.setTop (entryFrame m #[(.int q1)] 2)) (T31.setTop (mkF m 24 #[iv q1, .unset] [(.int 3), (.ref b10), (.ref b10)])) := fun t q => by
    refine k_29 t ?_
    refine st31 _ ?_
    show Steps _ _ _ (T31.setTop (mkF m 22 #[iv q1, .unset] [(.ref b10)])) _
    refine XS.dup X31.here hx rfl (hb hby d1_22) rfl rfl ?_
    show Steps _ _ _ (T31.setTop (mkF m 23 #[iv q1, .unset] [(.ref b10), (.ref b10)])) _
    refine XS.iconst X31.here hx rfl (hb hby d1_23) ?_
    show Steps _ _ _ (T31.setTop (mkF m 24 #[iv q1, .unset] [(.int 3), (.ref b10), (.ref b10)])) _
    exact q
  obtain ⟨T35, X35, e35, st35⟩ := getS2 X31 hx hZ hown (host := "") (Or.inl (hw _ (wd 14 rfl))) Via.refl e31 (S_INSERT_INTENTION.ext O_32.2) (g := (mkF m 24 #[iv q1, .unset] [(.int 3), (.ref b10), (.ref b10)])) rfl (hb hby d1_24)
  have k_36 : Go p.tables e below (s₁.setTop (entryFrame m #[(.int q1)] 2)) (T35.setTop (mkF m 27 #[iv q1, .unset] [(.ref a_INSERT_INTENTION), (.int 3), (.ref b10), (.ref b10)])) := fun t q => by
    refine k_34 t ?_
    refine st35 _ ?_
    show Steps _ _ _ (T35.setTop (mkF m 27 #[iv q1, .unset] [(.ref a_INSERT_INTENTION), (.int 3), (.ref b10), (.ref b10)])) _
    exact q
  obtain ⟨cl37, Ar37, q37, S37, M37, H37, G37⟩ := B31
  have hin37 : ¬ ((3 : Int32) < 0 ∨ cl37.slots.size ≤ ((3 : Int32)).toNatClampNeg) := inb_of S37 ⟨by decide, by decide⟩
  obtain ⟨T38, h38, X38, e38, W38, st38⟩ := stR X35 hx hZ e35 Ar37 (j := (3 : Int32)) hin37 rfl (Sto.ofV Ar37 q37 V10 (Ins.self (Exa.ext O_32.2 E_INSERT_INTENTION))) (g := (mkF m 27 #[iv q1, .unset] [(.ref a_INSERT_INTENTION), (.int 3), (.ref b10), (.ref b10)])) rfl rfl (hb hby d1_27)
  have B38 : Arv Z h38 b10 c10 (.object "com/example/nkdb/nkdb/transaction/LockKind") (4 : Int32) [(.ref a_NEXT_KEY), (.ref a_GAP), (.ref a_RECORD), (.ref a_INSERT_INTENTION)] .null := Arv.set Ar37 q37 S37 M37 H37 G37 rfl W38 3 rfl (Nat.le_of_ble_eq_true rfl)
  have N38 := Fr.snoc X38 N31 g_b10
  have O_39 := O_32.wr W38 g_b10
  have K_40 := K_33.wr W38 (Or.inr sz_b10)
  have k_41 : Go p.tables e below (s₁.setTop (entryFrame m #[(.int q1)] 2)) (T38.setTop (mkF m 28 #[iv q1, .unset] [(.ref b10)])) := fun t q => by
    refine k_36 t ?_
    refine st38 _ ?_
    show Steps _ _ _ (T38.setTop (mkF m 28 #[iv q1, .unset] [(.ref b10)])) _
    exact q
  rcases hi with ⟨hq, hi2⟩ | ⟨hq, hi2⟩ | ⟨hq, hi2⟩ | ⟨hq, hi2⟩
  · skip
    have k_42 : Go p.tables e below (s₁.setTop (entryFrame m #[(.int q1)] 2)) (T38.setTop (mkF m 33 #[iv q1, rv b10] [(.int 0), (.ref b10)])) := fun t q => by
      refine k_41 t ?_
      refine XS.astoreN X38.here hx rfl (hb hby d1_28) rfl rfl (l' := #[iv q1, rv b10]) rfl ?_
      show Steps _ _ _ (T38.setTop (mkF m 29 #[iv q1, rv b10] [])) _
      refine XS.aloadN X38.here hx rfl (hb hby d1_29) rfl rfl ?_
      show Steps _ _ _ (T38.setTop (mkF m 30 #[iv q1, rv b10] [(.ref b10)])) _
      refine XS.iloadN X38.here hx rfl (hb hby d1_30) rfl ?_
      show Steps _ _ _ (T38.setTop (mkF m 31 #[iv q1, rv b10] [(.int q1), (.ref b10)])) _
      refine XS.iconst X38.here hx rfl (hb hby d1_31) ?_
      show Steps _ _ _ (T38.setTop (mkF m 32 #[iv q1, rv b10] [(.int 3), (.int q1), (.ref b10)])) _
      refine XS.iand X38.here hx rfl (hb hby d1_32) rfl ?_
      show Steps _ _ _ (T38.setTop (mkF m 33 #[iv q1, rv b10] [(.int (q1 &&& (3 : Int32))), (.ref b10)])) _
      rw [hq]
      show Steps _ _ _ (T38.setTop (mkF m 33 #[iv q1, rv b10] [(.int 0), (.ref b10)])) _
      exact q
    obtain ⟨cl43, Ar43, q43, S43, M43, H43, G43⟩ := B38
    have hin43 : ¬ ((0 : Int32) < 0 ∨ cl43.slots.size ≤ ((0 : Int32)).toNatClampNeg) := inb_of S43 ⟨by decide, by decide⟩
    have hat43 : cl43.slots[((0 : Int32)).toNatClampNeg]? = some (.ref a_NEXT_KEY) := Has.at H43 hin43 rfl
    have k_44 : Go p.tables e below (s₁.setTop (entryFrame m #[(.int q1)] 2)) (T38.setTop (mkF m 34 #[iv q1, rv b10] [(.ref a_NEXT_KEY)])) := fun t q => by
      refine k_42 t ?_
      refine X38.aaload hx (j := (0 : Int32)) (v := (.ref a_NEXT_KEY)) (by rw [e38]; exact Ar43.1) (State.isArrayOf_alike hZ.alike Ar43.2.1) rfl Ar43.2.2 hin43 hat43 (g := (mkF m 33 #[iv q1, rv b10] [(.int 0), (.ref b10)])) rfl rfl (hb hby d1_33) _ ?_
      show Steps _ _ _ (T38.setTop (mkF m 34 #[iv q1, rv b10] [(.ref a_NEXT_KEY)])) _
      exact q
    obtain ⟨fs, hr, hrun, hended, hW, hsame⟩ := X38.leave (v := some (.ref a_NEXT_KEY)) (fun h => by rw [Bd.returns] at h; cases h)
    refine ⟨_, _, k_44 _ ?_, hrun, hended, _, _, rfl, ?_, ⟨_, rfl⟩, hW, hsame.mono (by decide) (by decide)⟩
    · exact retOut X38 hx Bd.returns rfl (Or.inr (Or.inr (Or.inr (Or.inr ⟨rfl, rfl, rfl⟩)))) (hb hby d1_34) hr
    · show QK h0 n0 (if i = 0 then a_NEXT_KEY else if i = 1 then a_GAP else if i = 2 then a_RECORD else a_INSERT_INTENTION) _ T38.heap _
      rw [e38]
      exact ⟨by simp [hi2], N38, K_40⟩
  · skip
    have k_45 : Go p.tables e below (s₁.setTop (entryFrame m #[(.int q1)] 2)) (T38.setTop (mkF m 33 #[iv q1, rv b10] [(.int 1), (.ref b10)])) := fun t q => by
      refine k_41 t ?_
      refine XS.astoreN X38.here hx rfl (hb hby d1_28) rfl rfl (l' := #[iv q1, rv b10]) rfl ?_
      show Steps _ _ _ (T38.setTop (mkF m 29 #[iv q1, rv b10] [])) _
      refine XS.aloadN X38.here hx rfl (hb hby d1_29) rfl rfl ?_
      show Steps _ _ _ (T38.setTop (mkF m 30 #[iv q1, rv b10] [(.ref b10)])) _
      refine XS.iloadN X38.here hx rfl (hb hby d1_30) rfl ?_
      show Steps _ _ _ (T38.setTop (mkF m 31 #[iv q1, rv b10] [(.int q1), (.ref b10)])) _
      refine XS.iconst X38.here hx rfl (hb hby d1_31) ?_
      show Steps _ _ _ (T38.setTop (mkF m 32 #[iv q1, rv b10] [(.int 3), (.int q1), (.ref b10)])) _
      refine XS.iand X38.here hx rfl (hb hby d1_32) rfl ?_
      show Steps _ _ _ (T38.setTop (mkF m 33 #[iv q1, rv b10] [(.int (q1 &&& (3 : Int32))), (.ref b10)])) _
      rw [hq]
      show Steps _ _ _ (T38.setTop (mkF m 33 #[iv q1, rv b10] [(.int 1), (.ref b10)])) _
      exact q
    obtain ⟨cl46, Ar46, q46, S46, M46, H46, G46⟩ := B38
    have hin46 : ¬ ((1 : Int32) < 0 ∨ cl46.slots.size ≤ ((1 : Int32)).toNatClampNeg) := inb_of S46 ⟨by decide, by decide⟩
    have hat46 : cl46.slots[((1 : Int32)).toNatClampNeg]? = some (.ref a_GAP) := Has.at H46 hin46 rfl
    have k_47 : Go p.tables e below (s₁.setTop (entryFrame m #[(.int q1)] 2)) (T38.setTop (mkF m 34 #[iv q1, rv b10] [(.ref a_GAP)])) := fun t q => by
      refine k_45 t ?_
      refine X38.aaload hx (j := (1 : Int32)) (v := (.ref a_GAP)) (by rw [e38]; exact Ar46.1) (State.isArrayOf_alike hZ.alike Ar46.2.1) rfl Ar46.2.2 hin46 hat46 (g := (mkF m 33 #[iv q1, rv b10] [(.int 1), (.ref b10)])) rfl rfl (hb hby d1_33) _ ?_
      show Steps _ _ _ (T38.setTop (mkF m 34 #[iv q1, rv b10] [(.ref a_GAP)])) _
      exact q
    obtain ⟨fs, hr, hrun, hended, hW, hsame⟩ := X38.leave (v := some (.ref a_GAP)) (fun h => by rw [Bd.returns] at h; cases h)
    refine ⟨_, _, k_47 _ ?_, hrun, hended, _, _, rfl, ?_, ⟨_, rfl⟩, hW, hsame.mono (by decide) (by decide)⟩
    · exact retOut X38 hx Bd.returns rfl (Or.inr (Or.inr (Or.inr (Or.inr ⟨rfl, rfl, rfl⟩)))) (hb hby d1_34) hr
    · show QK h0 n0 (if i = 0 then a_NEXT_KEY else if i = 1 then a_GAP else if i = 2 then a_RECORD else a_INSERT_INTENTION) _ T38.heap _
      rw [e38]
      exact ⟨by simp [hi2], N38, K_40⟩
  · skip
    have k_48 : Go p.tables e below (s₁.setTop (entryFrame m #[(.int q1)] 2)) (T38.setTop (mkF m 33 #[iv q1, rv b10] [(.int 2), (.ref b10)])) := fun t q => by
      refine k_41 t ?_
      refine XS.astoreN X38.here hx rfl (hb hby d1_28) rfl rfl (l' := #[iv q1, rv b10]) rfl ?_
      show Steps _ _ _ (T38.setTop (mkF m 29 #[iv q1, rv b10] [])) _
      refine XS.aloadN X38.here hx rfl (hb hby d1_29) rfl rfl ?_
      show Steps _ _ _ (T38.setTop (mkF m 30 #[iv q1, rv b10] [(.ref b10)])) _
      refine XS.iloadN X38.here hx rfl (hb hby d1_30) rfl ?_
      show Steps _ _ _ (T38.setTop (mkF m 31 #[iv q1, rv b10] [(.int q1), (.ref b10)])) _
      refine XS.iconst X38.here hx rfl (hb hby d1_31) ?_
      show Steps _ _ _ (T38.setTop (mkF m 32 #[iv q1, rv b10] [(.int 3), (.int q1), (.ref b10)])) _
      refine XS.iand X38.here hx rfl (hb hby d1_32) rfl ?_
      show Steps _ _ _ (T38.setTop (mkF m 33 #[iv q1, rv b10] [(.int (q1 &&& (3 : Int32))), (.ref b10)])) _
      rw [hq]
      show Steps _ _ _ (T38.setTop (mkF m 33 #[iv q1, rv b10] [(.int 2), (.ref b10)])) _
      exact q
    obtain ⟨cl49, Ar49, q49, S49, M49, H49, G49⟩ := B38
    have hin49 : ¬ ((2 : Int32) < 0 ∨ cl49.slots.size ≤ ((2 : Int32)).toNatClampNeg) := inb_of S49 ⟨by decide, by decide⟩
    have hat49 : cl49.slots[((2 : Int32)).toNatClampNeg]? = some (.ref a_RECORD) := Has.at H49 hin49 rfl
    have k_50 : Go p.tables e below (s₁.setTop (entryFrame m #[(.int q1)] 2)) (T38.setTop (mkF m 34 #[iv q1, rv b10] [(.ref a_RECORD)])) := fun t q => by
      refine k_48 t ?_
      refine X38.aaload hx (j := (2 : Int32)) (v := (.ref a_RECORD)) (by rw [e38]; exact Ar49.1) (State.isArrayOf_alike hZ.alike Ar49.2.1) rfl Ar49.2.2 hin49 hat49 (g := (mkF m 33 #[iv q1, rv b10] [(.int 2), (.ref b10)])) rfl rfl (hb hby d1_33) _ ?_
      show Steps _ _ _ (T38.setTop (mkF m 34 #[iv q1, rv b10] [(.ref a_RECORD)])) _
      exact q
    obtain ⟨fs, hr, hrun, hended, hW, hsame⟩ := X38.leave (v := some (.ref a_RECORD)) (fun h => by rw [Bd.returns] at h; cases h)
    refine ⟨_, _, k_50 _ ?_, hrun, hended, _, _, rfl, ?_, ⟨_, rfl⟩, hW, hsame.mono (by decide) (by decide)⟩
    · exact retOut X38 hx Bd.returns rfl (Or.inr (Or.inr (Or.inr (Or.inr ⟨rfl, rfl, rfl⟩)))) (hb hby d1_34) hr
    · show QK h0 n0 (if i = 0 then a_NEXT_KEY else if i = 1 then a_GAP else if i = 2 then a_RECORD else a_INSERT_INTENTION) _ T38.heap _
      rw [e38]
      exact ⟨by simp [hi2], N38, K_40⟩
  · skip
    have k_51 : Go p.tables e below (s₁.setTop (entryFrame m #[(.int q1)] 2)) (T38.setTop (mkF m 33 #[iv q1, rv b10] [(.int 3), (.ref b10)])) := fun t q => by
      refine k_41 t ?_
      refine XS.astoreN X38.here hx rfl (hb hby d1_28) rfl rfl (l' := #[iv q1, rv b10]) rfl ?_
      show Steps _ _ _ (T38.setTop (mkF m 29 #[iv q1, rv b10] [])) _
      refine XS.aloadN X38.here hx rfl (hb hby d1_29) rfl rfl ?_
      show Steps _ _ _ (T38.setTop (mkF m 30 #[iv q1, rv b10] [(.ref b10)])) _
      refine XS.iloadN X38.here hx rfl (hb hby d1_30) rfl ?_
      show Steps _ _ _ (T38.setTop (mkF m 31 #[iv q1, rv b10] [(.int q1), (.ref b10)])) _
      refine XS.iconst X38.here hx rfl (hb hby d1_31) ?_
      show Steps _ _ _ (T38.setTop (mkF m 32 #[iv q1, rv b10] [(.int 3), (.int q1), (.ref b10)])) _
      refine XS.iand X38.here hx rfl (hb hby d1_32) rfl ?_
      show Steps _ _ _ (T38.setTop (mkF m 33 #[iv q1, rv b10] [(.int (q1 &&& (3 : Int32))), (.ref b10)])) _
      rw [hq]
      show Steps _ _ _ (T38.setTop (mkF m 33 #[iv q1, rv b10] [(.int 3), (.ref b10)])) _
      exact q
    obtain ⟨cl52, Ar52, q52, S52, M52, H52, G52⟩ := B38
    have hin52 : ¬ ((3 : Int32) < 0 ∨ cl52.slots.size ≤ ((3 : Int32)).toNatClampNeg) := inb_of S52 ⟨by decide, by decide⟩
    have hat52 : cl52.slots[((3 : Int32)).toNatClampNeg]? = some (.ref a_INSERT_INTENTION) := Has.at H52 hin52 rfl
    have k_53 : Go p.tables e below (s₁.setTop (entryFrame m #[(.int q1)] 2)) (T38.setTop (mkF m 34 #[iv q1, rv b10] [(.ref a_INSERT_INTENTION)])) := fun t q => by
      refine k_51 t ?_
      refine X38.aaload hx (j := (3 : Int32)) (v := (.ref a_INSERT_INTENTION)) (by rw [e38]; exact Ar52.1) (State.isArrayOf_alike hZ.alike Ar52.2.1) rfl Ar52.2.2 hin52 hat52 (g := (mkF m 33 #[iv q1, rv b10] [(.int 3), (.ref b10)])) rfl rfl (hb hby d1_33) _ ?_
      show Steps _ _ _ (T38.setTop (mkF m 34 #[iv q1, rv b10] [(.ref a_INSERT_INTENTION)])) _
      exact q
    obtain ⟨fs, hr, hrun, hended, hW, hsame⟩ := X38.leave (v := some (.ref a_INSERT_INTENTION)) (fun h => by rw [Bd.returns] at h; cases h)
    refine ⟨_, _, k_53 _ ?_, hrun, hended, _, _, rfl, ?_, ⟨_, rfl⟩, hW, hsame.mono (by decide) (by decide)⟩
    · exact retOut X38 hx Bd.returns rfl (Or.inr (Or.inr (Or.inr (Or.inr ⟨rfl, rfl, rfl⟩)))) (hb hby d1_34) hr
    · show QK h0 n0 (if i = 0 then a_NEXT_KEY else if i = 1 then a_GAP else if i = 2 then a_RECORD else a_INSERT_INTENTION) _ T38.heap _
      rw [e38]
      exact ⟨by simp [hi2], N38, K_40⟩
set_option maxRecDepth 65536 in
set_option maxHeartbeats 40000000 in
theorem cv_0_0_0 (l : Launch) (Z : State) (a0 : Array Value) (hw : ∀ d ∈ tables_1, d.before a0 Z = true) (ws : List Jvm.Cond) (a_NEXT_KEY a_GAP a_RECORD a_INSERT_INTENTION : Addr) (G : Own Z a_NEXT_KEY a_GAP a_RECORD a_INSERT_INTENTION)  (h0 : Heap) (n0 : Nat) (O0 : Old Z n0 h0)  :
    MetFree l y_3 (head1 (Jvm.Cond.code y_3 prog_87_method_5_code 4 (some .boolean) :: ws) ({ frames := 0, cells := 0, slots := 0, locals := 0 } : Room)) (fun a U => a = #[(.ref a_NEXT_KEY), (.ref a_NEXT_KEY), (.int 0)] ∧ Z.Warmed39 U.vm ∧ U.heap = h0) (fun _ _ _ _ _ => True) (fun _ U o U' => ∃ v L, o = .returned v ∧ QV (some (.int 1)) h0 n0 v U'.heap L ∧ FrameEnd U o U' L ({ frames := 0, cells := 0, slots := 0, locals := 0 } : Room).cells ({ frames := 0, cells := 0, slots := 0, locals := 0 } : Room).slots) := by
  refine MetFree.of_bodySF (plainFor_of_name pn_1) hisR ?_
  intro p e s m args below meth c s₁ Bd hml0 hP hK
  obtain ⟨rfl, hZ, hh⟩ := hP
  have hx := Bd.exec
  have hby := Bd.bytes
  have hml : c.maxLocals = 4 := hml0
  have hown : s.vm.findClass "com/example/nkdb/nkdb/transaction/LockKind" = some m.cls := findClass_of_methodNamed Bd.named
  have hnm := (name_of_methodNamed Bd.named Bd.method).1
  have X0 : Stand p l e ({ frames := 0, cells := 0, slots := 0, locals := 0 } : Room) s m #[(.ref a_NEXT_KEY), (.ref a_NEXT_KEY), (.int 0)] below meth c s₁ [] 0 0 := Stand.of_body Bd
  have e0 : s₁.heap = h0 := by rw [← hh, Bd.state]; rfl
  have N0 := Fr.nil n0
  have K0 := Keep.refl h0 []
  have k0 : Go p.tables e below (s₁.setTop (entryFrame m #[(.ref a_NEXT_KEY), (.ref a_NEXT_KEY), (.int 0)] 4)) (s₁.setTop (mkF m 0 #[rv a_NEXT_KEY, rv a_NEXT_KEY, iv 0, .unset] [])) := fun t k => castTop (by first | rfl | (simp [entryFrame, mkF, argsToLocals, Value.category]; done)) k
  have ⟨S_NEXT_KEY, E_NEXT_KEY, S_GAP, E_GAP, S_RECORD, E_RECORD, S_INSERT_INTENTION, E_INSERT_INTENTION, R_NEXT_KEY_ordinal, R_INSERT_INTENTION_ordinal, R_GAP_ordinal, R_RECORD_ordinal⟩ := G
  have k_54 : Go p.tables e below (s₁.setTop (entryFrame m #[(.ref a_NEXT_KEY), (.ref a_NEXT_KEY), (.int 0)] 4)) (s₁.setTop (mkF m 1 #[rv a_NEXT_KEY, rv a_NEXT_KEY, iv 0, .unset] [(.ref a_NEXT_KEY)])) := fun t q => by
    refine k0 t ?_
    refine XS.aloadN X0.here hx rfl (hb hby d2_0) rfl rfl ?_
    show Steps _ _ _ (s₁.setTop (mkF m 1 #[rv a_NEXT_KEY, rv a_NEXT_KEY, iv 0, .unset] [(.ref a_NEXT_KEY)])) _
    exact q
  obtain ⟨T55, X55, e55, st55⟩ := getS2 X0 hx hZ hown (host := "") (Or.inl (hw _ (wd 21 rfl))) Via.refl e0 (S_INSERT_INTENTION.ext O0.2) (g := (mkF m 1 #[rv a_NEXT_KEY, rv a_NEXT_KEY, iv 0, .unset] [(.ref a_NEXT_KEY)])) rfl (hb hby d2_1)
  have k_56 : Go p.tables e below (s₁.setTop (entryFrame m #[(.ref a_NEXT_KEY), (.ref a_NEXT_KEY), (.int 0)] 4)) (T55.setTop (mkF m 8 #[rv a_NEXT_KEY, rv a_NEXT_KEY, iv 0, .unset] [(.ref a_NEXT_KEY)])) := fun t q => by
    refine k_54 t ?_
    refine st55 _ ?_
    show Steps _ _ _ (T55.setTop (mkF m 4 #[rv a_NEXT_KEY, rv a_NEXT_KEY, iv 0, .unset] [(.ref a_INSERT_INTENTION), (.ref a_NEXT_KEY)])) _
    refine Jvm.RoadKit.acmp (g := (mkF m 4 #[rv a_NEXT_KEY, rv a_NEXT_KEY, iv 0, .unset] [(.ref a_INSERT_INTENTION), (.ref a_NEXT_KEY)])) X55 hx rfl rfl rfl (pc0 := 4) (pc' := 7) (same := false) rfl (hb hby d2_4) rfl (decide_eq_false fun q => (own_ne R_NEXT_KEY_ordinal R_INSERT_INTENTION_ordinal (by decide)) (Value.ref.inj q)) (by decide) (by decide) ?_
    show Steps _ _ _ (T55.setTop (mkF m 7 #[rv a_NEXT_KEY, rv a_NEXT_KEY, iv 0, .unset] [])) _
    refine XS.aloadN X55.here hx rfl (hb hby d2_7) rfl rfl ?_
    show Steps _ _ _ (T55.setTop (mkF m 8 #[rv a_NEXT_KEY, rv a_NEXT_KEY, iv 0, .unset] [(.ref a_NEXT_KEY)])) _
    exact q
  obtain ⟨T57, X57, e57, st57⟩ := getS2 X55 hx hZ hown (host := "") (Or.inl (hw _ (wd 21 rfl))) Via.refl e55 (S_INSERT_INTENTION.ext O0.2) (g := (mkF m 8 #[rv a_NEXT_KEY, rv a_NEXT_KEY, iv 0, .unset] [(.ref a_NEXT_KEY)])) rfl (hb hby d2_8)
  have k_58 : Go p.tables e below (s₁.setTop (entryFrame m #[(.ref a_NEXT_KEY), (.ref a_NEXT_KEY), (.int 0)] 4)) (T57.setTop (mkF m 24 #[rv a_NEXT_KEY, rv a_NEXT_KEY, iv 0, .unset] [(.ref a_NEXT_KEY)])) := fun t q => by
    refine k_56 t ?_
    refine st57 _ ?_
    show Steps _ _ _ (T57.setTop (mkF m 11 #[rv a_NEXT_KEY, rv a_NEXT_KEY, iv 0, .unset] [(.ref a_INSERT_INTENTION), (.ref a_NEXT_KEY)])) _
    refine Jvm.RoadKit.acmp (g := (mkF m 11 #[rv a_NEXT_KEY, rv a_NEXT_KEY, iv 0, .unset] [(.ref a_INSERT_INTENTION), (.ref a_NEXT_KEY)])) X57 hx rfl rfl rfl (pc0 := 11) (pc' := 19) (same := false) rfl (hb hby d2_11) rfl (decide_eq_false fun q => (own_ne R_NEXT_KEY_ordinal R_INSERT_INTENTION_ordinal (by decide)) (Value.ref.inj q)) (by decide) (by decide) ?_
    show Steps _ _ _ (T57.setTop (mkF m 19 #[rv a_NEXT_KEY, rv a_NEXT_KEY, iv 0, .unset] [])) _
    refine XS.iloadN X57.here hx rfl (hb hby d2_19) rfl ?_
    show Steps _ _ _ (T57.setTop (mkF m 20 #[rv a_NEXT_KEY, rv a_NEXT_KEY, iv 0, .unset] [(.int 0)])) _
    refine XS.ifNo X57.here hx rfl (hb hby d2_20) rfl (by decide) ?_
    show Steps _ _ _ (T57.setTop (mkF m 23 #[rv a_NEXT_KEY, rv a_NEXT_KEY, iv 0, .unset] [])) _
    refine XS.aloadN X57.here hx rfl (hb hby d2_23) rfl rfl ?_
    show Steps _ _ _ (T57.setTop (mkF m 24 #[rv a_NEXT_KEY, rv a_NEXT_KEY, iv 0, .unset] [(.ref a_NEXT_KEY)])) _
    exact q
  obtain ⟨T59, X59, e59, st59⟩ := getS2 X57 hx hZ hown (host := "") (Or.inl (hw _ (wd 28 rfl))) Via.refl e57 (S_NEXT_KEY.ext O0.2) (g := (mkF m 24 #[rv a_NEXT_KEY, rv a_NEXT_KEY, iv 0, .unset] [(.ref a_NEXT_KEY)])) rfl (hb hby d2_24)
  have k_60 : Go p.tables e below (s₁.setTop (entryFrame m #[(.ref a_NEXT_KEY), (.ref a_NEXT_KEY), (.int 0)] 4)) (T59.setTop (mkF m 42 #[rv a_NEXT_KEY, rv a_NEXT_KEY, iv 0, iv 1] [(.int 1)])) := fun t q => by
    refine k_58 t ?_
    refine st59 _ ?_
    show Steps _ _ _ (T59.setTop (mkF m 27 #[rv a_NEXT_KEY, rv a_NEXT_KEY, iv 0, .unset] [(.ref a_NEXT_KEY), (.ref a_NEXT_KEY)])) _
    refine Jvm.RoadKit.acmp (g := (mkF m 27 #[rv a_NEXT_KEY, rv a_NEXT_KEY, iv 0, .unset] [(.ref a_NEXT_KEY), (.ref a_NEXT_KEY)])) X59 hx rfl rfl rfl (pc0 := 27) (pc' := 35) (same := true) rfl (hb hby d2_27) rfl (decide_eq_true rfl) (by decide) (by decide) ?_
    show Steps _ _ _ (T59.setTop (mkF m 35 #[rv a_NEXT_KEY, rv a_NEXT_KEY, iv 0, .unset] [])) _
    refine XS.iconst X59.here hx rfl (hb hby d2_35) ?_
    show Steps _ _ _ (T59.setTop (mkF m 36 #[rv a_NEXT_KEY, rv a_NEXT_KEY, iv 0, .unset] [(.int 1)])) _
    refine XS.goto X59.here hx rfl (pc0 := 36) (pc' := 40) rfl (hb hby d2_36) (by decide) (by decide) ?_
    show Steps _ _ _ (T59.setTop (mkF m 40 #[rv a_NEXT_KEY, rv a_NEXT_KEY, iv 0, .unset] [(.int 1)])) _
    refine XS.istoreN X59.here hx rfl (hb hby d2_40) rfl (l' := #[rv a_NEXT_KEY, rv a_NEXT_KEY, iv 0, iv 1]) rfl ?_
    show Steps _ _ _ (T59.setTop (mkF m 41 #[rv a_NEXT_KEY, rv a_NEXT_KEY, iv 0, iv 1] [])) _
    refine XS.iloadN X59.here hx rfl (hb hby d2_41) rfl ?_
    show Steps _ _ _ (T59.setTop (mkF m 42 #[rv a_NEXT_KEY, rv a_NEXT_KEY, iv 0, iv 1] [(.int 1)])) _
    exact q
  obtain ⟨fs, hr, hrun, hended, hW, hsame⟩ := X59.leave (v := some (.int 1)) (fun h => by rw [Bd.returns] at h; cases h)
  refine ⟨_, _, k_60 _ ?_, hrun, hended, _, _, rfl, ?_, ⟨_, rfl⟩, hW, hsame.mono (by decide) (by decide)⟩
  · exact retN X59 hx (t := .boolean) Bd.returns (by simp) (hb hby d2_42) hr
  · show QV (some (.int 1)) h0 n0 _ T59.heap _
    rw [e59]
    exact ⟨rfl, N0, rfl⟩
set_option maxRecDepth 65536 in
set_option maxHeartbeats 40000000 in
theorem cv_0_0_1 (l : Launch) (Z : State) (a0 : Array Value) (hw : ∀ d ∈ tables_1, d.before a0 Z = true) (ws : List Jvm.Cond) (a_NEXT_KEY a_GAP a_RECORD a_INSERT_INTENTION : Addr) (G : Own Z a_NEXT_KEY a_GAP a_RECORD a_INSERT_INTENTION)  (h0 : Heap) (n0 : Nat) (O0 : Old Z n0 h0)  :
    MetFree l y_3 (head1 (Jvm.Cond.code y_3 prog_87_method_5_code 4 (some .boolean) :: ws) ({ frames := 0, cells := 0, slots := 0, locals := 0 } : Room)) (fun a U => a = #[(.ref a_NEXT_KEY), (.ref a_NEXT_KEY), (.int 1)] ∧ Z.Warmed39 U.vm ∧ U.heap = h0) (fun _ _ _ _ _ => True) (fun _ U o U' => ∃ v L, o = .returned v ∧ QV (some (.int 1)) h0 n0 v U'.heap L ∧ FrameEnd U o U' L ({ frames := 0, cells := 0, slots := 0, locals := 0 } : Room).cells ({ frames := 0, cells := 0, slots := 0, locals := 0 } : Room).slots) := by
  refine MetFree.of_bodySF (plainFor_of_name pn_1) hisR ?_
  intro p e s m args below meth c s₁ Bd hml0 hP hK
  obtain ⟨rfl, hZ, hh⟩ := hP
  have hx := Bd.exec
  have hby := Bd.bytes
  have hml : c.maxLocals = 4 := hml0
  have hown : s.vm.findClass "com/example/nkdb/nkdb/transaction/LockKind" = some m.cls := findClass_of_methodNamed Bd.named
  have hnm := (name_of_methodNamed Bd.named Bd.method).1
  have X0 : Stand p l e ({ frames := 0, cells := 0, slots := 0, locals := 0 } : Room) s m #[(.ref a_NEXT_KEY), (.ref a_NEXT_KEY), (.int 1)] below meth c s₁ [] 0 0 := Stand.of_body Bd
  have e0 : s₁.heap = h0 := by rw [← hh, Bd.state]; rfl
  have N0 := Fr.nil n0
  have K0 := Keep.refl h0 []
  have k0 : Go p.tables e below (s₁.setTop (entryFrame m #[(.ref a_NEXT_KEY), (.ref a_NEXT_KEY), (.int 1)] 4)) (s₁.setTop (mkF m 0 #[rv a_NEXT_KEY, rv a_NEXT_KEY, iv 1, .unset] [])) := fun t k => castTop (by first | rfl | (simp [entryFrame, mkF, argsToLocals, Value.category]; done)) k
  have ⟨S_NEXT_KEY, E_NEXT_KEY, S_GAP, E_GAP, S_RECORD, E_RECORD, S_INSERT_INTENTION, E_INSERT_INTENTION, R_NEXT_KEY_ordinal, R_INSERT_INTENTION_ordinal, R_GAP_ordinal, R_RECORD_ordinal⟩ := G
  have k_61 : Go p.tables e below (s₁.setTop (entryFrame m #[(.ref a_NEXT_KEY), (.ref a_NEXT_KEY), (.int 1)] 4)) (s₁.setTop (mkF m 1 #[rv a_NEXT_KEY, rv a_NEXT_KEY, iv 1, .unset] [(.ref a_NEXT_KEY)])) := fun t q => by
    refine k0 t ?_
    refine XS.aloadN X0.here hx rfl (hb hby d2_0) rfl rfl ?_
    show Steps _ _ _ (s₁.setTop (mkF m 1 #[rv a_NEXT_KEY, rv a_NEXT_KEY, iv 1, .unset] [(.ref a_NEXT_KEY)])) _
    exact q
  obtain ⟨T62, X62, e62, st62⟩ := getS2 X0 hx hZ hown (host := "") (Or.inl (hw _ (wd 21 rfl))) Via.refl e0 (S_INSERT_INTENTION.ext O0.2) (g := (mkF m 1 #[rv a_NEXT_KEY, rv a_NEXT_KEY, iv 1, .unset] [(.ref a_NEXT_KEY)])) rfl (hb hby d2_1)
  have k_63 : Go p.tables e below (s₁.setTop (entryFrame m #[(.ref a_NEXT_KEY), (.ref a_NEXT_KEY), (.int 1)] 4)) (T62.setTop (mkF m 8 #[rv a_NEXT_KEY, rv a_NEXT_KEY, iv 1, .unset] [(.ref a_NEXT_KEY)])) := fun t q => by
    refine k_61 t ?_
    refine st62 _ ?_
    show Steps _ _ _ (T62.setTop (mkF m 4 #[rv a_NEXT_KEY, rv a_NEXT_KEY, iv 1, .unset] [(.ref a_INSERT_INTENTION), (.ref a_NEXT_KEY)])) _
    refine Jvm.RoadKit.acmp (g := (mkF m 4 #[rv a_NEXT_KEY, rv a_NEXT_KEY, iv 1, .unset] [(.ref a_INSERT_INTENTION), (.ref a_NEXT_KEY)])) X62 hx rfl rfl rfl (pc0 := 4) (pc' := 7) (same := false) rfl (hb hby d2_4) rfl (decide_eq_false fun q => (own_ne R_NEXT_KEY_ordinal R_INSERT_INTENTION_ordinal (by decide)) (Value.ref.inj q)) (by decide) (by decide) ?_
    show Steps _ _ _ (T62.setTop (mkF m 7 #[rv a_NEXT_KEY, rv a_NEXT_KEY, iv 1, .unset] [])) _
    refine XS.aloadN X62.here hx rfl (hb hby d2_7) rfl rfl ?_
    show Steps _ _ _ (T62.setTop (mkF m 8 #[rv a_NEXT_KEY, rv a_NEXT_KEY, iv 1, .unset] [(.ref a_NEXT_KEY)])) _
    exact q
  obtain ⟨T64, X64, e64, st64⟩ := getS2 X62 hx hZ hown (host := "") (Or.inl (hw _ (wd 21 rfl))) Via.refl e62 (S_INSERT_INTENTION.ext O0.2) (g := (mkF m 8 #[rv a_NEXT_KEY, rv a_NEXT_KEY, iv 1, .unset] [(.ref a_NEXT_KEY)])) rfl (hb hby d2_8)
  have k_65 : Go p.tables e below (s₁.setTop (entryFrame m #[(.ref a_NEXT_KEY), (.ref a_NEXT_KEY), (.int 1)] 4)) (T64.setTop (mkF m 42 #[rv a_NEXT_KEY, rv a_NEXT_KEY, iv 1, iv 1] [(.int 1)])) := fun t q => by
    refine k_63 t ?_
    refine st64 _ ?_
    show Steps _ _ _ (T64.setTop (mkF m 11 #[rv a_NEXT_KEY, rv a_NEXT_KEY, iv 1, .unset] [(.ref a_INSERT_INTENTION), (.ref a_NEXT_KEY)])) _
    refine Jvm.RoadKit.acmp (g := (mkF m 11 #[rv a_NEXT_KEY, rv a_NEXT_KEY, iv 1, .unset] [(.ref a_INSERT_INTENTION), (.ref a_NEXT_KEY)])) X64 hx rfl rfl rfl (pc0 := 11) (pc' := 19) (same := false) rfl (hb hby d2_11) rfl (decide_eq_false fun q => (own_ne R_NEXT_KEY_ordinal R_INSERT_INTENTION_ordinal (by decide)) (Value.ref.inj q)) (by decide) (by decide) ?_
    show Steps _ _ _ (T64.setTop (mkF m 19 #[rv a_NEXT_KEY, rv a_NEXT_KEY, iv 1, .unset] [])) _
    refine XS.iloadN X64.here hx rfl (hb hby d2_19) rfl ?_
    show Steps _ _ _ (T64.setTop (mkF m 20 #[rv a_NEXT_KEY, rv a_NEXT_KEY, iv 1, .unset] [(.int 1)])) _
    refine XS.ifYes X64.here hx rfl (pc0 := 20) (pc' := 35) rfl (hb hby d2_20) rfl (by decide) (by decide) (by decide) ?_
    show Steps _ _ _ (T64.setTop (mkF m 35 #[rv a_NEXT_KEY, rv a_NEXT_KEY, iv 1, .unset] [])) _
    refine XS.iconst X64.here hx rfl (hb hby d2_35) ?_
    show Steps _ _ _ (T64.setTop (mkF m 36 #[rv a_NEXT_KEY, rv a_NEXT_KEY, iv 1, .unset] [(.int 1)])) _
    refine XS.goto X64.here hx rfl (pc0 := 36) (pc' := 40) rfl (hb hby d2_36) (by decide) (by decide) ?_
    show Steps _ _ _ (T64.setTop (mkF m 40 #[rv a_NEXT_KEY, rv a_NEXT_KEY, iv 1, .unset] [(.int 1)])) _
    refine XS.istoreN X64.here hx rfl (hb hby d2_40) rfl (l' := #[rv a_NEXT_KEY, rv a_NEXT_KEY, iv 1, iv 1]) rfl ?_
    show Steps _ _ _ (T64.setTop (mkF m 41 #[rv a_NEXT_KEY, rv a_NEXT_KEY, iv 1, iv 1] [])) _
    refine XS.iloadN X64.here hx rfl (hb hby d2_41) rfl ?_
    show Steps _ _ _ (T64.setTop (mkF m 42 #[rv a_NEXT_KEY, rv a_NEXT_KEY, iv 1, iv 1] [(.int 1)])) _
    exact q
  obtain ⟨fs, hr, hrun, hended, hW, hsame⟩ := X64.leave (v := some (.int 1)) (fun h => by rw [Bd.returns] at h; cases h)
  refine ⟨_, _, k_65 _ ?_, hrun, hended, _, _, rfl, ?_, ⟨_, rfl⟩, hW, hsame.mono (by decide) (by decide)⟩
  · exact retN X64 hx (t := .boolean) Bd.returns (by simp) (hb hby d2_42) hr
  · show QV (some (.int 1)) h0 n0 _ T64.heap _
    rw [e64]
    exact ⟨rfl, N0, rfl⟩
set_option maxRecDepth 65536 in
set_option maxHeartbeats 40000000 in
theorem cv_0_1_0 (l : Launch) (Z : State) (a0 : Array Value) (hw : ∀ d ∈ tables_1, d.before a0 Z = true) (ws : List Jvm.Cond) (a_NEXT_KEY a_GAP a_RECORD a_INSERT_INTENTION : Addr) (G : Own Z a_NEXT_KEY a_GAP a_RECORD a_INSERT_INTENTION)  (h0 : Heap) (n0 : Nat) (O0 : Old Z n0 h0)  :
    MetFree l y_3 (head1 (Jvm.Cond.code y_3 prog_87_method_5_code 4 (some .boolean) :: ws) ({ frames := 0, cells := 0, slots := 0, locals := 0 } : Room)) (fun a U => a = #[(.ref a_NEXT_KEY), (.ref a_GAP), (.int 0)] ∧ Z.Warmed39 U.vm ∧ U.heap = h0) (fun _ _ _ _ _ => True) (fun _ U o U' => ∃ v L, o = .returned v ∧ QV (some (.int 1)) h0 n0 v U'.heap L ∧ FrameEnd U o U' L ({ frames := 0, cells := 0, slots := 0, locals := 0 } : Room).cells ({ frames := 0, cells := 0, slots := 0, locals := 0 } : Room).slots) := by
  refine MetFree.of_bodySF (plainFor_of_name pn_1) hisR ?_
  intro p e s m args below meth c s₁ Bd hml0 hP hK
  obtain ⟨rfl, hZ, hh⟩ := hP
  have hx := Bd.exec
  have hby := Bd.bytes
  have hml : c.maxLocals = 4 := hml0
  have hown : s.vm.findClass "com/example/nkdb/nkdb/transaction/LockKind" = some m.cls := findClass_of_methodNamed Bd.named
  have hnm := (name_of_methodNamed Bd.named Bd.method).1
  have X0 : Stand p l e ({ frames := 0, cells := 0, slots := 0, locals := 0 } : Room) s m #[(.ref a_NEXT_KEY), (.ref a_GAP), (.int 0)] below meth c s₁ [] 0 0 := Stand.of_body Bd
  have e0 : s₁.heap = h0 := by rw [← hh, Bd.state]; rfl
  have N0 := Fr.nil n0
  have K0 := Keep.refl h0 []
  have k0 : Go p.tables e below (s₁.setTop (entryFrame m #[(.ref a_NEXT_KEY), (.ref a_GAP), (.int 0)] 4)) (s₁.setTop (mkF m 0 #[rv a_NEXT_KEY, rv a_GAP, iv 0, .unset] [])) := fun t k => castTop (by first | rfl | (simp [entryFrame, mkF, argsToLocals, Value.category]; done)) k
  have ⟨S_NEXT_KEY, E_NEXT_KEY, S_GAP, E_GAP, S_RECORD, E_RECORD, S_INSERT_INTENTION, E_INSERT_INTENTION, R_NEXT_KEY_ordinal, R_INSERT_INTENTION_ordinal, R_GAP_ordinal, R_RECORD_ordinal⟩ := G
  have k_66 : Go p.tables e below (s₁.setTop (entryFrame m #[(.ref a_NEXT_KEY), (.ref a_GAP), (.int 0)] 4)) (s₁.setTop (mkF m 1 #[rv a_NEXT_KEY, rv a_GAP, iv 0, .unset] [(.ref a_NEXT_KEY)])) := fun t q => by
    refine k0 t ?_
    refine XS.aloadN X0.here hx rfl (hb hby d2_0) rfl rfl ?_
    show Steps _ _ _ (s₁.setTop (mkF m 1 #[rv a_NEXT_KEY, rv a_GAP, iv 0, .unset] [(.ref a_NEXT_KEY)])) _
    exact q
  obtain ⟨T67, X67, e67, st67⟩ := getS2 X0 hx hZ hown (host := "") (Or.inl (hw _ (wd 21 rfl))) Via.refl e0 (S_INSERT_INTENTION.ext O0.2) (g := (mkF m 1 #[rv a_NEXT_KEY, rv a_GAP, iv 0, .unset] [(.ref a_NEXT_KEY)])) rfl (hb hby d2_1)
  have k_68 : Go p.tables e below (s₁.setTop (entryFrame m #[(.ref a_NEXT_KEY), (.ref a_GAP), (.int 0)] 4)) (T67.setTop (mkF m 8 #[rv a_NEXT_KEY, rv a_GAP, iv 0, .unset] [(.ref a_GAP)])) := fun t q => by
    refine k_66 t ?_
    refine st67 _ ?_
    show Steps _ _ _ (T67.setTop (mkF m 4 #[rv a_NEXT_KEY, rv a_GAP, iv 0, .unset] [(.ref a_INSERT_INTENTION), (.ref a_NEXT_KEY)])) _
    refine Jvm.RoadKit.acmp (g := (mkF m 4 #[rv a_NEXT_KEY, rv a_GAP, iv 0, .unset] [(.ref a_INSERT_INTENTION), (.ref a_NEXT_KEY)])) X67 hx rfl rfl rfl (pc0 := 4) (pc' := 7) (same := false) rfl (hb hby d2_4) rfl (decide_eq_false fun q => (own_ne R_NEXT_KEY_ordinal R_INSERT_INTENTION_ordinal (by decide)) (Value.ref.inj q)) (by decide) (by decide) ?_
    show Steps _ _ _ (T67.setTop (mkF m 7 #[rv a_NEXT_KEY, rv a_GAP, iv 0, .unset] [])) _
    refine XS.aloadN X67.here hx rfl (hb hby d2_7) rfl rfl ?_
    show Steps _ _ _ (T67.setTop (mkF m 8 #[rv a_NEXT_KEY, rv a_GAP, iv 0, .unset] [(.ref a_GAP)])) _
    exact q
  obtain ⟨T69, X69, e69, st69⟩ := getS2 X67 hx hZ hown (host := "") (Or.inl (hw _ (wd 21 rfl))) Via.refl e67 (S_INSERT_INTENTION.ext O0.2) (g := (mkF m 8 #[rv a_NEXT_KEY, rv a_GAP, iv 0, .unset] [(.ref a_GAP)])) rfl (hb hby d2_8)
  have k_70 : Go p.tables e below (s₁.setTop (entryFrame m #[(.ref a_NEXT_KEY), (.ref a_GAP), (.int 0)] 4)) (T69.setTop (mkF m 24 #[rv a_NEXT_KEY, rv a_GAP, iv 0, .unset] [(.ref a_NEXT_KEY)])) := fun t q => by
    refine k_68 t ?_
    refine st69 _ ?_
    show Steps _ _ _ (T69.setTop (mkF m 11 #[rv a_NEXT_KEY, rv a_GAP, iv 0, .unset] [(.ref a_INSERT_INTENTION), (.ref a_GAP)])) _
    refine Jvm.RoadKit.acmp (g := (mkF m 11 #[rv a_NEXT_KEY, rv a_GAP, iv 0, .unset] [(.ref a_INSERT_INTENTION), (.ref a_GAP)])) X69 hx rfl rfl rfl (pc0 := 11) (pc' := 19) (same := false) rfl (hb hby d2_11) rfl (decide_eq_false fun q => (own_ne R_GAP_ordinal R_INSERT_INTENTION_ordinal (by decide)) (Value.ref.inj q)) (by decide) (by decide) ?_
    show Steps _ _ _ (T69.setTop (mkF m 19 #[rv a_NEXT_KEY, rv a_GAP, iv 0, .unset] [])) _
    refine XS.iloadN X69.here hx rfl (hb hby d2_19) rfl ?_
    show Steps _ _ _ (T69.setTop (mkF m 20 #[rv a_NEXT_KEY, rv a_GAP, iv 0, .unset] [(.int 0)])) _
    refine XS.ifNo X69.here hx rfl (hb hby d2_20) rfl (by decide) ?_
    show Steps _ _ _ (T69.setTop (mkF m 23 #[rv a_NEXT_KEY, rv a_GAP, iv 0, .unset] [])) _
    refine XS.aloadN X69.here hx rfl (hb hby d2_23) rfl rfl ?_
    show Steps _ _ _ (T69.setTop (mkF m 24 #[rv a_NEXT_KEY, rv a_GAP, iv 0, .unset] [(.ref a_NEXT_KEY)])) _
    exact q
  obtain ⟨T71, X71, e71, st71⟩ := getS2 X69 hx hZ hown (host := "") (Or.inl (hw _ (wd 28 rfl))) Via.refl e69 (S_NEXT_KEY.ext O0.2) (g := (mkF m 24 #[rv a_NEXT_KEY, rv a_GAP, iv 0, .unset] [(.ref a_NEXT_KEY)])) rfl (hb hby d2_24)
  have k_72 : Go p.tables e below (s₁.setTop (entryFrame m #[(.ref a_NEXT_KEY), (.ref a_GAP), (.int 0)] 4)) (T71.setTop (mkF m 42 #[rv a_NEXT_KEY, rv a_GAP, iv 0, iv 1] [(.int 1)])) := fun t q => by
    refine k_70 t ?_
    refine st71 _ ?_
    show Steps _ _ _ (T71.setTop (mkF m 27 #[rv a_NEXT_KEY, rv a_GAP, iv 0, .unset] [(.ref a_NEXT_KEY), (.ref a_NEXT_KEY)])) _
    refine Jvm.RoadKit.acmp (g := (mkF m 27 #[rv a_NEXT_KEY, rv a_GAP, iv 0, .unset] [(.ref a_NEXT_KEY), (.ref a_NEXT_KEY)])) X71 hx rfl rfl rfl (pc0 := 27) (pc' := 35) (same := true) rfl (hb hby d2_27) rfl (decide_eq_true rfl) (by decide) (by decide) ?_
    show Steps _ _ _ (T71.setTop (mkF m 35 #[rv a_NEXT_KEY, rv a_GAP, iv 0, .unset] [])) _
    refine XS.iconst X71.here hx rfl (hb hby d2_35) ?_
    show Steps _ _ _ (T71.setTop (mkF m 36 #[rv a_NEXT_KEY, rv a_GAP, iv 0, .unset] [(.int 1)])) _
    refine XS.goto X71.here hx rfl (pc0 := 36) (pc' := 40) rfl (hb hby d2_36) (by decide) (by decide) ?_
    show Steps _ _ _ (T71.setTop (mkF m 40 #[rv a_NEXT_KEY, rv a_GAP, iv 0, .unset] [(.int 1)])) _
    refine XS.istoreN X71.here hx rfl (hb hby d2_40) rfl (l' := #[rv a_NEXT_KEY, rv a_GAP, iv 0, iv 1]) rfl ?_
    show Steps _ _ _ (T71.setTop (mkF m 41 #[rv a_NEXT_KEY, rv a_GAP, iv 0, iv 1] [])) _
    refine XS.iloadN X71.here hx rfl (hb hby d2_41) rfl ?_
    show Steps _ _ _ (T71.setTop (mkF m 42 #[rv a_NEXT_KEY, rv a_GAP, iv 0, iv 1] [(.int 1)])) _
    exact q
  obtain ⟨fs, hr, hrun, hended, hW, hsame⟩ := X71.leave (v := some (.int 1)) (fun h => by rw [Bd.returns] at h; cases h)
  refine ⟨_, _, k_72 _ ?_, hrun, hended, _, _, rfl, ?_, ⟨_, rfl⟩, hW, hsame.mono (by decide) (by decide)⟩
  · exact retN X71 hx (t := .boolean) Bd.returns (by simp) (hb hby d2_42) hr
  · show QV (some (.int 1)) h0 n0 _ T71.heap _
    rw [e71]
    exact ⟨rfl, N0, rfl⟩
set_option maxRecDepth 65536 in
set_option maxHeartbeats 40000000 in
theorem cv_0_1_1 (l : Launch) (Z : State) (a0 : Array Value) (hw : ∀ d ∈ tables_1, d.before a0 Z = true) (ws : List Jvm.Cond) (a_NEXT_KEY a_GAP a_RECORD a_INSERT_INTENTION : Addr) (G : Own Z a_NEXT_KEY a_GAP a_RECORD a_INSERT_INTENTION)  (h0 : Heap) (n0 : Nat) (O0 : Old Z n0 h0)  :
    MetFree l y_3 (head1 (Jvm.Cond.code y_3 prog_87_method_5_code 4 (some .boolean) :: ws) ({ frames := 0, cells := 0, slots := 0, locals := 0 } : Room)) (fun a U => a = #[(.ref a_NEXT_KEY), (.ref a_GAP), (.int 1)] ∧ Z.Warmed39 U.vm ∧ U.heap = h0) (fun _ _ _ _ _ => True) (fun _ U o U' => ∃ v L, o = .returned v ∧ QV (some (.int 1)) h0 n0 v U'.heap L ∧ FrameEnd U o U' L ({ frames := 0, cells := 0, slots := 0, locals := 0 } : Room).cells ({ frames := 0, cells := 0, slots := 0, locals := 0 } : Room).slots) := by
  refine MetFree.of_bodySF (plainFor_of_name pn_1) hisR ?_
  intro p e s m args below meth c s₁ Bd hml0 hP hK
  obtain ⟨rfl, hZ, hh⟩ := hP
  have hx := Bd.exec
  have hby := Bd.bytes
  have hml : c.maxLocals = 4 := hml0
  have hown : s.vm.findClass "com/example/nkdb/nkdb/transaction/LockKind" = some m.cls := findClass_of_methodNamed Bd.named
  have hnm := (name_of_methodNamed Bd.named Bd.method).1
  have X0 : Stand p l e ({ frames := 0, cells := 0, slots := 0, locals := 0 } : Room) s m #[(.ref a_NEXT_KEY), (.ref a_GAP), (.int 1)] below meth c s₁ [] 0 0 := Stand.of_body Bd
  have e0 : s₁.heap = h0 := by rw [← hh, Bd.state]; rfl
  have N0 := Fr.nil n0
  have K0 := Keep.refl h0 []
  have k0 : Go p.tables e below (s₁.setTop (entryFrame m #[(.ref a_NEXT_KEY), (.ref a_GAP), (.int 1)] 4)) (s₁.setTop (mkF m 0 #[rv a_NEXT_KEY, rv a_GAP, iv 1, .unset] [])) := fun t k => castTop (by first | rfl | (simp [entryFrame, mkF, argsToLocals, Value.category]; done)) k
  have ⟨S_NEXT_KEY, E_NEXT_KEY, S_GAP, E_GAP, S_RECORD, E_RECORD, S_INSERT_INTENTION, E_INSERT_INTENTION, R_NEXT_KEY_ordinal, R_INSERT_INTENTION_ordinal, R_GAP_ordinal, R_RECORD_ordinal⟩ := G
  have k_73 : Go p.tables e below (s₁.setTop (entryFrame m #[(.ref a_NEXT_KEY), (.ref a_GAP), (.int 1)] 4)) (s₁.setTop (mkF m 1 #[rv a_NEXT_KEY, rv a_GAP, iv 1, .unset] [(.ref a_NEXT_KEY)])) := fun t q => by
    refine k0 t ?_
    refine XS.aloadN X0.here hx rfl (hb hby d2_0) rfl rfl ?_
    show Steps _ _ _ (s₁.setTop (mkF m 1 #[rv a_NEXT_KEY, rv a_GAP, iv 1, .unset] [(.ref a_NEXT_KEY)])) _
    exact q
  obtain ⟨T74, X74, e74, st74⟩ := getS2 X0 hx hZ hown (host := "") (Or.inl (hw _ (wd 21 rfl))) Via.refl e0 (S_INSERT_INTENTION.ext O0.2) (g := (mkF m 1 #[rv a_NEXT_KEY, rv a_GAP, iv 1, .unset] [(.ref a_NEXT_KEY)])) rfl (hb hby d2_1)
  have k_75 : Go p.tables e below (s₁.setTop (entryFrame m #[(.ref a_NEXT_KEY), (.ref a_GAP), (.int 1)] 4)) (T74.setTop (mkF m 8 #[rv a_NEXT_KEY, rv a_GAP, iv 1, .unset] [(.ref a_GAP)])) := fun t q => by
    refine k_73 t ?_
    refine st74 _ ?_
    show Steps _ _ _ (T74.setTop (mkF m 4 #[rv a_NEXT_KEY, rv a_GAP, iv 1, .unset] [(.ref a_INSERT_INTENTION), (.ref a_NEXT_KEY)])) _
    refine Jvm.RoadKit.acmp (g := (mkF m 4 #[rv a_NEXT_KEY, rv a_GAP, iv 1, .unset] [(.ref a_INSERT_INTENTION), (.ref a_NEXT_KEY)])) X74 hx rfl rfl rfl (pc0 := 4) (pc' := 7) (same := false) rfl (hb hby d2_4) rfl (decide_eq_false fun q => (own_ne R_NEXT_KEY_ordinal R_INSERT_INTENTION_ordinal (by decide)) (Value.ref.inj q)) (by decide) (by decide) ?_
    show Steps _ _ _ (T74.setTop (mkF m 7 #[rv a_NEXT_KEY, rv a_GAP, iv 1, .unset] [])) _
    refine XS.aloadN X74.here hx rfl (hb hby d2_7) rfl rfl ?_
    show Steps _ _ _ (T74.setTop (mkF m 8 #[rv a_NEXT_KEY, rv a_GAP, iv 1, .unset] [(.ref a_GAP)])) _
    exact q
  obtain ⟨T76, X76, e76, st76⟩ := getS2 X74 hx hZ hown (host := "") (Or.inl (hw _ (wd 21 rfl))) Via.refl e74 (S_INSERT_INTENTION.ext O0.2) (g := (mkF m 8 #[rv a_NEXT_KEY, rv a_GAP, iv 1, .unset] [(.ref a_GAP)])) rfl (hb hby d2_8)
  have k_77 : Go p.tables e below (s₁.setTop (entryFrame m #[(.ref a_NEXT_KEY), (.ref a_GAP), (.int 1)] 4)) (T76.setTop (mkF m 42 #[rv a_NEXT_KEY, rv a_GAP, iv 1, iv 1] [(.int 1)])) := fun t q => by
    refine k_75 t ?_
    refine st76 _ ?_
    show Steps _ _ _ (T76.setTop (mkF m 11 #[rv a_NEXT_KEY, rv a_GAP, iv 1, .unset] [(.ref a_INSERT_INTENTION), (.ref a_GAP)])) _
    refine Jvm.RoadKit.acmp (g := (mkF m 11 #[rv a_NEXT_KEY, rv a_GAP, iv 1, .unset] [(.ref a_INSERT_INTENTION), (.ref a_GAP)])) X76 hx rfl rfl rfl (pc0 := 11) (pc' := 19) (same := false) rfl (hb hby d2_11) rfl (decide_eq_false fun q => (own_ne R_GAP_ordinal R_INSERT_INTENTION_ordinal (by decide)) (Value.ref.inj q)) (by decide) (by decide) ?_
    show Steps _ _ _ (T76.setTop (mkF m 19 #[rv a_NEXT_KEY, rv a_GAP, iv 1, .unset] [])) _
    refine XS.iloadN X76.here hx rfl (hb hby d2_19) rfl ?_
    show Steps _ _ _ (T76.setTop (mkF m 20 #[rv a_NEXT_KEY, rv a_GAP, iv 1, .unset] [(.int 1)])) _
    refine XS.ifYes X76.here hx rfl (pc0 := 20) (pc' := 35) rfl (hb hby d2_20) rfl (by decide) (by decide) (by decide) ?_
    show Steps _ _ _ (T76.setTop (mkF m 35 #[rv a_NEXT_KEY, rv a_GAP, iv 1, .unset] [])) _
    refine XS.iconst X76.here hx rfl (hb hby d2_35) ?_
    show Steps _ _ _ (T76.setTop (mkF m 36 #[rv a_NEXT_KEY, rv a_GAP, iv 1, .unset] [(.int 1)])) _
    refine XS.goto X76.here hx rfl (pc0 := 36) (pc' := 40) rfl (hb hby d2_36) (by decide) (by decide) ?_
    show Steps _ _ _ (T76.setTop (mkF m 40 #[rv a_NEXT_KEY, rv a_GAP, iv 1, .unset] [(.int 1)])) _
    refine XS.istoreN X76.here hx rfl (hb hby d2_40) rfl (l' := #[rv a_NEXT_KEY, rv a_GAP, iv 1, iv 1]) rfl ?_
    show Steps _ _ _ (T76.setTop (mkF m 41 #[rv a_NEXT_KEY, rv a_GAP, iv 1, iv 1] [])) _
    refine XS.iloadN X76.here hx rfl (hb hby d2_41) rfl ?_
    show Steps _ _ _ (T76.setTop (mkF m 42 #[rv a_NEXT_KEY, rv a_GAP, iv 1, iv 1] [(.int 1)])) _
    exact q
  obtain ⟨fs, hr, hrun, hended, hW, hsame⟩ := X76.leave (v := some (.int 1)) (fun h => by rw [Bd.returns] at h; cases h)
  refine ⟨_, _, k_77 _ ?_, hrun, hended, _, _, rfl, ?_, ⟨_, rfl⟩, hW, hsame.mono (by decide) (by decide)⟩
  · exact retN X76 hx (t := .boolean) Bd.returns (by simp) (hb hby d2_42) hr
  · show QV (some (.int 1)) h0 n0 _ T76.heap _
    rw [e76]
    exact ⟨rfl, N0, rfl⟩
set_option maxRecDepth 65536 in
set_option maxHeartbeats 40000000 in
theorem cv_0_2_0 (l : Launch) (Z : State) (a0 : Array Value) (hw : ∀ d ∈ tables_1, d.before a0 Z = true) (ws : List Jvm.Cond) (a_NEXT_KEY a_GAP a_RECORD a_INSERT_INTENTION : Addr) (G : Own Z a_NEXT_KEY a_GAP a_RECORD a_INSERT_INTENTION)  (h0 : Heap) (n0 : Nat) (O0 : Old Z n0 h0)  :
    MetFree l y_3 (head1 (Jvm.Cond.code y_3 prog_87_method_5_code 4 (some .boolean) :: ws) ({ frames := 0, cells := 0, slots := 0, locals := 0 } : Room)) (fun a U => a = #[(.ref a_NEXT_KEY), (.ref a_RECORD), (.int 0)] ∧ Z.Warmed39 U.vm ∧ U.heap = h0) (fun _ _ _ _ _ => True) (fun _ U o U' => ∃ v L, o = .returned v ∧ QV (some (.int 1)) h0 n0 v U'.heap L ∧ FrameEnd U o U' L ({ frames := 0, cells := 0, slots := 0, locals := 0 } : Room).cells ({ frames := 0, cells := 0, slots := 0, locals := 0 } : Room).slots) := by
  refine MetFree.of_bodySF (plainFor_of_name pn_1) hisR ?_
  intro p e s m args below meth c s₁ Bd hml0 hP hK
  obtain ⟨rfl, hZ, hh⟩ := hP
  have hx := Bd.exec
  have hby := Bd.bytes
  have hml : c.maxLocals = 4 := hml0
  have hown : s.vm.findClass "com/example/nkdb/nkdb/transaction/LockKind" = some m.cls := findClass_of_methodNamed Bd.named
  have hnm := (name_of_methodNamed Bd.named Bd.method).1
  have X0 : Stand p l e ({ frames := 0, cells := 0, slots := 0, locals := 0 } : Room) s m #[(.ref a_NEXT_KEY), (.ref a_RECORD), (.int 0)] below meth c s₁ [] 0 0 := Stand.of_body Bd
  have e0 : s₁.heap = h0 := by rw [← hh, Bd.state]; rfl
  have N0 := Fr.nil n0
  have K0 := Keep.refl h0 []
  have k0 : Go p.tables e below (s₁.setTop (entryFrame m #[(.ref a_NEXT_KEY), (.ref a_RECORD), (.int 0)] 4)) (s₁.setTop (mkF m 0 #[rv a_NEXT_KEY, rv a_RECORD, iv 0, .unset] [])) := fun t k => castTop (by first | rfl | (simp [entryFrame, mkF, argsToLocals, Value.category]; done)) k
  have ⟨S_NEXT_KEY, E_NEXT_KEY, S_GAP, E_GAP, S_RECORD, E_RECORD, S_INSERT_INTENTION, E_INSERT_INTENTION, R_NEXT_KEY_ordinal, R_INSERT_INTENTION_ordinal, R_GAP_ordinal, R_RECORD_ordinal⟩ := G
  have k_78 : Go p.tables e below (s₁.setTop (entryFrame m #[(.ref a_NEXT_KEY), (.ref a_RECORD), (.int 0)] 4)) (s₁.setTop (mkF m 1 #[rv a_NEXT_KEY, rv a_RECORD, iv 0, .unset] [(.ref a_NEXT_KEY)])) := fun t q => by
    refine k0 t ?_
    refine XS.aloadN X0.here hx rfl (hb hby d2_0) rfl rfl ?_
    show Steps _ _ _ (s₁.setTop (mkF m 1 #[rv a_NEXT_KEY, rv a_RECORD, iv 0, .unset] [(.ref a_NEXT_KEY)])) _
    exact q
  obtain ⟨T79, X79, e79, st79⟩ := getS2 X0 hx hZ hown (host := "") (Or.inl (hw _ (wd 21 rfl))) Via.refl e0 (S_INSERT_INTENTION.ext O0.2) (g := (mkF m 1 #[rv a_NEXT_KEY, rv a_RECORD, iv 0, .unset] [(.ref a_NEXT_KEY)])) rfl (hb hby d2_1)
  have k_80 : Go p.tables e below (s₁.setTop (entryFrame m #[(.ref a_NEXT_KEY), (.ref a_RECORD), (.int 0)] 4)) (T79.setTop (mkF m 8 #[rv a_NEXT_KEY, rv a_RECORD, iv 0, .unset] [(.ref a_RECORD)])) := fun t q => by
    refine k_78 t ?_
    refine st79 _ ?_
    show Steps _ _ _ (T79.setTop (mkF m 4 #[rv a_NEXT_KEY, rv a_RECORD, iv 0, .unset] [(.ref a_INSERT_INTENTION), (.ref a_NEXT_KEY)])) _
    refine Jvm.RoadKit.acmp (g := (mkF m 4 #[rv a_NEXT_KEY, rv a_RECORD, iv 0, .unset] [(.ref a_INSERT_INTENTION), (.ref a_NEXT_KEY)])) X79 hx rfl rfl rfl (pc0 := 4) (pc' := 7) (same := false) rfl (hb hby d2_4) rfl (decide_eq_false fun q => (own_ne R_NEXT_KEY_ordinal R_INSERT_INTENTION_ordinal (by decide)) (Value.ref.inj q)) (by decide) (by decide) ?_
    show Steps _ _ _ (T79.setTop (mkF m 7 #[rv a_NEXT_KEY, rv a_RECORD, iv 0, .unset] [])) _
    refine XS.aloadN X79.here hx rfl (hb hby d2_7) rfl rfl ?_
    show Steps _ _ _ (T79.setTop (mkF m 8 #[rv a_NEXT_KEY, rv a_RECORD, iv 0, .unset] [(.ref a_RECORD)])) _
    exact q
  obtain ⟨T81, X81, e81, st81⟩ := getS2 X79 hx hZ hown (host := "") (Or.inl (hw _ (wd 21 rfl))) Via.refl e79 (S_INSERT_INTENTION.ext O0.2) (g := (mkF m 8 #[rv a_NEXT_KEY, rv a_RECORD, iv 0, .unset] [(.ref a_RECORD)])) rfl (hb hby d2_8)
  have k_82 : Go p.tables e below (s₁.setTop (entryFrame m #[(.ref a_NEXT_KEY), (.ref a_RECORD), (.int 0)] 4)) (T81.setTop (mkF m 24 #[rv a_NEXT_KEY, rv a_RECORD, iv 0, .unset] [(.ref a_NEXT_KEY)])) := fun t q => by
    refine k_80 t ?_
    refine st81 _ ?_
    show Steps _ _ _ (T81.setTop (mkF m 11 #[rv a_NEXT_KEY, rv a_RECORD, iv 0, .unset] [(.ref a_INSERT_INTENTION), (.ref a_RECORD)])) _
    refine Jvm.RoadKit.acmp (g := (mkF m 11 #[rv a_NEXT_KEY, rv a_RECORD, iv 0, .unset] [(.ref a_INSERT_INTENTION), (.ref a_RECORD)])) X81 hx rfl rfl rfl (pc0 := 11) (pc' := 19) (same := false) rfl (hb hby d2_11) rfl (decide_eq_false fun q => (own_ne R_RECORD_ordinal R_INSERT_INTENTION_ordinal (by decide)) (Value.ref.inj q)) (by decide) (by decide) ?_
    show Steps _ _ _ (T81.setTop (mkF m 19 #[rv a_NEXT_KEY, rv a_RECORD, iv 0, .unset] [])) _
    refine XS.iloadN X81.here hx rfl (hb hby d2_19) rfl ?_
    show Steps _ _ _ (T81.setTop (mkF m 20 #[rv a_NEXT_KEY, rv a_RECORD, iv 0, .unset] [(.int 0)])) _
    refine XS.ifNo X81.here hx rfl (hb hby d2_20) rfl (by decide) ?_
    show Steps _ _ _ (T81.setTop (mkF m 23 #[rv a_NEXT_KEY, rv a_RECORD, iv 0, .unset] [])) _
    refine XS.aloadN X81.here hx rfl (hb hby d2_23) rfl rfl ?_
    show Steps _ _ _ (T81.setTop (mkF m 24 #[rv a_NEXT_KEY, rv a_RECORD, iv 0, .unset] [(.ref a_NEXT_KEY)])) _
    exact q
  obtain ⟨T83, X83, e83, st83⟩ := getS2 X81 hx hZ hown (host := "") (Or.inl (hw _ (wd 28 rfl))) Via.refl e81 (S_NEXT_KEY.ext O0.2) (g := (mkF m 24 #[rv a_NEXT_KEY, rv a_RECORD, iv 0, .unset] [(.ref a_NEXT_KEY)])) rfl (hb hby d2_24)
  have k_84 : Go p.tables e below (s₁.setTop (entryFrame m #[(.ref a_NEXT_KEY), (.ref a_RECORD), (.int 0)] 4)) (T83.setTop (mkF m 42 #[rv a_NEXT_KEY, rv a_RECORD, iv 0, iv 1] [(.int 1)])) := fun t q => by
    refine k_82 t ?_
    refine st83 _ ?_
    show Steps _ _ _ (T83.setTop (mkF m 27 #[rv a_NEXT_KEY, rv a_RECORD, iv 0, .unset] [(.ref a_NEXT_KEY), (.ref a_NEXT_KEY)])) _
    refine Jvm.RoadKit.acmp (g := (mkF m 27 #[rv a_NEXT_KEY, rv a_RECORD, iv 0, .unset] [(.ref a_NEXT_KEY), (.ref a_NEXT_KEY)])) X83 hx rfl rfl rfl (pc0 := 27) (pc' := 35) (same := true) rfl (hb hby d2_27) rfl (decide_eq_true rfl) (by decide) (by decide) ?_
    show Steps _ _ _ (T83.setTop (mkF m 35 #[rv a_NEXT_KEY, rv a_RECORD, iv 0, .unset] [])) _
    refine XS.iconst X83.here hx rfl (hb hby d2_35) ?_
    show Steps _ _ _ (T83.setTop (mkF m 36 #[rv a_NEXT_KEY, rv a_RECORD, iv 0, .unset] [(.int 1)])) _
    refine XS.goto X83.here hx rfl (pc0 := 36) (pc' := 40) rfl (hb hby d2_36) (by decide) (by decide) ?_
    show Steps _ _ _ (T83.setTop (mkF m 40 #[rv a_NEXT_KEY, rv a_RECORD, iv 0, .unset] [(.int 1)])) _
    refine XS.istoreN X83.here hx rfl (hb hby d2_40) rfl (l' := #[rv a_NEXT_KEY, rv a_RECORD, iv 0, iv 1]) rfl ?_
    show Steps _ _ _ (T83.setTop (mkF m 41 #[rv a_NEXT_KEY, rv a_RECORD, iv 0, iv 1] [])) _
    refine XS.iloadN X83.here hx rfl (hb hby d2_41) rfl ?_
    show Steps _ _ _ (T83.setTop (mkF m 42 #[rv a_NEXT_KEY, rv a_RECORD, iv 0, iv 1] [(.int 1)])) _
    exact q
  obtain ⟨fs, hr, hrun, hended, hW, hsame⟩ := X83.leave (v := some (.int 1)) (fun h => by rw [Bd.returns] at h; cases h)
  refine ⟨_, _, k_84 _ ?_, hrun, hended, _, _, rfl, ?_, ⟨_, rfl⟩, hW, hsame.mono (by decide) (by decide)⟩
  · exact retN X83 hx (t := .boolean) Bd.returns (by simp) (hb hby d2_42) hr
  · show QV (some (.int 1)) h0 n0 _ T83.heap _
    rw [e83]
    exact ⟨rfl, N0, rfl⟩
set_option maxRecDepth 65536 in
set_option maxHeartbeats 40000000 in
theorem cv_0_2_1 (l : Launch) (Z : State) (a0 : Array Value) (hw : ∀ d ∈ tables_1, d.before a0 Z = true) (ws : List Jvm.Cond) (a_NEXT_KEY a_GAP a_RECORD a_INSERT_INTENTION : Addr) (G : Own Z a_NEXT_KEY a_GAP a_RECORD a_INSERT_INTENTION)  (h0 : Heap) (n0 : Nat) (O0 : Old Z n0 h0)  :
    MetFree l y_3 (head1 (Jvm.Cond.code y_3 prog_87_method_5_code 4 (some .boolean) :: ws) ({ frames := 0, cells := 0, slots := 0, locals := 0 } : Room)) (fun a U => a = #[(.ref a_NEXT_KEY), (.ref a_RECORD), (.int 1)] ∧ Z.Warmed39 U.vm ∧ U.heap = h0) (fun _ _ _ _ _ => True) (fun _ U o U' => ∃ v L, o = .returned v ∧ QV (some (.int 1)) h0 n0 v U'.heap L ∧ FrameEnd U o U' L ({ frames := 0, cells := 0, slots := 0, locals := 0 } : Room).cells ({ frames := 0, cells := 0, slots := 0, locals := 0 } : Room).slots) := by
  refine MetFree.of_bodySF (plainFor_of_name pn_1) hisR ?_
  intro p e s m args below meth c s₁ Bd hml0 hP hK
  obtain ⟨rfl, hZ, hh⟩ := hP
  have hx := Bd.exec
  have hby := Bd.bytes
  have hml : c.maxLocals = 4 := hml0
  have hown : s.vm.findClass "com/example/nkdb/nkdb/transaction/LockKind" = some m.cls := findClass_of_methodNamed Bd.named
  have hnm := (name_of_methodNamed Bd.named Bd.method).1
  have X0 : Stand p l e ({ frames := 0, cells := 0, slots := 0, locals := 0 } : Room) s m #[(.ref a_NEXT_KEY), (.ref a_RECORD), (.int 1)] below meth c s₁ [] 0 0 := Stand.of_body Bd
  have e0 : s₁.heap = h0 := by rw [← hh, Bd.state]; rfl
  have N0 := Fr.nil n0
  have K0 := Keep.refl h0 []
  have k0 : Go p.tables e below (s₁.setTop (entryFrame m #[(.ref a_NEXT_KEY), (.ref a_RECORD), (.int 1)] 4)) (s₁.setTop (mkF m 0 #[rv a_NEXT_KEY, rv a_RECORD, iv 1, .unset] [])) := fun t k => castTop (by first | rfl | (simp [entryFrame, mkF, argsToLocals, Value.category]; done)) k
  have ⟨S_NEXT_KEY, E_NEXT_KEY, S_GAP, E_GAP, S_RECORD, E_RECORD, S_INSERT_INTENTION, E_INSERT_INTENTION, R_NEXT_KEY_ordinal, R_INSERT_INTENTION_ordinal, R_GAP_ordinal, R_RECORD_ordinal⟩ := G
  have k_85 : Go p.tables e below (s₁.setTop (entryFrame m #[(.ref a_NEXT_KEY), (.ref a_RECORD), (.int 1)] 4)) (s₁.setTop (mkF m 1 #[rv a_NEXT_KEY, rv a_RECORD, iv 1, .unset] [(.ref a_NEXT_KEY)])) := fun t q => by
    refine k0 t ?_
    refine XS.aloadN X0.here hx rfl (hb hby d2_0) rfl rfl ?_
    show Steps _ _ _ (s₁.setTop (mkF m 1 #[rv a_NEXT_KEY, rv a_RECORD, iv 1, .unset] [(.ref a_NEXT_KEY)])) _
    exact q
  obtain ⟨T86, X86, e86, st86⟩ := getS2 X0 hx hZ hown (host := "") (Or.inl (hw _ (wd 21 rfl))) Via.refl e0 (S_INSERT_INTENTION.ext O0.2) (g := (mkF m 1 #[rv a_NEXT_KEY, rv a_RECORD, iv 1, .unset] [(.ref a_NEXT_KEY)])) rfl (hb hby d2_1)
  have k_87 : Go p.tables e below (s₁.setTop (entryFrame m #[(.ref a_NEXT_KEY), (.ref a_RECORD), (.int 1)] 4)) (T86.setTop (mkF m 8 #[rv a_NEXT_KEY, rv a_RECORD, iv 1, .unset] [(.ref a_RECORD)])) := fun t q => by
    refine k_85 t ?_
    refine st86 _ ?_
    show Steps _ _ _ (T86.setTop (mkF m 4 #[rv a_NEXT_KEY, rv a_RECORD, iv 1, .unset] [(.ref a_INSERT_INTENTION), (.ref a_NEXT_KEY)])) _
    refine Jvm.RoadKit.acmp (g := (mkF m 4 #[rv a_NEXT_KEY, rv a_RECORD, iv 1, .unset] [(.ref a_INSERT_INTENTION), (.ref a_NEXT_KEY)])) X86 hx rfl rfl rfl (pc0 := 4) (pc' := 7) (same := false) rfl (hb hby d2_4) rfl (decide_eq_false fun q => (own_ne R_NEXT_KEY_ordinal R_INSERT_INTENTION_ordinal (by decide)) (Value.ref.inj q)) (by decide) (by decide) ?_
    show Steps _ _ _ (T86.setTop (mkF m 7 #[rv a_NEXT_KEY, rv a_RECORD, iv 1, .unset] [])) _
    refine XS.aloadN X86.here hx rfl (hb hby d2_7) rfl rfl ?_
    show Steps _ _ _ (T86.setTop (mkF m 8 #[rv a_NEXT_KEY, rv a_RECORD, iv 1, .unset] [(.ref a_RECORD)])) _
    exact q
  obtain ⟨T88, X88, e88, st88⟩ := getS2 X86 hx hZ hown (host := "") (Or.inl (hw _ (wd 21 rfl))) Via.refl e86 (S_INSERT_INTENTION.ext O0.2) (g := (mkF m 8 #[rv a_NEXT_KEY, rv a_RECORD, iv 1, .unset] [(.ref a_RECORD)])) rfl (hb hby d2_8)
  have k_89 : Go p.tables e below (s₁.setTop (entryFrame m #[(.ref a_NEXT_KEY), (.ref a_RECORD), (.int 1)] 4)) (T88.setTop (mkF m 42 #[rv a_NEXT_KEY, rv a_RECORD, iv 1, iv 1] [(.int 1)])) := fun t q => by
    refine k_87 t ?_
    refine st88 _ ?_
    show Steps _ _ _ (T88.setTop (mkF m 11 #[rv a_NEXT_KEY, rv a_RECORD, iv 1, .unset] [(.ref a_INSERT_INTENTION), (.ref a_RECORD)])) _
    refine Jvm.RoadKit.acmp (g := (mkF m 11 #[rv a_NEXT_KEY, rv a_RECORD, iv 1, .unset] [(.ref a_INSERT_INTENTION), (.ref a_RECORD)])) X88 hx rfl rfl rfl (pc0 := 11) (pc' := 19) (same := false) rfl (hb hby d2_11) rfl (decide_eq_false fun q => (own_ne R_RECORD_ordinal R_INSERT_INTENTION_ordinal (by decide)) (Value.ref.inj q)) (by decide) (by decide) ?_
    show Steps _ _ _ (T88.setTop (mkF m 19 #[rv a_NEXT_KEY, rv a_RECORD, iv 1, .unset] [])) _
    refine XS.iloadN X88.here hx rfl (hb hby d2_19) rfl ?_
    show Steps _ _ _ (T88.setTop (mkF m 20 #[rv a_NEXT_KEY, rv a_RECORD, iv 1, .unset] [(.int 1)])) _
    refine XS.ifYes X88.here hx rfl (pc0 := 20) (pc' := 35) rfl (hb hby d2_20) rfl (by decide) (by decide) (by decide) ?_
    show Steps _ _ _ (T88.setTop (mkF m 35 #[rv a_NEXT_KEY, rv a_RECORD, iv 1, .unset] [])) _
    refine XS.iconst X88.here hx rfl (hb hby d2_35) ?_
    show Steps _ _ _ (T88.setTop (mkF m 36 #[rv a_NEXT_KEY, rv a_RECORD, iv 1, .unset] [(.int 1)])) _
    refine XS.goto X88.here hx rfl (pc0 := 36) (pc' := 40) rfl (hb hby d2_36) (by decide) (by decide) ?_
    show Steps _ _ _ (T88.setTop (mkF m 40 #[rv a_NEXT_KEY, rv a_RECORD, iv 1, .unset] [(.int 1)])) _
    refine XS.istoreN X88.here hx rfl (hb hby d2_40) rfl (l' := #[rv a_NEXT_KEY, rv a_RECORD, iv 1, iv 1]) rfl ?_
    show Steps _ _ _ (T88.setTop (mkF m 41 #[rv a_NEXT_KEY, rv a_RECORD, iv 1, iv 1] [])) _
    refine XS.iloadN X88.here hx rfl (hb hby d2_41) rfl ?_
    show Steps _ _ _ (T88.setTop (mkF m 42 #[rv a_NEXT_KEY, rv a_RECORD, iv 1, iv 1] [(.int 1)])) _
    exact q
  obtain ⟨fs, hr, hrun, hended, hW, hsame⟩ := X88.leave (v := some (.int 1)) (fun h => by rw [Bd.returns] at h; cases h)
  refine ⟨_, _, k_89 _ ?_, hrun, hended, _, _, rfl, ?_, ⟨_, rfl⟩, hW, hsame.mono (by decide) (by decide)⟩
  · exact retN X88 hx (t := .boolean) Bd.returns (by simp) (hb hby d2_42) hr
  · show QV (some (.int 1)) h0 n0 _ T88.heap _
    rw [e88]
    exact ⟨rfl, N0, rfl⟩
set_option maxRecDepth 65536 in
set_option maxHeartbeats 40000000 in
theorem cv_0_3_0 (l : Launch) (Z : State) (a0 : Array Value) (hw : ∀ d ∈ tables_1, d.before a0 Z = true) (ws : List Jvm.Cond) (a_NEXT_KEY a_GAP a_RECORD a_INSERT_INTENTION : Addr) (G : Own Z a_NEXT_KEY a_GAP a_RECORD a_INSERT_INTENTION)  (h0 : Heap) (n0 : Nat) (O0 : Old Z n0 h0)  :
    MetFree l y_3 (head1 (Jvm.Cond.code y_3 prog_87_method_5_code 4 (some .boolean) :: ws) ({ frames := 0, cells := 0, slots := 0, locals := 0 } : Room)) (fun a U => a = #[(.ref a_NEXT_KEY), (.ref a_INSERT_INTENTION), (.int 0)] ∧ Z.Warmed39 U.vm ∧ U.heap = h0) (fun _ _ _ _ _ => True) (fun _ U o U' => ∃ v L, o = .returned v ∧ QV (some (.int 0)) h0 n0 v U'.heap L ∧ FrameEnd U o U' L ({ frames := 0, cells := 0, slots := 0, locals := 0 } : Room).cells ({ frames := 0, cells := 0, slots := 0, locals := 0 } : Room).slots) := by
  refine MetFree.of_bodySF (plainFor_of_name pn_1) hisR ?_
  intro p e s m args below meth c s₁ Bd hml0 hP hK
  obtain ⟨rfl, hZ, hh⟩ := hP
  have hx := Bd.exec
  have hby := Bd.bytes
  have hml : c.maxLocals = 4 := hml0
  have hown : s.vm.findClass "com/example/nkdb/nkdb/transaction/LockKind" = some m.cls := findClass_of_methodNamed Bd.named
  have hnm := (name_of_methodNamed Bd.named Bd.method).1
  have X0 : Stand p l e ({ frames := 0, cells := 0, slots := 0, locals := 0 } : Room) s m #[(.ref a_NEXT_KEY), (.ref a_INSERT_INTENTION), (.int 0)] below meth c s₁ [] 0 0 := Stand.of_body Bd
  have e0 : s₁.heap = h0 := by rw [← hh, Bd.state]; rfl
  have N0 := Fr.nil n0
  have K0 := Keep.refl h0 []
  have k0 : Go p.tables e below (s₁.setTop (entryFrame m #[(.ref a_NEXT_KEY), (.ref a_INSERT_INTENTION), (.int 0)] 4)) (s₁.setTop (mkF m 0 #[rv a_NEXT_KEY, rv a_INSERT_INTENTION, iv 0, .unset] [])) := fun t k => castTop (by first | rfl | (simp [entryFrame, mkF, argsToLocals, Value.category]; done)) k
  have ⟨S_NEXT_KEY, E_NEXT_KEY, S_GAP, E_GAP, S_RECORD, E_RECORD, S_INSERT_INTENTION, E_INSERT_INTENTION, R_NEXT_KEY_ordinal, R_INSERT_INTENTION_ordinal, R_GAP_ordinal, R_RECORD_ordinal⟩ := G
  have k_90 : Go p.tables e below (s₁.setTop (entryFrame m #[(.ref a_NEXT_KEY), (.ref a_INSERT_INTENTION), (.int 0)] 4)) (s₁.setTop (mkF m 1 #[rv a_NEXT_KEY, rv a_INSERT_INTENTION, iv 0, .unset] [(.ref a_NEXT_KEY)])) := fun t q => by
    refine k0 t ?_
    refine XS.aloadN X0.here hx rfl (hb hby d2_0) rfl rfl ?_
    show Steps _ _ _ (s₁.setTop (mkF m 1 #[rv a_NEXT_KEY, rv a_INSERT_INTENTION, iv 0, .unset] [(.ref a_NEXT_KEY)])) _
    exact q
  obtain ⟨T91, X91, e91, st91⟩ := getS2 X0 hx hZ hown (host := "") (Or.inl (hw _ (wd 21 rfl))) Via.refl e0 (S_INSERT_INTENTION.ext O0.2) (g := (mkF m 1 #[rv a_NEXT_KEY, rv a_INSERT_INTENTION, iv 0, .unset] [(.ref a_NEXT_KEY)])) rfl (hb hby d2_1)
  have k_92 : Go p.tables e below (s₁.setTop (entryFrame m #[(.ref a_NEXT_KEY), (.ref a_INSERT_INTENTION), (.int 0)] 4)) (T91.setTop (mkF m 8 #[rv a_NEXT_KEY, rv a_INSERT_INTENTION, iv 0, .unset] [(.ref a_INSERT_INTENTION)])) := fun t q => by
    refine k_90 t ?_
    refine st91 _ ?_
    show Steps _ _ _ (T91.setTop (mkF m 4 #[rv a_NEXT_KEY, rv a_INSERT_INTENTION, iv 0, .unset] [(.ref a_INSERT_INTENTION), (.ref a_NEXT_KEY)])) _
    refine Jvm.RoadKit.acmp (g := (mkF m 4 #[rv a_NEXT_KEY, rv a_INSERT_INTENTION, iv 0, .unset] [(.ref a_INSERT_INTENTION), (.ref a_NEXT_KEY)])) X91 hx rfl rfl rfl (pc0 := 4) (pc' := 7) (same := false) rfl (hb hby d2_4) rfl (decide_eq_false fun q => (own_ne R_NEXT_KEY_ordinal R_INSERT_INTENTION_ordinal (by decide)) (Value.ref.inj q)) (by decide) (by decide) ?_
    show Steps _ _ _ (T91.setTop (mkF m 7 #[rv a_NEXT_KEY, rv a_INSERT_INTENTION, iv 0, .unset] [])) _
    refine XS.aloadN X91.here hx rfl (hb hby d2_7) rfl rfl ?_
    show Steps _ _ _ (T91.setTop (mkF m 8 #[rv a_NEXT_KEY, rv a_INSERT_INTENTION, iv 0, .unset] [(.ref a_INSERT_INTENTION)])) _
    exact q
  obtain ⟨T93, X93, e93, st93⟩ := getS2 X91 hx hZ hown (host := "") (Or.inl (hw _ (wd 21 rfl))) Via.refl e91 (S_INSERT_INTENTION.ext O0.2) (g := (mkF m 8 #[rv a_NEXT_KEY, rv a_INSERT_INTENTION, iv 0, .unset] [(.ref a_INSERT_INTENTION)])) rfl (hb hby d2_8)
  have k_94 : Go p.tables e below (s₁.setTop (entryFrame m #[(.ref a_NEXT_KEY), (.ref a_INSERT_INTENTION), (.int 0)] 4)) (T93.setTop (mkF m 42 #[rv a_NEXT_KEY, rv a_INSERT_INTENTION, iv 0, iv 0] [(.int 0)])) := fun t q => by
    refine k_92 t ?_
    refine st93 _ ?_
    show Steps _ _ _ (T93.setTop (mkF m 11 #[rv a_NEXT_KEY, rv a_INSERT_INTENTION, iv 0, .unset] [(.ref a_INSERT_INTENTION), (.ref a_INSERT_INTENTION)])) _
    refine Jvm.RoadKit.acmp (g := (mkF m 11 #[rv a_NEXT_KEY, rv a_INSERT_INTENTION, iv 0, .unset] [(.ref a_INSERT_INTENTION), (.ref a_INSERT_INTENTION)])) X93 hx rfl rfl rfl (pc0 := 11) (pc' := 14) (same := true) rfl (hb hby d2_11) rfl (decide_eq_true rfl) (by decide) (by decide) ?_
    show Steps _ _ _ (T93.setTop (mkF m 14 #[rv a_NEXT_KEY, rv a_INSERT_INTENTION, iv 0, .unset] [])) _
    refine XS.iconst X93.here hx rfl (hb hby d2_14) ?_
    show Steps _ _ _ (T93.setTop (mkF m 15 #[rv a_NEXT_KEY, rv a_INSERT_INTENTION, iv 0, .unset] [(.int 0)])) _
    refine XS.istoreN X93.here hx rfl (hb hby d2_15) rfl (l' := #[rv a_NEXT_KEY, rv a_INSERT_INTENTION, iv 0, iv 0]) rfl ?_
    show Steps _ _ _ (T93.setTop (mkF m 16 #[rv a_NEXT_KEY, rv a_INSERT_INTENTION, iv 0, iv 0] [])) _
    refine XS.goto X93.here hx rfl (pc0 := 16) (pc' := 41) rfl (hb hby d2_16) (by decide) (by decide) ?_
    show Steps _ _ _ (T93.setTop (mkF m 41 #[rv a_NEXT_KEY, rv a_INSERT_INTENTION, iv 0, iv 0] [])) _
    refine XS.iloadN X93.here hx rfl (hb hby d2_41) rfl ?_
    show Steps _ _ _ (T93.setTop (mkF m 42 #[rv a_NEXT_KEY, rv a_INSERT_INTENTION, iv 0, iv 0] [(.int 0)])) _
    exact q
  obtain ⟨fs, hr, hrun, hended, hW, hsame⟩ := X93.leave (v := some (.int 0)) (fun h => by rw [Bd.returns] at h; cases h)
  refine ⟨_, _, k_94 _ ?_, hrun, hended, _, _, rfl, ?_, ⟨_, rfl⟩, hW, hsame.mono (by decide) (by decide)⟩
  · exact retN X93 hx (t := .boolean) Bd.returns (by simp) (hb hby d2_42) hr
  · show QV (some (.int 0)) h0 n0 _ T93.heap _
    rw [e93]
    exact ⟨rfl, N0, rfl⟩
set_option maxRecDepth 65536 in
set_option maxHeartbeats 40000000 in
theorem cv_0_3_1 (l : Launch) (Z : State) (a0 : Array Value) (hw : ∀ d ∈ tables_1, d.before a0 Z = true) (ws : List Jvm.Cond) (a_NEXT_KEY a_GAP a_RECORD a_INSERT_INTENTION : Addr) (G : Own Z a_NEXT_KEY a_GAP a_RECORD a_INSERT_INTENTION)  (h0 : Heap) (n0 : Nat) (O0 : Old Z n0 h0)  :
    MetFree l y_3 (head1 (Jvm.Cond.code y_3 prog_87_method_5_code 4 (some .boolean) :: ws) ({ frames := 0, cells := 0, slots := 0, locals := 0 } : Room)) (fun a U => a = #[(.ref a_NEXT_KEY), (.ref a_INSERT_INTENTION), (.int 1)] ∧ Z.Warmed39 U.vm ∧ U.heap = h0) (fun _ _ _ _ _ => True) (fun _ U o U' => ∃ v L, o = .returned v ∧ QV (some (.int 0)) h0 n0 v U'.heap L ∧ FrameEnd U o U' L ({ frames := 0, cells := 0, slots := 0, locals := 0 } : Room).cells ({ frames := 0, cells := 0, slots := 0, locals := 0 } : Room).slots) := by
  refine MetFree.of_bodySF (plainFor_of_name pn_1) hisR ?_
  intro p e s m args below meth c s₁ Bd hml0 hP hK
  obtain ⟨rfl, hZ, hh⟩ := hP
  have hx := Bd.exec
  have hby := Bd.bytes
  have hml : c.maxLocals = 4 := hml0
  have hown : s.vm.findClass "com/example/nkdb/nkdb/transaction/LockKind" = some m.cls := findClass_of_methodNamed Bd.named
  have hnm := (name_of_methodNamed Bd.named Bd.method).1
  have X0 : Stand p l e ({ frames := 0, cells := 0, slots := 0, locals := 0 } : Room) s m #[(.ref a_NEXT_KEY), (.ref a_INSERT_INTENTION), (.int 1)] below meth c s₁ [] 0 0 := Stand.of_body Bd
  have e0 : s₁.heap = h0 := by rw [← hh, Bd.state]; rfl
  have N0 := Fr.nil n0
  have K0 := Keep.refl h0 []
  have k0 : Go p.tables e below (s₁.setTop (entryFrame m #[(.ref a_NEXT_KEY), (.ref a_INSERT_INTENTION), (.int 1)] 4)) (s₁.setTop (mkF m 0 #[rv a_NEXT_KEY, rv a_INSERT_INTENTION, iv 1, .unset] [])) := fun t k => castTop (by first | rfl | (simp [entryFrame, mkF, argsToLocals, Value.category]; done)) k
  have ⟨S_NEXT_KEY, E_NEXT_KEY, S_GAP, E_GAP, S_RECORD, E_RECORD, S_INSERT_INTENTION, E_INSERT_INTENTION, R_NEXT_KEY_ordinal, R_INSERT_INTENTION_ordinal, R_GAP_ordinal, R_RECORD_ordinal⟩ := G
  have k_95 : Go p.tables e below (s₁.setTop (entryFrame m #[(.ref a_NEXT_KEY), (.ref a_INSERT_INTENTION), (.int 1)] 4)) (s₁.setTop (mkF m 1 #[rv a_NEXT_KEY, rv a_INSERT_INTENTION, iv 1, .unset] [(.ref a_NEXT_KEY)])) := fun t q => by
    refine k0 t ?_
    refine XS.aloadN X0.here hx rfl (hb hby d2_0) rfl rfl ?_
    show Steps _ _ _ (s₁.setTop (mkF m 1 #[rv a_NEXT_KEY, rv a_INSERT_INTENTION, iv 1, .unset] [(.ref a_NEXT_KEY)])) _
    exact q
  obtain ⟨T96, X96, e96, st96⟩ := getS2 X0 hx hZ hown (host := "") (Or.inl (hw _ (wd 21 rfl))) Via.refl e0 (S_INSERT_INTENTION.ext O0.2) (g := (mkF m 1 #[rv a_NEXT_KEY, rv a_INSERT_INTENTION, iv 1, .unset] [(.ref a_NEXT_KEY)])) rfl (hb hby d2_1)
  have k_97 : Go p.tables e below (s₁.setTop (entryFrame m #[(.ref a_NEXT_KEY), (.ref a_INSERT_INTENTION), (.int 1)] 4)) (T96.setTop (mkF m 8 #[rv a_NEXT_KEY, rv a_INSERT_INTENTION, iv 1, .unset] [(.ref a_INSERT_INTENTION)])) := fun t q => by
    refine k_95 t ?_
    refine st96 _ ?_
    show Steps _ _ _ (T96.setTop (mkF m 4 #[rv a_NEXT_KEY, rv a_INSERT_INTENTION, iv 1, .unset] [(.ref a_INSERT_INTENTION), (.ref a_NEXT_KEY)])) _
    refine Jvm.RoadKit.acmp (g := (mkF m 4 #[rv a_NEXT_KEY, rv a_INSERT_INTENTION, iv 1, .unset] [(.ref a_INSERT_INTENTION), (.ref a_NEXT_KEY)])) X96 hx rfl rfl rfl (pc0 := 4) (pc' := 7) (same := false) rfl (hb hby d2_4) rfl (decide_eq_false fun q => (own_ne R_NEXT_KEY_ordinal R_INSERT_INTENTION_ordinal (by decide)) (Value.ref.inj q)) (by decide) (by decide) ?_
    show Steps _ _ _ (T96.setTop (mkF m 7 #[rv a_NEXT_KEY, rv a_INSERT_INTENTION, iv 1, .unset] [])) _
    refine XS.aloadN X96.here hx rfl (hb hby d2_7) rfl rfl ?_
    show Steps _ _ _ (T96.setTop (mkF m 8 #[rv a_NEXT_KEY, rv a_INSERT_INTENTION, iv 1, .unset] [(.ref a_INSERT_INTENTION)])) _
    exact q
  obtain ⟨T98, X98, e98, st98⟩ := getS2 X96 hx hZ hown (host := "") (Or.inl (hw _ (wd 21 rfl))) Via.refl e96 (S_INSERT_INTENTION.ext O0.2) (g := (mkF m 8 #[rv a_NEXT_KEY, rv a_INSERT_INTENTION, iv 1, .unset] [(.ref a_INSERT_INTENTION)])) rfl (hb hby d2_8)
  have k_99 : Go p.tables e below (s₁.setTop (entryFrame m #[(.ref a_NEXT_KEY), (.ref a_INSERT_INTENTION), (.int 1)] 4)) (T98.setTop (mkF m 42 #[rv a_NEXT_KEY, rv a_INSERT_INTENTION, iv 1, iv 0] [(.int 0)])) := fun t q => by
    refine k_97 t ?_
    refine st98 _ ?_
    show Steps _ _ _ (T98.setTop (mkF m 11 #[rv a_NEXT_KEY, rv a_INSERT_INTENTION, iv 1, .unset] [(.ref a_INSERT_INTENTION), (.ref a_INSERT_INTENTION)])) _
    refine Jvm.RoadKit.acmp (g := (mkF m 11 #[rv a_NEXT_KEY, rv a_INSERT_INTENTION, iv 1, .unset] [(.ref a_INSERT_INTENTION), (.ref a_INSERT_INTENTION)])) X98 hx rfl rfl rfl (pc0 := 11) (pc' := 14) (same := true) rfl (hb hby d2_11) rfl (decide_eq_true rfl) (by decide) (by decide) ?_
    show Steps _ _ _ (T98.setTop (mkF m 14 #[rv a_NEXT_KEY, rv a_INSERT_INTENTION, iv 1, .unset] [])) _
    refine XS.iconst X98.here hx rfl (hb hby d2_14) ?_
    show Steps _ _ _ (T98.setTop (mkF m 15 #[rv a_NEXT_KEY, rv a_INSERT_INTENTION, iv 1, .unset] [(.int 0)])) _
    refine XS.istoreN X98.here hx rfl (hb hby d2_15) rfl (l' := #[rv a_NEXT_KEY, rv a_INSERT_INTENTION, iv 1, iv 0]) rfl ?_
    show Steps _ _ _ (T98.setTop (mkF m 16 #[rv a_NEXT_KEY, rv a_INSERT_INTENTION, iv 1, iv 0] [])) _
    refine XS.goto X98.here hx rfl (pc0 := 16) (pc' := 41) rfl (hb hby d2_16) (by decide) (by decide) ?_
    show Steps _ _ _ (T98.setTop (mkF m 41 #[rv a_NEXT_KEY, rv a_INSERT_INTENTION, iv 1, iv 0] [])) _
    refine XS.iloadN X98.here hx rfl (hb hby d2_41) rfl ?_
    show Steps _ _ _ (T98.setTop (mkF m 42 #[rv a_NEXT_KEY, rv a_INSERT_INTENTION, iv 1, iv 0] [(.int 0)])) _
    exact q
  obtain ⟨fs, hr, hrun, hended, hW, hsame⟩ := X98.leave (v := some (.int 0)) (fun h => by rw [Bd.returns] at h; cases h)
  refine ⟨_, _, k_99 _ ?_, hrun, hended, _, _, rfl, ?_, ⟨_, rfl⟩, hW, hsame.mono (by decide) (by decide)⟩
  · exact retN X98 hx (t := .boolean) Bd.returns (by simp) (hb hby d2_42) hr
  · show QV (some (.int 0)) h0 n0 _ T98.heap _
    rw [e98]
    exact ⟨rfl, N0, rfl⟩
set_option maxRecDepth 65536 in
set_option maxHeartbeats 40000000 in
theorem cv_1_0_0 (l : Launch) (Z : State) (a0 : Array Value) (hw : ∀ d ∈ tables_1, d.before a0 Z = true) (ws : List Jvm.Cond) (a_NEXT_KEY a_GAP a_RECORD a_INSERT_INTENTION : Addr) (G : Own Z a_NEXT_KEY a_GAP a_RECORD a_INSERT_INTENTION)  (h0 : Heap) (n0 : Nat) (O0 : Old Z n0 h0)  :
    MetFree l y_3 (head1 (Jvm.Cond.code y_3 prog_87_method_5_code 4 (some .boolean) :: ws) ({ frames := 0, cells := 0, slots := 0, locals := 0 } : Room)) (fun a U => a = #[(.ref a_GAP), (.ref a_NEXT_KEY), (.int 0)] ∧ Z.Warmed39 U.vm ∧ U.heap = h0) (fun _ _ _ _ _ => True) (fun _ U o U' => ∃ v L, o = .returned v ∧ QV (some (.int 0)) h0 n0 v U'.heap L ∧ FrameEnd U o U' L ({ frames := 0, cells := 0, slots := 0, locals := 0 } : Room).cells ({ frames := 0, cells := 0, slots := 0, locals := 0 } : Room).slots) := by
  refine MetFree.of_bodySF (plainFor_of_name pn_1) hisR ?_
  intro p e s m args below meth c s₁ Bd hml0 hP hK
  obtain ⟨rfl, hZ, hh⟩ := hP
  have hx := Bd.exec
  have hby := Bd.bytes
  have hml : c.maxLocals = 4 := hml0
  have hown : s.vm.findClass "com/example/nkdb/nkdb/transaction/LockKind" = some m.cls := findClass_of_methodNamed Bd.named
  have hnm := (name_of_methodNamed Bd.named Bd.method).1
  have X0 : Stand p l e ({ frames := 0, cells := 0, slots := 0, locals := 0 } : Room) s m #[(.ref a_GAP), (.ref a_NEXT_KEY), (.int 0)] below meth c s₁ [] 0 0 := Stand.of_body Bd
  have e0 : s₁.heap = h0 := by rw [← hh, Bd.state]; rfl
  have N0 := Fr.nil n0
  have K0 := Keep.refl h0 []
  have k0 : Go p.tables e below (s₁.setTop (entryFrame m #[(.ref a_GAP), (.ref a_NEXT_KEY), (.int 0)] 4)) (s₁.setTop (mkF m 0 #[rv a_GAP, rv a_NEXT_KEY, iv 0, .unset] [])) := fun t k => castTop (by first | rfl | (simp [entryFrame, mkF, argsToLocals, Value.category]; done)) k
  have ⟨S_NEXT_KEY, E_NEXT_KEY, S_GAP, E_GAP, S_RECORD, E_RECORD, S_INSERT_INTENTION, E_INSERT_INTENTION, R_NEXT_KEY_ordinal, R_INSERT_INTENTION_ordinal, R_GAP_ordinal, R_RECORD_ordinal⟩ := G
  have k_100 : Go p.tables e below (s₁.setTop (entryFrame m #[(.ref a_GAP), (.ref a_NEXT_KEY), (.int 0)] 4)) (s₁.setTop (mkF m 1 #[rv a_GAP, rv a_NEXT_KEY, iv 0, .unset] [(.ref a_GAP)])) := fun t q => by
    refine k0 t ?_
    refine XS.aloadN X0.here hx rfl (hb hby d2_0) rfl rfl ?_
    show Steps _ _ _ (s₁.setTop (mkF m 1 #[rv a_GAP, rv a_NEXT_KEY, iv 0, .unset] [(.ref a_GAP)])) _
    exact q
  obtain ⟨T101, X101, e101, st101⟩ := getS2 X0 hx hZ hown (host := "") (Or.inl (hw _ (wd 21 rfl))) Via.refl e0 (S_INSERT_INTENTION.ext O0.2) (g := (mkF m 1 #[rv a_GAP, rv a_NEXT_KEY, iv 0, .unset] [(.ref a_GAP)])) rfl (hb hby d2_1)
  have k_102 : Go p.tables e below (s₁.setTop (entryFrame m #[(.ref a_GAP), (.ref a_NEXT_KEY), (.int 0)] 4)) (T101.setTop (mkF m 8 #[rv a_GAP, rv a_NEXT_KEY, iv 0, .unset] [(.ref a_NEXT_KEY)])) := fun t q => by
    refine k_100 t ?_
    refine st101 _ ?_
    show Steps _ _ _ (T101.setTop (mkF m 4 #[rv a_GAP, rv a_NEXT_KEY, iv 0, .unset] [(.ref a_INSERT_INTENTION), (.ref a_GAP)])) _
    refine Jvm.RoadKit.acmp (g := (mkF m 4 #[rv a_GAP, rv a_NEXT_KEY, iv 0, .unset] [(.ref a_INSERT_INTENTION), (.ref a_GAP)])) X101 hx rfl rfl rfl (pc0 := 4) (pc' := 7) (same := false) rfl (hb hby d2_4) rfl (decide_eq_false fun q => (own_ne R_GAP_ordinal R_INSERT_INTENTION_ordinal (by decide)) (Value.ref.inj q)) (by decide) (by decide) ?_
    show Steps _ _ _ (T101.setTop (mkF m 7 #[rv a_GAP, rv a_NEXT_KEY, iv 0, .unset] [])) _
    refine XS.aloadN X101.here hx rfl (hb hby d2_7) rfl rfl ?_
    show Steps _ _ _ (T101.setTop (mkF m 8 #[rv a_GAP, rv a_NEXT_KEY, iv 0, .unset] [(.ref a_NEXT_KEY)])) _
    exact q
  obtain ⟨T103, X103, e103, st103⟩ := getS2 X101 hx hZ hown (host := "") (Or.inl (hw _ (wd 21 rfl))) Via.refl e101 (S_INSERT_INTENTION.ext O0.2) (g := (mkF m 8 #[rv a_GAP, rv a_NEXT_KEY, iv 0, .unset] [(.ref a_NEXT_KEY)])) rfl (hb hby d2_8)
  have k_104 : Go p.tables e below (s₁.setTop (entryFrame m #[(.ref a_GAP), (.ref a_NEXT_KEY), (.int 0)] 4)) (T103.setTop (mkF m 24 #[rv a_GAP, rv a_NEXT_KEY, iv 0, .unset] [(.ref a_GAP)])) := fun t q => by
    refine k_102 t ?_
    refine st103 _ ?_
    show Steps _ _ _ (T103.setTop (mkF m 11 #[rv a_GAP, rv a_NEXT_KEY, iv 0, .unset] [(.ref a_INSERT_INTENTION), (.ref a_NEXT_KEY)])) _
    refine Jvm.RoadKit.acmp (g := (mkF m 11 #[rv a_GAP, rv a_NEXT_KEY, iv 0, .unset] [(.ref a_INSERT_INTENTION), (.ref a_NEXT_KEY)])) X103 hx rfl rfl rfl (pc0 := 11) (pc' := 19) (same := false) rfl (hb hby d2_11) rfl (decide_eq_false fun q => (own_ne R_NEXT_KEY_ordinal R_INSERT_INTENTION_ordinal (by decide)) (Value.ref.inj q)) (by decide) (by decide) ?_
    show Steps _ _ _ (T103.setTop (mkF m 19 #[rv a_GAP, rv a_NEXT_KEY, iv 0, .unset] [])) _
    refine XS.iloadN X103.here hx rfl (hb hby d2_19) rfl ?_
    show Steps _ _ _ (T103.setTop (mkF m 20 #[rv a_GAP, rv a_NEXT_KEY, iv 0, .unset] [(.int 0)])) _
    refine XS.ifNo X103.here hx rfl (hb hby d2_20) rfl (by decide) ?_
    show Steps _ _ _ (T103.setTop (mkF m 23 #[rv a_GAP, rv a_NEXT_KEY, iv 0, .unset] [])) _
    refine XS.aloadN X103.here hx rfl (hb hby d2_23) rfl rfl ?_
    show Steps _ _ _ (T103.setTop (mkF m 24 #[rv a_GAP, rv a_NEXT_KEY, iv 0, .unset] [(.ref a_GAP)])) _
    exact q
  obtain ⟨T105, X105, e105, st105⟩ := getS2 X103 hx hZ hown (host := "") (Or.inl (hw _ (wd 28 rfl))) Via.refl e103 (S_NEXT_KEY.ext O0.2) (g := (mkF m 24 #[rv a_GAP, rv a_NEXT_KEY, iv 0, .unset] [(.ref a_GAP)])) rfl (hb hby d2_24)
  have k_106 : Go p.tables e below (s₁.setTop (entryFrame m #[(.ref a_GAP), (.ref a_NEXT_KEY), (.int 0)] 4)) (T105.setTop (mkF m 42 #[rv a_GAP, rv a_NEXT_KEY, iv 0, iv 0] [(.int 0)])) := fun t q => by
    refine k_104 t ?_
    refine st105 _ ?_
    show Steps _ _ _ (T105.setTop (mkF m 27 #[rv a_GAP, rv a_NEXT_KEY, iv 0, .unset] [(.ref a_NEXT_KEY), (.ref a_GAP)])) _
    refine Jvm.RoadKit.acmp (g := (mkF m 27 #[rv a_GAP, rv a_NEXT_KEY, iv 0, .unset] [(.ref a_NEXT_KEY), (.ref a_GAP)])) X105 hx rfl rfl rfl (pc0 := 27) (pc' := 30) (same := false) rfl (hb hby d2_27) rfl (decide_eq_false fun q => (own_ne R_GAP_ordinal R_NEXT_KEY_ordinal (by decide)) (Value.ref.inj q)) (by decide) (by decide) ?_
    show Steps _ _ _ (T105.setTop (mkF m 30 #[rv a_GAP, rv a_NEXT_KEY, iv 0, .unset] [])) _
    refine XS.aloadN X105.here hx rfl (hb hby d2_30) rfl rfl ?_
    show Steps _ _ _ (T105.setTop (mkF m 31 #[rv a_GAP, rv a_NEXT_KEY, iv 0, .unset] [(.ref a_GAP)])) _
    refine XS.aloadN X105.here hx rfl (hb hby d2_31) rfl rfl ?_
    show Steps _ _ _ (T105.setTop (mkF m 32 #[rv a_GAP, rv a_NEXT_KEY, iv 0, .unset] [(.ref a_NEXT_KEY), (.ref a_GAP)])) _
    refine Jvm.RoadKit.acmp (g := (mkF m 32 #[rv a_GAP, rv a_NEXT_KEY, iv 0, .unset] [(.ref a_NEXT_KEY), (.ref a_GAP)])) X105 hx rfl rfl rfl (pc0 := 32) (pc' := 39) (same := false) rfl (hb hby d2_32) rfl (decide_eq_false fun q => (own_ne R_GAP_ordinal R_NEXT_KEY_ordinal (by decide)) (Value.ref.inj q)) (by decide) (by decide) ?_
    show Steps _ _ _ (T105.setTop (mkF m 39 #[rv a_GAP, rv a_NEXT_KEY, iv 0, .unset] [])) _
    refine XS.iconst X105.here hx rfl (hb hby d2_39) ?_
    show Steps _ _ _ (T105.setTop (mkF m 40 #[rv a_GAP, rv a_NEXT_KEY, iv 0, .unset] [(.int 0)])) _
    refine XS.istoreN X105.here hx rfl (hb hby d2_40) rfl (l' := #[rv a_GAP, rv a_NEXT_KEY, iv 0, iv 0]) rfl ?_
    show Steps _ _ _ (T105.setTop (mkF m 41 #[rv a_GAP, rv a_NEXT_KEY, iv 0, iv 0] [])) _
    refine XS.iloadN X105.here hx rfl (hb hby d2_41) rfl ?_
    show Steps _ _ _ (T105.setTop (mkF m 42 #[rv a_GAP, rv a_NEXT_KEY, iv 0, iv 0] [(.int 0)])) _
    exact q
  obtain ⟨fs, hr, hrun, hended, hW, hsame⟩ := X105.leave (v := some (.int 0)) (fun h => by rw [Bd.returns] at h; cases h)
  refine ⟨_, _, k_106 _ ?_, hrun, hended, _, _, rfl, ?_, ⟨_, rfl⟩, hW, hsame.mono (by decide) (by decide)⟩
  · exact retN X105 hx (t := .boolean) Bd.returns (by simp) (hb hby d2_42) hr
  · show QV (some (.int 0)) h0 n0 _ T105.heap _
    rw [e105]
    exact ⟨rfl, N0, rfl⟩
set_option maxRecDepth 65536 in
set_option maxHeartbeats 40000000 in
theorem cv_1_0_1 (l : Launch) (Z : State) (a0 : Array Value) (hw : ∀ d ∈ tables_1, d.before a0 Z = true) (ws : List Jvm.Cond) (a_NEXT_KEY a_GAP a_RECORD a_INSERT_INTENTION : Addr) (G : Own Z a_NEXT_KEY a_GAP a_RECORD a_INSERT_INTENTION)  (h0 : Heap) (n0 : Nat) (O0 : Old Z n0 h0)  :
    MetFree l y_3 (head1 (Jvm.Cond.code y_3 prog_87_method_5_code 4 (some .boolean) :: ws) ({ frames := 0, cells := 0, slots := 0, locals := 0 } : Room)) (fun a U => a = #[(.ref a_GAP), (.ref a_NEXT_KEY), (.int 1)] ∧ Z.Warmed39 U.vm ∧ U.heap = h0) (fun _ _ _ _ _ => True) (fun _ U o U' => ∃ v L, o = .returned v ∧ QV (some (.int 1)) h0 n0 v U'.heap L ∧ FrameEnd U o U' L ({ frames := 0, cells := 0, slots := 0, locals := 0 } : Room).cells ({ frames := 0, cells := 0, slots := 0, locals := 0 } : Room).slots) := by
  refine MetFree.of_bodySF (plainFor_of_name pn_1) hisR ?_
  intro p e s m args below meth c s₁ Bd hml0 hP hK
  obtain ⟨rfl, hZ, hh⟩ := hP
  have hx := Bd.exec
  have hby := Bd.bytes
  have hml : c.maxLocals = 4 := hml0
  have hown : s.vm.findClass "com/example/nkdb/nkdb/transaction/LockKind" = some m.cls := findClass_of_methodNamed Bd.named
  have hnm := (name_of_methodNamed Bd.named Bd.method).1
  have X0 : Stand p l e ({ frames := 0, cells := 0, slots := 0, locals := 0 } : Room) s m #[(.ref a_GAP), (.ref a_NEXT_KEY), (.int 1)] below meth c s₁ [] 0 0 := Stand.of_body Bd
  have e0 : s₁.heap = h0 := by rw [← hh, Bd.state]; rfl
  have N0 := Fr.nil n0
  have K0 := Keep.refl h0 []
  have k0 : Go p.tables e below (s₁.setTop (entryFrame m #[(.ref a_GAP), (.ref a_NEXT_KEY), (.int 1)] 4)) (s₁.setTop (mkF m 0 #[rv a_GAP, rv a_NEXT_KEY, iv 1, .unset] [])) := fun t k => castTop (by first | rfl | (simp [entryFrame, mkF, argsToLocals, Value.category]; done)) k
  have ⟨S_NEXT_KEY, E_NEXT_KEY, S_GAP, E_GAP, S_RECORD, E_RECORD, S_INSERT_INTENTION, E_INSERT_INTENTION, R_NEXT_KEY_ordinal, R_INSERT_INTENTION_ordinal, R_GAP_ordinal, R_RECORD_ordinal⟩ := G
  have k_107 : Go p.tables e below (s₁.setTop (entryFrame m #[(.ref a_GAP), (.ref a_NEXT_KEY), (.int 1)] 4)) (s₁.setTop (mkF m 1 #[rv a_GAP, rv a_NEXT_KEY, iv 1, .unset] [(.ref a_GAP)])) := fun t q => by
    refine k0 t ?_
    refine XS.aloadN X0.here hx rfl (hb hby d2_0) rfl rfl ?_
    show Steps _ _ _ (s₁.setTop (mkF m 1 #[rv a_GAP, rv a_NEXT_KEY, iv 1, .unset] [(.ref a_GAP)])) _
    exact q
  obtain ⟨T108, X108, e108, st108⟩ := getS2 X0 hx hZ hown (host := "") (Or.inl (hw _ (wd 21 rfl))) Via.refl e0 (S_INSERT_INTENTION.ext O0.2) (g := (mkF m 1 #[rv a_GAP, rv a_NEXT_KEY, iv 1, .unset] [(.ref a_GAP)])) rfl (hb hby d2_1)
  have k_109 : Go p.tables e below (s₁.setTop (entryFrame m #[(.ref a_GAP), (.ref a_NEXT_KEY), (.int 1)] 4)) (T108.setTop (mkF m 8 #[rv a_GAP, rv a_NEXT_KEY, iv 1, .unset] [(.ref a_NEXT_KEY)])) := fun t q => by
    refine k_107 t ?_
    refine st108 _ ?_
    show Steps _ _ _ (T108.setTop (mkF m 4 #[rv a_GAP, rv a_NEXT_KEY, iv 1, .unset] [(.ref a_INSERT_INTENTION), (.ref a_GAP)])) _
    refine Jvm.RoadKit.acmp (g := (mkF m 4 #[rv a_GAP, rv a_NEXT_KEY, iv 1, .unset] [(.ref a_INSERT_INTENTION), (.ref a_GAP)])) X108 hx rfl rfl rfl (pc0 := 4) (pc' := 7) (same := false) rfl (hb hby d2_4) rfl (decide_eq_false fun q => (own_ne R_GAP_ordinal R_INSERT_INTENTION_ordinal (by decide)) (Value.ref.inj q)) (by decide) (by decide) ?_
    show Steps _ _ _ (T108.setTop (mkF m 7 #[rv a_GAP, rv a_NEXT_KEY, iv 1, .unset] [])) _
    refine XS.aloadN X108.here hx rfl (hb hby d2_7) rfl rfl ?_
    show Steps _ _ _ (T108.setTop (mkF m 8 #[rv a_GAP, rv a_NEXT_KEY, iv 1, .unset] [(.ref a_NEXT_KEY)])) _
    exact q
  obtain ⟨T110, X110, e110, st110⟩ := getS2 X108 hx hZ hown (host := "") (Or.inl (hw _ (wd 21 rfl))) Via.refl e108 (S_INSERT_INTENTION.ext O0.2) (g := (mkF m 8 #[rv a_GAP, rv a_NEXT_KEY, iv 1, .unset] [(.ref a_NEXT_KEY)])) rfl (hb hby d2_8)
  have k_111 : Go p.tables e below (s₁.setTop (entryFrame m #[(.ref a_GAP), (.ref a_NEXT_KEY), (.int 1)] 4)) (T110.setTop (mkF m 42 #[rv a_GAP, rv a_NEXT_KEY, iv 1, iv 1] [(.int 1)])) := fun t q => by
    refine k_109 t ?_
    refine st110 _ ?_
    show Steps _ _ _ (T110.setTop (mkF m 11 #[rv a_GAP, rv a_NEXT_KEY, iv 1, .unset] [(.ref a_INSERT_INTENTION), (.ref a_NEXT_KEY)])) _
    refine Jvm.RoadKit.acmp (g := (mkF m 11 #[rv a_GAP, rv a_NEXT_KEY, iv 1, .unset] [(.ref a_INSERT_INTENTION), (.ref a_NEXT_KEY)])) X110 hx rfl rfl rfl (pc0 := 11) (pc' := 19) (same := false) rfl (hb hby d2_11) rfl (decide_eq_false fun q => (own_ne R_NEXT_KEY_ordinal R_INSERT_INTENTION_ordinal (by decide)) (Value.ref.inj q)) (by decide) (by decide) ?_
    show Steps _ _ _ (T110.setTop (mkF m 19 #[rv a_GAP, rv a_NEXT_KEY, iv 1, .unset] [])) _
    refine XS.iloadN X110.here hx rfl (hb hby d2_19) rfl ?_
    show Steps _ _ _ (T110.setTop (mkF m 20 #[rv a_GAP, rv a_NEXT_KEY, iv 1, .unset] [(.int 1)])) _
    refine XS.ifYes X110.here hx rfl (pc0 := 20) (pc' := 35) rfl (hb hby d2_20) rfl (by decide) (by decide) (by decide) ?_
    show Steps _ _ _ (T110.setTop (mkF m 35 #[rv a_GAP, rv a_NEXT_KEY, iv 1, .unset] [])) _
    refine XS.iconst X110.here hx rfl (hb hby d2_35) ?_
    show Steps _ _ _ (T110.setTop (mkF m 36 #[rv a_GAP, rv a_NEXT_KEY, iv 1, .unset] [(.int 1)])) _
    refine XS.goto X110.here hx rfl (pc0 := 36) (pc' := 40) rfl (hb hby d2_36) (by decide) (by decide) ?_
    show Steps _ _ _ (T110.setTop (mkF m 40 #[rv a_GAP, rv a_NEXT_KEY, iv 1, .unset] [(.int 1)])) _
    refine XS.istoreN X110.here hx rfl (hb hby d2_40) rfl (l' := #[rv a_GAP, rv a_NEXT_KEY, iv 1, iv 1]) rfl ?_
    show Steps _ _ _ (T110.setTop (mkF m 41 #[rv a_GAP, rv a_NEXT_KEY, iv 1, iv 1] [])) _
    refine XS.iloadN X110.here hx rfl (hb hby d2_41) rfl ?_
    show Steps _ _ _ (T110.setTop (mkF m 42 #[rv a_GAP, rv a_NEXT_KEY, iv 1, iv 1] [(.int 1)])) _
    exact q
  obtain ⟨fs, hr, hrun, hended, hW, hsame⟩ := X110.leave (v := some (.int 1)) (fun h => by rw [Bd.returns] at h; cases h)
  refine ⟨_, _, k_111 _ ?_, hrun, hended, _, _, rfl, ?_, ⟨_, rfl⟩, hW, hsame.mono (by decide) (by decide)⟩
  · exact retN X110 hx (t := .boolean) Bd.returns (by simp) (hb hby d2_42) hr
  · show QV (some (.int 1)) h0 n0 _ T110.heap _
    rw [e110]
    exact ⟨rfl, N0, rfl⟩
set_option maxRecDepth 65536 in
set_option maxHeartbeats 40000000 in
theorem cv_1_1_0 (l : Launch) (Z : State) (a0 : Array Value) (hw : ∀ d ∈ tables_1, d.before a0 Z = true) (ws : List Jvm.Cond) (a_NEXT_KEY a_GAP a_RECORD a_INSERT_INTENTION : Addr) (G : Own Z a_NEXT_KEY a_GAP a_RECORD a_INSERT_INTENTION)  (h0 : Heap) (n0 : Nat) (O0 : Old Z n0 h0)  :
    MetFree l y_3 (head1 (Jvm.Cond.code y_3 prog_87_method_5_code 4 (some .boolean) :: ws) ({ frames := 0, cells := 0, slots := 0, locals := 0 } : Room)) (fun a U => a = #[(.ref a_GAP), (.ref a_GAP), (.int 0)] ∧ Z.Warmed39 U.vm ∧ U.heap = h0) (fun _ _ _ _ _ => True) (fun _ U o U' => ∃ v L, o = .returned v ∧ QV (some (.int 1)) h0 n0 v U'.heap L ∧ FrameEnd U o U' L ({ frames := 0, cells := 0, slots := 0, locals := 0 } : Room).cells ({ frames := 0, cells := 0, slots := 0, locals := 0 } : Room).slots) := by
  refine MetFree.of_bodySF (plainFor_of_name pn_1) hisR ?_
  intro p e s m args below meth c s₁ Bd hml0 hP hK
  obtain ⟨rfl, hZ, hh⟩ := hP
  have hx := Bd.exec
  have hby := Bd.bytes
  have hml : c.maxLocals = 4 := hml0
  have hown : s.vm.findClass "com/example/nkdb/nkdb/transaction/LockKind" = some m.cls := findClass_of_methodNamed Bd.named
  have hnm := (name_of_methodNamed Bd.named Bd.method).1
  have X0 : Stand p l e ({ frames := 0, cells := 0, slots := 0, locals := 0 } : Room) s m #[(.ref a_GAP), (.ref a_GAP), (.int 0)] below meth c s₁ [] 0 0 := Stand.of_body Bd
  have e0 : s₁.heap = h0 := by rw [← hh, Bd.state]; rfl
  have N0 := Fr.nil n0
  have K0 := Keep.refl h0 []
  have k0 : Go p.tables e below (s₁.setTop (entryFrame m #[(.ref a_GAP), (.ref a_GAP), (.int 0)] 4)) (s₁.setTop (mkF m 0 #[rv a_GAP, rv a_GAP, iv 0, .unset] [])) := fun t k => castTop (by first | rfl | (simp [entryFrame, mkF, argsToLocals, Value.category]; done)) k
  have ⟨S_NEXT_KEY, E_NEXT_KEY, S_GAP, E_GAP, S_RECORD, E_RECORD, S_INSERT_INTENTION, E_INSERT_INTENTION, R_NEXT_KEY_ordinal, R_INSERT_INTENTION_ordinal, R_GAP_ordinal, R_RECORD_ordinal⟩ := G
  have k_112 : Go p.tables e below (s₁.setTop (entryFrame m #[(.ref a_GAP), (.ref a_GAP), (.int 0)] 4)) (s₁.setTop (mkF m 1 #[rv a_GAP, rv a_GAP, iv 0, .unset] [(.ref a_GAP)])) := fun t q => by
    refine k0 t ?_
    refine XS.aloadN X0.here hx rfl (hb hby d2_0) rfl rfl ?_
    show Steps _ _ _ (s₁.setTop (mkF m 1 #[rv a_GAP, rv a_GAP, iv 0, .unset] [(.ref a_GAP)])) _
    exact q
  obtain ⟨T113, X113, e113, st113⟩ := getS2 X0 hx hZ hown (host := "") (Or.inl (hw _ (wd 21 rfl))) Via.refl e0 (S_INSERT_INTENTION.ext O0.2) (g := (mkF m 1 #[rv a_GAP, rv a_GAP, iv 0, .unset] [(.ref a_GAP)])) rfl (hb hby d2_1)
  have k_114 : Go p.tables e below (s₁.setTop (entryFrame m #[(.ref a_GAP), (.ref a_GAP), (.int 0)] 4)) (T113.setTop (mkF m 8 #[rv a_GAP, rv a_GAP, iv 0, .unset] [(.ref a_GAP)])) := fun t q => by
    refine k_112 t ?_
    refine st113 _ ?_
    show Steps _ _ _ (T113.setTop (mkF m 4 #[rv a_GAP, rv a_GAP, iv 0, .unset] [(.ref a_INSERT_INTENTION), (.ref a_GAP)])) _
    refine Jvm.RoadKit.acmp (g := (mkF m 4 #[rv a_GAP, rv a_GAP, iv 0, .unset] [(.ref a_INSERT_INTENTION), (.ref a_GAP)])) X113 hx rfl rfl rfl (pc0 := 4) (pc' := 7) (same := false) rfl (hb hby d2_4) rfl (decide_eq_false fun q => (own_ne R_GAP_ordinal R_INSERT_INTENTION_ordinal (by decide)) (Value.ref.inj q)) (by decide) (by decide) ?_
    show Steps _ _ _ (T113.setTop (mkF m 7 #[rv a_GAP, rv a_GAP, iv 0, .unset] [])) _
    refine XS.aloadN X113.here hx rfl (hb hby d2_7) rfl rfl ?_
    show Steps _ _ _ (T113.setTop (mkF m 8 #[rv a_GAP, rv a_GAP, iv 0, .unset] [(.ref a_GAP)])) _
    exact q
  obtain ⟨T115, X115, e115, st115⟩ := getS2 X113 hx hZ hown (host := "") (Or.inl (hw _ (wd 21 rfl))) Via.refl e113 (S_INSERT_INTENTION.ext O0.2) (g := (mkF m 8 #[rv a_GAP, rv a_GAP, iv 0, .unset] [(.ref a_GAP)])) rfl (hb hby d2_8)
  have k_116 : Go p.tables e below (s₁.setTop (entryFrame m #[(.ref a_GAP), (.ref a_GAP), (.int 0)] 4)) (T115.setTop (mkF m 24 #[rv a_GAP, rv a_GAP, iv 0, .unset] [(.ref a_GAP)])) := fun t q => by
    refine k_114 t ?_
    refine st115 _ ?_
    show Steps _ _ _ (T115.setTop (mkF m 11 #[rv a_GAP, rv a_GAP, iv 0, .unset] [(.ref a_INSERT_INTENTION), (.ref a_GAP)])) _
    refine Jvm.RoadKit.acmp (g := (mkF m 11 #[rv a_GAP, rv a_GAP, iv 0, .unset] [(.ref a_INSERT_INTENTION), (.ref a_GAP)])) X115 hx rfl rfl rfl (pc0 := 11) (pc' := 19) (same := false) rfl (hb hby d2_11) rfl (decide_eq_false fun q => (own_ne R_GAP_ordinal R_INSERT_INTENTION_ordinal (by decide)) (Value.ref.inj q)) (by decide) (by decide) ?_
    show Steps _ _ _ (T115.setTop (mkF m 19 #[rv a_GAP, rv a_GAP, iv 0, .unset] [])) _
    refine XS.iloadN X115.here hx rfl (hb hby d2_19) rfl ?_
    show Steps _ _ _ (T115.setTop (mkF m 20 #[rv a_GAP, rv a_GAP, iv 0, .unset] [(.int 0)])) _
    refine XS.ifNo X115.here hx rfl (hb hby d2_20) rfl (by decide) ?_
    show Steps _ _ _ (T115.setTop (mkF m 23 #[rv a_GAP, rv a_GAP, iv 0, .unset] [])) _
    refine XS.aloadN X115.here hx rfl (hb hby d2_23) rfl rfl ?_
    show Steps _ _ _ (T115.setTop (mkF m 24 #[rv a_GAP, rv a_GAP, iv 0, .unset] [(.ref a_GAP)])) _
    exact q
  obtain ⟨T117, X117, e117, st117⟩ := getS2 X115 hx hZ hown (host := "") (Or.inl (hw _ (wd 28 rfl))) Via.refl e115 (S_NEXT_KEY.ext O0.2) (g := (mkF m 24 #[rv a_GAP, rv a_GAP, iv 0, .unset] [(.ref a_GAP)])) rfl (hb hby d2_24)
  have k_118 : Go p.tables e below (s₁.setTop (entryFrame m #[(.ref a_GAP), (.ref a_GAP), (.int 0)] 4)) (T117.setTop (mkF m 42 #[rv a_GAP, rv a_GAP, iv 0, iv 1] [(.int 1)])) := fun t q => by
    refine k_116 t ?_
    refine st117 _ ?_
    show Steps _ _ _ (T117.setTop (mkF m 27 #[rv a_GAP, rv a_GAP, iv 0, .unset] [(.ref a_NEXT_KEY), (.ref a_GAP)])) _
    refine Jvm.RoadKit.acmp (g := (mkF m 27 #[rv a_GAP, rv a_GAP, iv 0, .unset] [(.ref a_NEXT_KEY), (.ref a_GAP)])) X117 hx rfl rfl rfl (pc0 := 27) (pc' := 30) (same := false) rfl (hb hby d2_27) rfl (decide_eq_false fun q => (own_ne R_GAP_ordinal R_NEXT_KEY_ordinal (by decide)) (Value.ref.inj q)) (by decide) (by decide) ?_
    show Steps _ _ _ (T117.setTop (mkF m 30 #[rv a_GAP, rv a_GAP, iv 0, .unset] [])) _
    refine XS.aloadN X117.here hx rfl (hb hby d2_30) rfl rfl ?_
    show Steps _ _ _ (T117.setTop (mkF m 31 #[rv a_GAP, rv a_GAP, iv 0, .unset] [(.ref a_GAP)])) _
    refine XS.aloadN X117.here hx rfl (hb hby d2_31) rfl rfl ?_
    show Steps _ _ _ (T117.setTop (mkF m 32 #[rv a_GAP, rv a_GAP, iv 0, .unset] [(.ref a_GAP), (.ref a_GAP)])) _
    refine Jvm.RoadKit.acmp (g := (mkF m 32 #[rv a_GAP, rv a_GAP, iv 0, .unset] [(.ref a_GAP), (.ref a_GAP)])) X117 hx rfl rfl rfl (pc0 := 32) (pc' := 35) (same := true) rfl (hb hby d2_32) rfl (decide_eq_true rfl) (by decide) (by decide) ?_
    show Steps _ _ _ (T117.setTop (mkF m 35 #[rv a_GAP, rv a_GAP, iv 0, .unset] [])) _
    refine XS.iconst X117.here hx rfl (hb hby d2_35) ?_
    show Steps _ _ _ (T117.setTop (mkF m 36 #[rv a_GAP, rv a_GAP, iv 0, .unset] [(.int 1)])) _
    refine XS.goto X117.here hx rfl (pc0 := 36) (pc' := 40) rfl (hb hby d2_36) (by decide) (by decide) ?_
    show Steps _ _ _ (T117.setTop (mkF m 40 #[rv a_GAP, rv a_GAP, iv 0, .unset] [(.int 1)])) _
    refine XS.istoreN X117.here hx rfl (hb hby d2_40) rfl (l' := #[rv a_GAP, rv a_GAP, iv 0, iv 1]) rfl ?_
    show Steps _ _ _ (T117.setTop (mkF m 41 #[rv a_GAP, rv a_GAP, iv 0, iv 1] [])) _
    refine XS.iloadN X117.here hx rfl (hb hby d2_41) rfl ?_
    show Steps _ _ _ (T117.setTop (mkF m 42 #[rv a_GAP, rv a_GAP, iv 0, iv 1] [(.int 1)])) _
    exact q
  obtain ⟨fs, hr, hrun, hended, hW, hsame⟩ := X117.leave (v := some (.int 1)) (fun h => by rw [Bd.returns] at h; cases h)
  refine ⟨_, _, k_118 _ ?_, hrun, hended, _, _, rfl, ?_, ⟨_, rfl⟩, hW, hsame.mono (by decide) (by decide)⟩
  · exact retN X117 hx (t := .boolean) Bd.returns (by simp) (hb hby d2_42) hr
  · show QV (some (.int 1)) h0 n0 _ T117.heap _
    rw [e117]
    exact ⟨rfl, N0, rfl⟩
set_option maxRecDepth 65536 in
set_option maxHeartbeats 40000000 in
theorem cv_1_1_1 (l : Launch) (Z : State) (a0 : Array Value) (hw : ∀ d ∈ tables_1, d.before a0 Z = true) (ws : List Jvm.Cond) (a_NEXT_KEY a_GAP a_RECORD a_INSERT_INTENTION : Addr) (G : Own Z a_NEXT_KEY a_GAP a_RECORD a_INSERT_INTENTION)  (h0 : Heap) (n0 : Nat) (O0 : Old Z n0 h0)  :
    MetFree l y_3 (head1 (Jvm.Cond.code y_3 prog_87_method_5_code 4 (some .boolean) :: ws) ({ frames := 0, cells := 0, slots := 0, locals := 0 } : Room)) (fun a U => a = #[(.ref a_GAP), (.ref a_GAP), (.int 1)] ∧ Z.Warmed39 U.vm ∧ U.heap = h0) (fun _ _ _ _ _ => True) (fun _ U o U' => ∃ v L, o = .returned v ∧ QV (some (.int 1)) h0 n0 v U'.heap L ∧ FrameEnd U o U' L ({ frames := 0, cells := 0, slots := 0, locals := 0 } : Room).cells ({ frames := 0, cells := 0, slots := 0, locals := 0 } : Room).slots) := by
  refine MetFree.of_bodySF (plainFor_of_name pn_1) hisR ?_
  intro p e s m args below meth c s₁ Bd hml0 hP hK
  obtain ⟨rfl, hZ, hh⟩ := hP
  have hx := Bd.exec
  have hby := Bd.bytes
  have hml : c.maxLocals = 4 := hml0
  have hown : s.vm.findClass "com/example/nkdb/nkdb/transaction/LockKind" = some m.cls := findClass_of_methodNamed Bd.named
  have hnm := (name_of_methodNamed Bd.named Bd.method).1
  have X0 : Stand p l e ({ frames := 0, cells := 0, slots := 0, locals := 0 } : Room) s m #[(.ref a_GAP), (.ref a_GAP), (.int 1)] below meth c s₁ [] 0 0 := Stand.of_body Bd
  have e0 : s₁.heap = h0 := by rw [← hh, Bd.state]; rfl
  have N0 := Fr.nil n0
  have K0 := Keep.refl h0 []
  have k0 : Go p.tables e below (s₁.setTop (entryFrame m #[(.ref a_GAP), (.ref a_GAP), (.int 1)] 4)) (s₁.setTop (mkF m 0 #[rv a_GAP, rv a_GAP, iv 1, .unset] [])) := fun t k => castTop (by first | rfl | (simp [entryFrame, mkF, argsToLocals, Value.category]; done)) k
  have ⟨S_NEXT_KEY, E_NEXT_KEY, S_GAP, E_GAP, S_RECORD, E_RECORD, S_INSERT_INTENTION, E_INSERT_INTENTION, R_NEXT_KEY_ordinal, R_INSERT_INTENTION_ordinal, R_GAP_ordinal, R_RECORD_ordinal⟩ := G
  have k_119 : Go p.tables e below (s₁.setTop (entryFrame m #[(.ref a_GAP), (.ref a_GAP), (.int 1)] 4)) (s₁.setTop (mkF m 1 #[rv a_GAP, rv a_GAP, iv 1, .unset] [(.ref a_GAP)])) := fun t q => by
    refine k0 t ?_
    refine XS.aloadN X0.here hx rfl (hb hby d2_0) rfl rfl ?_
    show Steps _ _ _ (s₁.setTop (mkF m 1 #[rv a_GAP, rv a_GAP, iv 1, .unset] [(.ref a_GAP)])) _
    exact q
  obtain ⟨T120, X120, e120, st120⟩ := getS2 X0 hx hZ hown (host := "") (Or.inl (hw _ (wd 21 rfl))) Via.refl e0 (S_INSERT_INTENTION.ext O0.2) (g := (mkF m 1 #[rv a_GAP, rv a_GAP, iv 1, .unset] [(.ref a_GAP)])) rfl (hb hby d2_1)
  have k_121 : Go p.tables e below (s₁.setTop (entryFrame m #[(.ref a_GAP), (.ref a_GAP), (.int 1)] 4)) (T120.setTop (mkF m 8 #[rv a_GAP, rv a_GAP, iv 1, .unset] [(.ref a_GAP)])) := fun t q => by
    refine k_119 t ?_
    refine st120 _ ?_
    show Steps _ _ _ (T120.setTop (mkF m 4 #[rv a_GAP, rv a_GAP, iv 1, .unset] [(.ref a_INSERT_INTENTION), (.ref a_GAP)])) _
    refine Jvm.RoadKit.acmp (g := (mkF m 4 #[rv a_GAP, rv a_GAP, iv 1, .unset] [(.ref a_INSERT_INTENTION), (.ref a_GAP)])) X120 hx rfl rfl rfl (pc0 := 4) (pc' := 7) (same := false) rfl (hb hby d2_4) rfl (decide_eq_false fun q => (own_ne R_GAP_ordinal R_INSERT_INTENTION_ordinal (by decide)) (Value.ref.inj q)) (by decide) (by decide) ?_
    show Steps _ _ _ (T120.setTop (mkF m 7 #[rv a_GAP, rv a_GAP, iv 1, .unset] [])) _
    refine XS.aloadN X120.here hx rfl (hb hby d2_7) rfl rfl ?_
    show Steps _ _ _ (T120.setTop (mkF m 8 #[rv a_GAP, rv a_GAP, iv 1, .unset] [(.ref a_GAP)])) _
    exact q
  obtain ⟨T122, X122, e122, st122⟩ := getS2 X120 hx hZ hown (host := "") (Or.inl (hw _ (wd 21 rfl))) Via.refl e120 (S_INSERT_INTENTION.ext O0.2) (g := (mkF m 8 #[rv a_GAP, rv a_GAP, iv 1, .unset] [(.ref a_GAP)])) rfl (hb hby d2_8)
  have k_123 : Go p.tables e below (s₁.setTop (entryFrame m #[(.ref a_GAP), (.ref a_GAP), (.int 1)] 4)) (T122.setTop (mkF m 42 #[rv a_GAP, rv a_GAP, iv 1, iv 1] [(.int 1)])) := fun t q => by
    refine k_121 t ?_
    refine st122 _ ?_
    show Steps _ _ _ (T122.setTop (mkF m 11 #[rv a_GAP, rv a_GAP, iv 1, .unset] [(.ref a_INSERT_INTENTION), (.ref a_GAP)])) _
    refine Jvm.RoadKit.acmp (g := (mkF m 11 #[rv a_GAP, rv a_GAP, iv 1, .unset] [(.ref a_INSERT_INTENTION), (.ref a_GAP)])) X122 hx rfl rfl rfl (pc0 := 11) (pc' := 19) (same := false) rfl (hb hby d2_11) rfl (decide_eq_false fun q => (own_ne R_GAP_ordinal R_INSERT_INTENTION_ordinal (by decide)) (Value.ref.inj q)) (by decide) (by decide) ?_
    show Steps _ _ _ (T122.setTop (mkF m 19 #[rv a_GAP, rv a_GAP, iv 1, .unset] [])) _
    refine XS.iloadN X122.here hx rfl (hb hby d2_19) rfl ?_
    show Steps _ _ _ (T122.setTop (mkF m 20 #[rv a_GAP, rv a_GAP, iv 1, .unset] [(.int 1)])) _
    refine XS.ifYes X122.here hx rfl (pc0 := 20) (pc' := 35) rfl (hb hby d2_20) rfl (by decide) (by decide) (by decide) ?_
    show Steps _ _ _ (T122.setTop (mkF m 35 #[rv a_GAP, rv a_GAP, iv 1, .unset] [])) _
    refine XS.iconst X122.here hx rfl (hb hby d2_35) ?_
    show Steps _ _ _ (T122.setTop (mkF m 36 #[rv a_GAP, rv a_GAP, iv 1, .unset] [(.int 1)])) _
    refine XS.goto X122.here hx rfl (pc0 := 36) (pc' := 40) rfl (hb hby d2_36) (by decide) (by decide) ?_
    show Steps _ _ _ (T122.setTop (mkF m 40 #[rv a_GAP, rv a_GAP, iv 1, .unset] [(.int 1)])) _
    refine XS.istoreN X122.here hx rfl (hb hby d2_40) rfl (l' := #[rv a_GAP, rv a_GAP, iv 1, iv 1]) rfl ?_
    show Steps _ _ _ (T122.setTop (mkF m 41 #[rv a_GAP, rv a_GAP, iv 1, iv 1] [])) _
    refine XS.iloadN X122.here hx rfl (hb hby d2_41) rfl ?_
    show Steps _ _ _ (T122.setTop (mkF m 42 #[rv a_GAP, rv a_GAP, iv 1, iv 1] [(.int 1)])) _
    exact q
  obtain ⟨fs, hr, hrun, hended, hW, hsame⟩ := X122.leave (v := some (.int 1)) (fun h => by rw [Bd.returns] at h; cases h)
  refine ⟨_, _, k_123 _ ?_, hrun, hended, _, _, rfl, ?_, ⟨_, rfl⟩, hW, hsame.mono (by decide) (by decide)⟩
  · exact retN X122 hx (t := .boolean) Bd.returns (by simp) (hb hby d2_42) hr
  · show QV (some (.int 1)) h0 n0 _ T122.heap _
    rw [e122]
    exact ⟨rfl, N0, rfl⟩
set_option maxRecDepth 65536 in
set_option maxHeartbeats 40000000 in
theorem cv_1_2_0 (l : Launch) (Z : State) (a0 : Array Value) (hw : ∀ d ∈ tables_1, d.before a0 Z = true) (ws : List Jvm.Cond) (a_NEXT_KEY a_GAP a_RECORD a_INSERT_INTENTION : Addr) (G : Own Z a_NEXT_KEY a_GAP a_RECORD a_INSERT_INTENTION)  (h0 : Heap) (n0 : Nat) (O0 : Old Z n0 h0)  :
    MetFree l y_3 (head1 (Jvm.Cond.code y_3 prog_87_method_5_code 4 (some .boolean) :: ws) ({ frames := 0, cells := 0, slots := 0, locals := 0 } : Room)) (fun a U => a = #[(.ref a_GAP), (.ref a_RECORD), (.int 0)] ∧ Z.Warmed39 U.vm ∧ U.heap = h0) (fun _ _ _ _ _ => True) (fun _ U o U' => ∃ v L, o = .returned v ∧ QV (some (.int 0)) h0 n0 v U'.heap L ∧ FrameEnd U o U' L ({ frames := 0, cells := 0, slots := 0, locals := 0 } : Room).cells ({ frames := 0, cells := 0, slots := 0, locals := 0 } : Room).slots) := by
  refine MetFree.of_bodySF (plainFor_of_name pn_1) hisR ?_
  intro p e s m args below meth c s₁ Bd hml0 hP hK
  obtain ⟨rfl, hZ, hh⟩ := hP
  have hx := Bd.exec
  have hby := Bd.bytes
  have hml : c.maxLocals = 4 := hml0
  have hown : s.vm.findClass "com/example/nkdb/nkdb/transaction/LockKind" = some m.cls := findClass_of_methodNamed Bd.named
  have hnm := (name_of_methodNamed Bd.named Bd.method).1
  have X0 : Stand p l e ({ frames := 0, cells := 0, slots := 0, locals := 0 } : Room) s m #[(.ref a_GAP), (.ref a_RECORD), (.int 0)] below meth c s₁ [] 0 0 := Stand.of_body Bd
  have e0 : s₁.heap = h0 := by rw [← hh, Bd.state]; rfl
  have N0 := Fr.nil n0
  have K0 := Keep.refl h0 []
  have k0 : Go p.tables e below (s₁.setTop (entryFrame m #[(.ref a_GAP), (.ref a_RECORD), (.int 0)] 4)) (s₁.setTop (mkF m 0 #[rv a_GAP, rv a_RECORD, iv 0, .unset] [])) := fun t k => castTop (by first | rfl | (simp [entryFrame, mkF, argsToLocals, Value.category]; done)) k
  have ⟨S_NEXT_KEY, E_NEXT_KEY, S_GAP, E_GAP, S_RECORD, E_RECORD, S_INSERT_INTENTION, E_INSERT_INTENTION, R_NEXT_KEY_ordinal, R_INSERT_INTENTION_ordinal, R_GAP_ordinal, R_RECORD_ordinal⟩ := G
  have k_124 : Go p.tables e below (s₁.setTop (entryFrame m #[(.ref a_GAP), (.ref a_RECORD), (.int 0)] 4)) (s₁.setTop (mkF m 1 #[rv a_GAP, rv a_RECORD, iv 0, .unset] [(.ref a_GAP)])) := fun t q => by
    refine k0 t ?_
    refine XS.aloadN X0.here hx rfl (hb hby d2_0) rfl rfl ?_
    show Steps _ _ _ (s₁.setTop (mkF m 1 #[rv a_GAP, rv a_RECORD, iv 0, .unset] [(.ref a_GAP)])) _
    exact q
  obtain ⟨T125, X125, e125, st125⟩ := getS2 X0 hx hZ hown (host := "") (Or.inl (hw _ (wd 21 rfl))) Via.refl e0 (S_INSERT_INTENTION.ext O0.2) (g := (mkF m 1 #[rv a_GAP, rv a_RECORD, iv 0, .unset] [(.ref a_GAP)])) rfl (hb hby d2_1)
  have k_126 : Go p.tables e below (s₁.setTop (entryFrame m #[(.ref a_GAP), (.ref a_RECORD), (.int 0)] 4)) (T125.setTop (mkF m 8 #[rv a_GAP, rv a_RECORD, iv 0, .unset] [(.ref a_RECORD)])) := fun t q => by
    refine k_124 t ?_
    refine st125 _ ?_
    show Steps _ _ _ (T125.setTop (mkF m 4 #[rv a_GAP, rv a_RECORD, iv 0, .unset] [(.ref a_INSERT_INTENTION), (.ref a_GAP)])) _
    refine Jvm.RoadKit.acmp (g := (mkF m 4 #[rv a_GAP, rv a_RECORD, iv 0, .unset] [(.ref a_INSERT_INTENTION), (.ref a_GAP)])) X125 hx rfl rfl rfl (pc0 := 4) (pc' := 7) (same := false) rfl (hb hby d2_4) rfl (decide_eq_false fun q => (own_ne R_GAP_ordinal R_INSERT_INTENTION_ordinal (by decide)) (Value.ref.inj q)) (by decide) (by decide) ?_
    show Steps _ _ _ (T125.setTop (mkF m 7 #[rv a_GAP, rv a_RECORD, iv 0, .unset] [])) _
    refine XS.aloadN X125.here hx rfl (hb hby d2_7) rfl rfl ?_
    show Steps _ _ _ (T125.setTop (mkF m 8 #[rv a_GAP, rv a_RECORD, iv 0, .unset] [(.ref a_RECORD)])) _
    exact q
  obtain ⟨T127, X127, e127, st127⟩ := getS2 X125 hx hZ hown (host := "") (Or.inl (hw _ (wd 21 rfl))) Via.refl e125 (S_INSERT_INTENTION.ext O0.2) (g := (mkF m 8 #[rv a_GAP, rv a_RECORD, iv 0, .unset] [(.ref a_RECORD)])) rfl (hb hby d2_8)
  have k_128 : Go p.tables e below (s₁.setTop (entryFrame m #[(.ref a_GAP), (.ref a_RECORD), (.int 0)] 4)) (T127.setTop (mkF m 24 #[rv a_GAP, rv a_RECORD, iv 0, .unset] [(.ref a_GAP)])) := fun t q => by
    refine k_126 t ?_
    refine st127 _ ?_
    show Steps _ _ _ (T127.setTop (mkF m 11 #[rv a_GAP, rv a_RECORD, iv 0, .unset] [(.ref a_INSERT_INTENTION), (.ref a_RECORD)])) _
    refine Jvm.RoadKit.acmp (g := (mkF m 11 #[rv a_GAP, rv a_RECORD, iv 0, .unset] [(.ref a_INSERT_INTENTION), (.ref a_RECORD)])) X127 hx rfl rfl rfl (pc0 := 11) (pc' := 19) (same := false) rfl (hb hby d2_11) rfl (decide_eq_false fun q => (own_ne R_RECORD_ordinal R_INSERT_INTENTION_ordinal (by decide)) (Value.ref.inj q)) (by decide) (by decide) ?_
    show Steps _ _ _ (T127.setTop (mkF m 19 #[rv a_GAP, rv a_RECORD, iv 0, .unset] [])) _
    refine XS.iloadN X127.here hx rfl (hb hby d2_19) rfl ?_
    show Steps _ _ _ (T127.setTop (mkF m 20 #[rv a_GAP, rv a_RECORD, iv 0, .unset] [(.int 0)])) _
    refine XS.ifNo X127.here hx rfl (hb hby d2_20) rfl (by decide) ?_
    show Steps _ _ _ (T127.setTop (mkF m 23 #[rv a_GAP, rv a_RECORD, iv 0, .unset] [])) _
    refine XS.aloadN X127.here hx rfl (hb hby d2_23) rfl rfl ?_
    show Steps _ _ _ (T127.setTop (mkF m 24 #[rv a_GAP, rv a_RECORD, iv 0, .unset] [(.ref a_GAP)])) _
    exact q
  obtain ⟨T129, X129, e129, st129⟩ := getS2 X127 hx hZ hown (host := "") (Or.inl (hw _ (wd 28 rfl))) Via.refl e127 (S_NEXT_KEY.ext O0.2) (g := (mkF m 24 #[rv a_GAP, rv a_RECORD, iv 0, .unset] [(.ref a_GAP)])) rfl (hb hby d2_24)
  have k_130 : Go p.tables e below (s₁.setTop (entryFrame m #[(.ref a_GAP), (.ref a_RECORD), (.int 0)] 4)) (T129.setTop (mkF m 42 #[rv a_GAP, rv a_RECORD, iv 0, iv 0] [(.int 0)])) := fun t q => by
    refine k_128 t ?_
    refine st129 _ ?_
    show Steps _ _ _ (T129.setTop (mkF m 27 #[rv a_GAP, rv a_RECORD, iv 0, .unset] [(.ref a_NEXT_KEY), (.ref a_GAP)])) _
    refine Jvm.RoadKit.acmp (g := (mkF m 27 #[rv a_GAP, rv a_RECORD, iv 0, .unset] [(.ref a_NEXT_KEY), (.ref a_GAP)])) X129 hx rfl rfl rfl (pc0 := 27) (pc' := 30) (same := false) rfl (hb hby d2_27) rfl (decide_eq_false fun q => (own_ne R_GAP_ordinal R_NEXT_KEY_ordinal (by decide)) (Value.ref.inj q)) (by decide) (by decide) ?_
    show Steps _ _ _ (T129.setTop (mkF m 30 #[rv a_GAP, rv a_RECORD, iv 0, .unset] [])) _
    refine XS.aloadN X129.here hx rfl (hb hby d2_30) rfl rfl ?_
    show Steps _ _ _ (T129.setTop (mkF m 31 #[rv a_GAP, rv a_RECORD, iv 0, .unset] [(.ref a_GAP)])) _
    refine XS.aloadN X129.here hx rfl (hb hby d2_31) rfl rfl ?_
    show Steps _ _ _ (T129.setTop (mkF m 32 #[rv a_GAP, rv a_RECORD, iv 0, .unset] [(.ref a_RECORD), (.ref a_GAP)])) _
    refine Jvm.RoadKit.acmp (g := (mkF m 32 #[rv a_GAP, rv a_RECORD, iv 0, .unset] [(.ref a_RECORD), (.ref a_GAP)])) X129 hx rfl rfl rfl (pc0 := 32) (pc' := 39) (same := false) rfl (hb hby d2_32) rfl (decide_eq_false fun q => (own_ne R_GAP_ordinal R_RECORD_ordinal (by decide)) (Value.ref.inj q)) (by decide) (by decide) ?_
    show Steps _ _ _ (T129.setTop (mkF m 39 #[rv a_GAP, rv a_RECORD, iv 0, .unset] [])) _
    refine XS.iconst X129.here hx rfl (hb hby d2_39) ?_
    show Steps _ _ _ (T129.setTop (mkF m 40 #[rv a_GAP, rv a_RECORD, iv 0, .unset] [(.int 0)])) _
    refine XS.istoreN X129.here hx rfl (hb hby d2_40) rfl (l' := #[rv a_GAP, rv a_RECORD, iv 0, iv 0]) rfl ?_
    show Steps _ _ _ (T129.setTop (mkF m 41 #[rv a_GAP, rv a_RECORD, iv 0, iv 0] [])) _
    refine XS.iloadN X129.here hx rfl (hb hby d2_41) rfl ?_
    show Steps _ _ _ (T129.setTop (mkF m 42 #[rv a_GAP, rv a_RECORD, iv 0, iv 0] [(.int 0)])) _
    exact q
  obtain ⟨fs, hr, hrun, hended, hW, hsame⟩ := X129.leave (v := some (.int 0)) (fun h => by rw [Bd.returns] at h; cases h)
  refine ⟨_, _, k_130 _ ?_, hrun, hended, _, _, rfl, ?_, ⟨_, rfl⟩, hW, hsame.mono (by decide) (by decide)⟩
  · exact retN X129 hx (t := .boolean) Bd.returns (by simp) (hb hby d2_42) hr
  · show QV (some (.int 0)) h0 n0 _ T129.heap _
    rw [e129]
    exact ⟨rfl, N0, rfl⟩
set_option maxRecDepth 65536 in
set_option maxHeartbeats 40000000 in
theorem cv_1_2_1 (l : Launch) (Z : State) (a0 : Array Value) (hw : ∀ d ∈ tables_1, d.before a0 Z = true) (ws : List Jvm.Cond) (a_NEXT_KEY a_GAP a_RECORD a_INSERT_INTENTION : Addr) (G : Own Z a_NEXT_KEY a_GAP a_RECORD a_INSERT_INTENTION)  (h0 : Heap) (n0 : Nat) (O0 : Old Z n0 h0)  :
    MetFree l y_3 (head1 (Jvm.Cond.code y_3 prog_87_method_5_code 4 (some .boolean) :: ws) ({ frames := 0, cells := 0, slots := 0, locals := 0 } : Room)) (fun a U => a = #[(.ref a_GAP), (.ref a_RECORD), (.int 1)] ∧ Z.Warmed39 U.vm ∧ U.heap = h0) (fun _ _ _ _ _ => True) (fun _ U o U' => ∃ v L, o = .returned v ∧ QV (some (.int 1)) h0 n0 v U'.heap L ∧ FrameEnd U o U' L ({ frames := 0, cells := 0, slots := 0, locals := 0 } : Room).cells ({ frames := 0, cells := 0, slots := 0, locals := 0 } : Room).slots) := by
  refine MetFree.of_bodySF (plainFor_of_name pn_1) hisR ?_
  intro p e s m args below meth c s₁ Bd hml0 hP hK
  obtain ⟨rfl, hZ, hh⟩ := hP
  have hx := Bd.exec
  have hby := Bd.bytes
  have hml : c.maxLocals = 4 := hml0
  have hown : s.vm.findClass "com/example/nkdb/nkdb/transaction/LockKind" = some m.cls := findClass_of_methodNamed Bd.named
  have hnm := (name_of_methodNamed Bd.named Bd.method).1
  have X0 : Stand p l e ({ frames := 0, cells := 0, slots := 0, locals := 0 } : Room) s m #[(.ref a_GAP), (.ref a_RECORD), (.int 1)] below meth c s₁ [] 0 0 := Stand.of_body Bd
  have e0 : s₁.heap = h0 := by rw [← hh, Bd.state]; rfl
  have N0 := Fr.nil n0
  have K0 := Keep.refl h0 []
  have k0 : Go p.tables e below (s₁.setTop (entryFrame m #[(.ref a_GAP), (.ref a_RECORD), (.int 1)] 4)) (s₁.setTop (mkF m 0 #[rv a_GAP, rv a_RECORD, iv 1, .unset] [])) := fun t k => castTop (by first | rfl | (simp [entryFrame, mkF, argsToLocals, Value.category]; done)) k
  have ⟨S_NEXT_KEY, E_NEXT_KEY, S_GAP, E_GAP, S_RECORD, E_RECORD, S_INSERT_INTENTION, E_INSERT_INTENTION, R_NEXT_KEY_ordinal, R_INSERT_INTENTION_ordinal, R_GAP_ordinal, R_RECORD_ordinal⟩ := G
  have k_131 : Go p.tables e below (s₁.setTop (entryFrame m #[(.ref a_GAP), (.ref a_RECORD), (.int 1)] 4)) (s₁.setTop (mkF m 1 #[rv a_GAP, rv a_RECORD, iv 1, .unset] [(.ref a_GAP)])) := fun t q => by
    refine k0 t ?_
    refine XS.aloadN X0.here hx rfl (hb hby d2_0) rfl rfl ?_
    show Steps _ _ _ (s₁.setTop (mkF m 1 #[rv a_GAP, rv a_RECORD, iv 1, .unset] [(.ref a_GAP)])) _
    exact q
  obtain ⟨T132, X132, e132, st132⟩ := getS2 X0 hx hZ hown (host := "") (Or.inl (hw _ (wd 21 rfl))) Via.refl e0 (S_INSERT_INTENTION.ext O0.2) (g := (mkF m 1 #[rv a_GAP, rv a_RECORD, iv 1, .unset] [(.ref a_GAP)])) rfl (hb hby d2_1)
  have k_133 : Go p.tables e below (s₁.setTop (entryFrame m #[(.ref a_GAP), (.ref a_RECORD), (.int 1)] 4)) (T132.setTop (mkF m 8 #[rv a_GAP, rv a_RECORD, iv 1, .unset] [(.ref a_RECORD)])) := fun t q => by
    refine k_131 t ?_
    refine st132 _ ?_
    show Steps _ _ _ (T132.setTop (mkF m 4 #[rv a_GAP, rv a_RECORD, iv 1, .unset] [(.ref a_INSERT_INTENTION), (.ref a_GAP)])) _
    refine Jvm.RoadKit.acmp (g := (mkF m 4 #[rv a_GAP, rv a_RECORD, iv 1, .unset] [(.ref a_INSERT_INTENTION), (.ref a_GAP)])) X132 hx rfl rfl rfl (pc0 := 4) (pc' := 7) (same := false) rfl (hb hby d2_4) rfl (decide_eq_false fun q => (own_ne R_GAP_ordinal R_INSERT_INTENTION_ordinal (by decide)) (Value.ref.inj q)) (by decide) (by decide) ?_
    show Steps _ _ _ (T132.setTop (mkF m 7 #[rv a_GAP, rv a_RECORD, iv 1, .unset] [])) _
    refine XS.aloadN X132.here hx rfl (hb hby d2_7) rfl rfl ?_
    show Steps _ _ _ (T132.setTop (mkF m 8 #[rv a_GAP, rv a_RECORD, iv 1, .unset] [(.ref a_RECORD)])) _
    exact q
  obtain ⟨T134, X134, e134, st134⟩ := getS2 X132 hx hZ hown (host := "") (Or.inl (hw _ (wd 21 rfl))) Via.refl e132 (S_INSERT_INTENTION.ext O0.2) (g := (mkF m 8 #[rv a_GAP, rv a_RECORD, iv 1, .unset] [(.ref a_RECORD)])) rfl (hb hby d2_8)
  have k_135 : Go p.tables e below (s₁.setTop (entryFrame m #[(.ref a_GAP), (.ref a_RECORD), (.int 1)] 4)) (T134.setTop (mkF m 42 #[rv a_GAP, rv a_RECORD, iv 1, iv 1] [(.int 1)])) := fun t q => by
    refine k_133 t ?_
    refine st134 _ ?_
    show Steps _ _ _ (T134.setTop (mkF m 11 #[rv a_GAP, rv a_RECORD, iv 1, .unset] [(.ref a_INSERT_INTENTION), (.ref a_RECORD)])) _
    refine Jvm.RoadKit.acmp (g := (mkF m 11 #[rv a_GAP, rv a_RECORD, iv 1, .unset] [(.ref a_INSERT_INTENTION), (.ref a_RECORD)])) X134 hx rfl rfl rfl (pc0 := 11) (pc' := 19) (same := false) rfl (hb hby d2_11) rfl (decide_eq_false fun q => (own_ne R_RECORD_ordinal R_INSERT_INTENTION_ordinal (by decide)) (Value.ref.inj q)) (by decide) (by decide) ?_
    show Steps _ _ _ (T134.setTop (mkF m 19 #[rv a_GAP, rv a_RECORD, iv 1, .unset] [])) _
    refine XS.iloadN X134.here hx rfl (hb hby d2_19) rfl ?_
    show Steps _ _ _ (T134.setTop (mkF m 20 #[rv a_GAP, rv a_RECORD, iv 1, .unset] [(.int 1)])) _
    refine XS.ifYes X134.here hx rfl (pc0 := 20) (pc' := 35) rfl (hb hby d2_20) rfl (by decide) (by decide) (by decide) ?_
    show Steps _ _ _ (T134.setTop (mkF m 35 #[rv a_GAP, rv a_RECORD, iv 1, .unset] [])) _
    refine XS.iconst X134.here hx rfl (hb hby d2_35) ?_
    show Steps _ _ _ (T134.setTop (mkF m 36 #[rv a_GAP, rv a_RECORD, iv 1, .unset] [(.int 1)])) _
    refine XS.goto X134.here hx rfl (pc0 := 36) (pc' := 40) rfl (hb hby d2_36) (by decide) (by decide) ?_
    show Steps _ _ _ (T134.setTop (mkF m 40 #[rv a_GAP, rv a_RECORD, iv 1, .unset] [(.int 1)])) _
    refine XS.istoreN X134.here hx rfl (hb hby d2_40) rfl (l' := #[rv a_GAP, rv a_RECORD, iv 1, iv 1]) rfl ?_
    show Steps _ _ _ (T134.setTop (mkF m 41 #[rv a_GAP, rv a_RECORD, iv 1, iv 1] [])) _
    refine XS.iloadN X134.here hx rfl (hb hby d2_41) rfl ?_
    show Steps _ _ _ (T134.setTop (mkF m 42 #[rv a_GAP, rv a_RECORD, iv 1, iv 1] [(.int 1)])) _
    exact q
  obtain ⟨fs, hr, hrun, hended, hW, hsame⟩ := X134.leave (v := some (.int 1)) (fun h => by rw [Bd.returns] at h; cases h)
  refine ⟨_, _, k_135 _ ?_, hrun, hended, _, _, rfl, ?_, ⟨_, rfl⟩, hW, hsame.mono (by decide) (by decide)⟩
  · exact retN X134 hx (t := .boolean) Bd.returns (by simp) (hb hby d2_42) hr
  · show QV (some (.int 1)) h0 n0 _ T134.heap _
    rw [e134]
    exact ⟨rfl, N0, rfl⟩
set_option maxRecDepth 65536 in
set_option maxHeartbeats 40000000 in
theorem cv_1_3_0 (l : Launch) (Z : State) (a0 : Array Value) (hw : ∀ d ∈ tables_1, d.before a0 Z = true) (ws : List Jvm.Cond) (a_NEXT_KEY a_GAP a_RECORD a_INSERT_INTENTION : Addr) (G : Own Z a_NEXT_KEY a_GAP a_RECORD a_INSERT_INTENTION)  (h0 : Heap) (n0 : Nat) (O0 : Old Z n0 h0)  :
    MetFree l y_3 (head1 (Jvm.Cond.code y_3 prog_87_method_5_code 4 (some .boolean) :: ws) ({ frames := 0, cells := 0, slots := 0, locals := 0 } : Room)) (fun a U => a = #[(.ref a_GAP), (.ref a_INSERT_INTENTION), (.int 0)] ∧ Z.Warmed39 U.vm ∧ U.heap = h0) (fun _ _ _ _ _ => True) (fun _ U o U' => ∃ v L, o = .returned v ∧ QV (some (.int 0)) h0 n0 v U'.heap L ∧ FrameEnd U o U' L ({ frames := 0, cells := 0, slots := 0, locals := 0 } : Room).cells ({ frames := 0, cells := 0, slots := 0, locals := 0 } : Room).slots) := by
  refine MetFree.of_bodySF (plainFor_of_name pn_1) hisR ?_
  intro p e s m args below meth c s₁ Bd hml0 hP hK
  obtain ⟨rfl, hZ, hh⟩ := hP
  have hx := Bd.exec
  have hby := Bd.bytes
  have hml : c.maxLocals = 4 := hml0
  have hown : s.vm.findClass "com/example/nkdb/nkdb/transaction/LockKind" = some m.cls := findClass_of_methodNamed Bd.named
  have hnm := (name_of_methodNamed Bd.named Bd.method).1
  have X0 : Stand p l e ({ frames := 0, cells := 0, slots := 0, locals := 0 } : Room) s m #[(.ref a_GAP), (.ref a_INSERT_INTENTION), (.int 0)] below meth c s₁ [] 0 0 := Stand.of_body Bd
  have e0 : s₁.heap = h0 := by rw [← hh, Bd.state]; rfl
  have N0 := Fr.nil n0
  have K0 := Keep.refl h0 []
  have k0 : Go p.tables e below (s₁.setTop (entryFrame m #[(.ref a_GAP), (.ref a_INSERT_INTENTION), (.int 0)] 4)) (s₁.setTop (mkF m 0 #[rv a_GAP, rv a_INSERT_INTENTION, iv 0, .unset] [])) := fun t k => castTop (by first | rfl | (simp [entryFrame, mkF, argsToLocals, Value.category]; done)) k
  have ⟨S_NEXT_KEY, E_NEXT_KEY, S_GAP, E_GAP, S_RECORD, E_RECORD, S_INSERT_INTENTION, E_INSERT_INTENTION, R_NEXT_KEY_ordinal, R_INSERT_INTENTION_ordinal, R_GAP_ordinal, R_RECORD_ordinal⟩ := G
  have k_136 : Go p.tables e below (s₁.setTop (entryFrame m #[(.ref a_GAP), (.ref a_INSERT_INTENTION), (.int 0)] 4)) (s₁.setTop (mkF m 1 #[rv a_GAP, rv a_INSERT_INTENTION, iv 0, .unset] [(.ref a_GAP)])) := fun t q => by
    refine k0 t ?_
    refine XS.aloadN X0.here hx rfl (hb hby d2_0) rfl rfl ?_
    show Steps _ _ _ (s₁.setTop (mkF m 1 #[rv a_GAP, rv a_INSERT_INTENTION, iv 0, .unset] [(.ref a_GAP)])) _
    exact q
  obtain ⟨T137, X137, e137, st137⟩ := getS2 X0 hx hZ hown (host := "") (Or.inl (hw _ (wd 21 rfl))) Via.refl e0 (S_INSERT_INTENTION.ext O0.2) (g := (mkF m 1 #[rv a_GAP, rv a_INSERT_INTENTION, iv 0, .unset] [(.ref a_GAP)])) rfl (hb hby d2_1)
  have k_138 : Go p.tables e below (s₁.setTop (entryFrame m #[(.ref a_GAP), (.ref a_INSERT_INTENTION), (.int 0)] 4)) (T137.setTop (mkF m 8 #[rv a_GAP, rv a_INSERT_INTENTION, iv 0, .unset] [(.ref a_INSERT_INTENTION)])) := fun t q => by
    refine k_136 t ?_
    refine st137 _ ?_
    show Steps _ _ _ (T137.setTop (mkF m 4 #[rv a_GAP, rv a_INSERT_INTENTION, iv 0, .unset] [(.ref a_INSERT_INTENTION), (.ref a_GAP)])) _
    refine Jvm.RoadKit.acmp (g := (mkF m 4 #[rv a_GAP, rv a_INSERT_INTENTION, iv 0, .unset] [(.ref a_INSERT_INTENTION), (.ref a_GAP)])) X137 hx rfl rfl rfl (pc0 := 4) (pc' := 7) (same := false) rfl (hb hby d2_4) rfl (decide_eq_false fun q => (own_ne R_GAP_ordinal R_INSERT_INTENTION_ordinal (by decide)) (Value.ref.inj q)) (by decide) (by decide) ?_
    show Steps _ _ _ (T137.setTop (mkF m 7 #[rv a_GAP, rv a_INSERT_INTENTION, iv 0, .unset] [])) _
    refine XS.aloadN X137.here hx rfl (hb hby d2_7) rfl rfl ?_
    show Steps _ _ _ (T137.setTop (mkF m 8 #[rv a_GAP, rv a_INSERT_INTENTION, iv 0, .unset] [(.ref a_INSERT_INTENTION)])) _
    exact q
  obtain ⟨T139, X139, e139, st139⟩ := getS2 X137 hx hZ hown (host := "") (Or.inl (hw _ (wd 21 rfl))) Via.refl e137 (S_INSERT_INTENTION.ext O0.2) (g := (mkF m 8 #[rv a_GAP, rv a_INSERT_INTENTION, iv 0, .unset] [(.ref a_INSERT_INTENTION)])) rfl (hb hby d2_8)
  have k_140 : Go p.tables e below (s₁.setTop (entryFrame m #[(.ref a_GAP), (.ref a_INSERT_INTENTION), (.int 0)] 4)) (T139.setTop (mkF m 42 #[rv a_GAP, rv a_INSERT_INTENTION, iv 0, iv 0] [(.int 0)])) := fun t q => by
    refine k_138 t ?_
    refine st139 _ ?_
    show Steps _ _ _ (T139.setTop (mkF m 11 #[rv a_GAP, rv a_INSERT_INTENTION, iv 0, .unset] [(.ref a_INSERT_INTENTION), (.ref a_INSERT_INTENTION)])) _
    refine Jvm.RoadKit.acmp (g := (mkF m 11 #[rv a_GAP, rv a_INSERT_INTENTION, iv 0, .unset] [(.ref a_INSERT_INTENTION), (.ref a_INSERT_INTENTION)])) X139 hx rfl rfl rfl (pc0 := 11) (pc' := 14) (same := true) rfl (hb hby d2_11) rfl (decide_eq_true rfl) (by decide) (by decide) ?_
    show Steps _ _ _ (T139.setTop (mkF m 14 #[rv a_GAP, rv a_INSERT_INTENTION, iv 0, .unset] [])) _
    refine XS.iconst X139.here hx rfl (hb hby d2_14) ?_
    show Steps _ _ _ (T139.setTop (mkF m 15 #[rv a_GAP, rv a_INSERT_INTENTION, iv 0, .unset] [(.int 0)])) _
    refine XS.istoreN X139.here hx rfl (hb hby d2_15) rfl (l' := #[rv a_GAP, rv a_INSERT_INTENTION, iv 0, iv 0]) rfl ?_
    show Steps _ _ _ (T139.setTop (mkF m 16 #[rv a_GAP, rv a_INSERT_INTENTION, iv 0, iv 0] [])) _
    refine XS.goto X139.here hx rfl (pc0 := 16) (pc' := 41) rfl (hb hby d2_16) (by decide) (by decide) ?_
    show Steps _ _ _ (T139.setTop (mkF m 41 #[rv a_GAP, rv a_INSERT_INTENTION, iv 0, iv 0] [])) _
    refine XS.iloadN X139.here hx rfl (hb hby d2_41) rfl ?_
    show Steps _ _ _ (T139.setTop (mkF m 42 #[rv a_GAP, rv a_INSERT_INTENTION, iv 0, iv 0] [(.int 0)])) _
    exact q
  obtain ⟨fs, hr, hrun, hended, hW, hsame⟩ := X139.leave (v := some (.int 0)) (fun h => by rw [Bd.returns] at h; cases h)
  refine ⟨_, _, k_140 _ ?_, hrun, hended, _, _, rfl, ?_, ⟨_, rfl⟩, hW, hsame.mono (by decide) (by decide)⟩
  · exact retN X139 hx (t := .boolean) Bd.returns (by simp) (hb hby d2_42) hr
  · show QV (some (.int 0)) h0 n0 _ T139.heap _
    rw [e139]
    exact ⟨rfl, N0, rfl⟩
set_option maxRecDepth 65536 in
set_option maxHeartbeats 40000000 in
theorem cv_1_3_1 (l : Launch) (Z : State) (a0 : Array Value) (hw : ∀ d ∈ tables_1, d.before a0 Z = true) (ws : List Jvm.Cond) (a_NEXT_KEY a_GAP a_RECORD a_INSERT_INTENTION : Addr) (G : Own Z a_NEXT_KEY a_GAP a_RECORD a_INSERT_INTENTION)  (h0 : Heap) (n0 : Nat) (O0 : Old Z n0 h0)  :
    MetFree l y_3 (head1 (Jvm.Cond.code y_3 prog_87_method_5_code 4 (some .boolean) :: ws) ({ frames := 0, cells := 0, slots := 0, locals := 0 } : Room)) (fun a U => a = #[(.ref a_GAP), (.ref a_INSERT_INTENTION), (.int 1)] ∧ Z.Warmed39 U.vm ∧ U.heap = h0) (fun _ _ _ _ _ => True) (fun _ U o U' => ∃ v L, o = .returned v ∧ QV (some (.int 0)) h0 n0 v U'.heap L ∧ FrameEnd U o U' L ({ frames := 0, cells := 0, slots := 0, locals := 0 } : Room).cells ({ frames := 0, cells := 0, slots := 0, locals := 0 } : Room).slots) := by
  refine MetFree.of_bodySF (plainFor_of_name pn_1) hisR ?_
  intro p e s m args below meth c s₁ Bd hml0 hP hK
  obtain ⟨rfl, hZ, hh⟩ := hP
  have hx := Bd.exec
  have hby := Bd.bytes
  have hml : c.maxLocals = 4 := hml0
  have hown : s.vm.findClass "com/example/nkdb/nkdb/transaction/LockKind" = some m.cls := findClass_of_methodNamed Bd.named
  have hnm := (name_of_methodNamed Bd.named Bd.method).1
  have X0 : Stand p l e ({ frames := 0, cells := 0, slots := 0, locals := 0 } : Room) s m #[(.ref a_GAP), (.ref a_INSERT_INTENTION), (.int 1)] below meth c s₁ [] 0 0 := Stand.of_body Bd
  have e0 : s₁.heap = h0 := by rw [← hh, Bd.state]; rfl
  have N0 := Fr.nil n0
  have K0 := Keep.refl h0 []
  have k0 : Go p.tables e below (s₁.setTop (entryFrame m #[(.ref a_GAP), (.ref a_INSERT_INTENTION), (.int 1)] 4)) (s₁.setTop (mkF m 0 #[rv a_GAP, rv a_INSERT_INTENTION, iv 1, .unset] [])) := fun t k => castTop (by first | rfl | (simp [entryFrame, mkF, argsToLocals, Value.category]; done)) k
  have ⟨S_NEXT_KEY, E_NEXT_KEY, S_GAP, E_GAP, S_RECORD, E_RECORD, S_INSERT_INTENTION, E_INSERT_INTENTION, R_NEXT_KEY_ordinal, R_INSERT_INTENTION_ordinal, R_GAP_ordinal, R_RECORD_ordinal⟩ := G
  have k_141 : Go p.tables e below (s₁.setTop (entryFrame m #[(.ref a_GAP), (.ref a_INSERT_INTENTION), (.int 1)] 4)) (s₁.setTop (mkF m 1 #[rv a_GAP, rv a_INSERT_INTENTION, iv 1, .unset] [(.ref a_GAP)])) := fun t q => by
    refine k0 t ?_
    refine XS.aloadN X0.here hx rfl (hb hby d2_0) rfl rfl ?_
    show Steps _ _ _ (s₁.setTop (mkF m 1 #[rv a_GAP, rv a_INSERT_INTENTION, iv 1, .unset] [(.ref a_GAP)])) _
    exact q
  obtain ⟨T142, X142, e142, st142⟩ := getS2 X0 hx hZ hown (host := "") (Or.inl (hw _ (wd 21 rfl))) Via.refl e0 (S_INSERT_INTENTION.ext O0.2) (g := (mkF m 1 #[rv a_GAP, rv a_INSERT_INTENTION, iv 1, .unset] [(.ref a_GAP)])) rfl (hb hby d2_1)
  have k_143 : Go p.tables e below (s₁.setTop (entryFrame m #[(.ref a_GAP), (.ref a_INSERT_INTENTION), (.int 1)] 4)) (T142.setTop (mkF m 8 #[rv a_GAP, rv a_INSERT_INTENTION, iv 1, .unset] [(.ref a_INSERT_INTENTION)])) := fun t q => by
    refine k_141 t ?_
    refine st142 _ ?_
    show Steps _ _ _ (T142.setTop (mkF m 4 #[rv a_GAP, rv a_INSERT_INTENTION, iv 1, .unset] [(.ref a_INSERT_INTENTION), (.ref a_GAP)])) _
    refine Jvm.RoadKit.acmp (g := (mkF m 4 #[rv a_GAP, rv a_INSERT_INTENTION, iv 1, .unset] [(.ref a_INSERT_INTENTION), (.ref a_GAP)])) X142 hx rfl rfl rfl (pc0 := 4) (pc' := 7) (same := false) rfl (hb hby d2_4) rfl (decide_eq_false fun q => (own_ne R_GAP_ordinal R_INSERT_INTENTION_ordinal (by decide)) (Value.ref.inj q)) (by decide) (by decide) ?_
    show Steps _ _ _ (T142.setTop (mkF m 7 #[rv a_GAP, rv a_INSERT_INTENTION, iv 1, .unset] [])) _
    refine XS.aloadN X142.here hx rfl (hb hby d2_7) rfl rfl ?_
    show Steps _ _ _ (T142.setTop (mkF m 8 #[rv a_GAP, rv a_INSERT_INTENTION, iv 1, .unset] [(.ref a_INSERT_INTENTION)])) _
    exact q
  obtain ⟨T144, X144, e144, st144⟩ := getS2 X142 hx hZ hown (host := "") (Or.inl (hw _ (wd 21 rfl))) Via.refl e142 (S_INSERT_INTENTION.ext O0.2) (g := (mkF m 8 #[rv a_GAP, rv a_INSERT_INTENTION, iv 1, .unset] [(.ref a_INSERT_INTENTION)])) rfl (hb hby d2_8)
  have k_145 : Go p.tables e below (s₁.setTop (entryFrame m #[(.ref a_GAP), (.ref a_INSERT_INTENTION), (.int 1)] 4)) (T144.setTop (mkF m 42 #[rv a_GAP, rv a_INSERT_INTENTION, iv 1, iv 0] [(.int 0)])) := fun t q => by
    refine k_143 t ?_
    refine st144 _ ?_
    show Steps _ _ _ (T144.setTop (mkF m 11 #[rv a_GAP, rv a_INSERT_INTENTION, iv 1, .unset] [(.ref a_INSERT_INTENTION), (.ref a_INSERT_INTENTION)])) _
    refine Jvm.RoadKit.acmp (g := (mkF m 11 #[rv a_GAP, rv a_INSERT_INTENTION, iv 1, .unset] [(.ref a_INSERT_INTENTION), (.ref a_INSERT_INTENTION)])) X144 hx rfl rfl rfl (pc0 := 11) (pc' := 14) (same := true) rfl (hb hby d2_11) rfl (decide_eq_true rfl) (by decide) (by decide) ?_
    show Steps _ _ _ (T144.setTop (mkF m 14 #[rv a_GAP, rv a_INSERT_INTENTION, iv 1, .unset] [])) _
    refine XS.iconst X144.here hx rfl (hb hby d2_14) ?_
    show Steps _ _ _ (T144.setTop (mkF m 15 #[rv a_GAP, rv a_INSERT_INTENTION, iv 1, .unset] [(.int 0)])) _
    refine XS.istoreN X144.here hx rfl (hb hby d2_15) rfl (l' := #[rv a_GAP, rv a_INSERT_INTENTION, iv 1, iv 0]) rfl ?_
    show Steps _ _ _ (T144.setTop (mkF m 16 #[rv a_GAP, rv a_INSERT_INTENTION, iv 1, iv 0] [])) _
    refine XS.goto X144.here hx rfl (pc0 := 16) (pc' := 41) rfl (hb hby d2_16) (by decide) (by decide) ?_
    show Steps _ _ _ (T144.setTop (mkF m 41 #[rv a_GAP, rv a_INSERT_INTENTION, iv 1, iv 0] [])) _
    refine XS.iloadN X144.here hx rfl (hb hby d2_41) rfl ?_
    show Steps _ _ _ (T144.setTop (mkF m 42 #[rv a_GAP, rv a_INSERT_INTENTION, iv 1, iv 0] [(.int 0)])) _
    exact q
  obtain ⟨fs, hr, hrun, hended, hW, hsame⟩ := X144.leave (v := some (.int 0)) (fun h => by rw [Bd.returns] at h; cases h)
  refine ⟨_, _, k_145 _ ?_, hrun, hended, _, _, rfl, ?_, ⟨_, rfl⟩, hW, hsame.mono (by decide) (by decide)⟩
  · exact retN X144 hx (t := .boolean) Bd.returns (by simp) (hb hby d2_42) hr
  · show QV (some (.int 0)) h0 n0 _ T144.heap _
    rw [e144]
    exact ⟨rfl, N0, rfl⟩
set_option maxRecDepth 65536 in
set_option maxHeartbeats 40000000 in
theorem cv_2_0_0 (l : Launch) (Z : State) (a0 : Array Value) (hw : ∀ d ∈ tables_1, d.before a0 Z = true) (ws : List Jvm.Cond) (a_NEXT_KEY a_GAP a_RECORD a_INSERT_INTENTION : Addr) (G : Own Z a_NEXT_KEY a_GAP a_RECORD a_INSERT_INTENTION)  (h0 : Heap) (n0 : Nat) (O0 : Old Z n0 h0)  :
    MetFree l y_3 (head1 (Jvm.Cond.code y_3 prog_87_method_5_code 4 (some .boolean) :: ws) ({ frames := 0, cells := 0, slots := 0, locals := 0 } : Room)) (fun a U => a = #[(.ref a_RECORD), (.ref a_NEXT_KEY), (.int 0)] ∧ Z.Warmed39 U.vm ∧ U.heap = h0) (fun _ _ _ _ _ => True) (fun _ U o U' => ∃ v L, o = .returned v ∧ QV (some (.int 0)) h0 n0 v U'.heap L ∧ FrameEnd U o U' L ({ frames := 0, cells := 0, slots := 0, locals := 0 } : Room).cells ({ frames := 0, cells := 0, slots := 0, locals := 0 } : Room).slots) := by
  refine MetFree.of_bodySF (plainFor_of_name pn_1) hisR ?_
  intro p e s m args below meth c s₁ Bd hml0 hP hK
  obtain ⟨rfl, hZ, hh⟩ := hP
  have hx := Bd.exec
  have hby := Bd.bytes
  have hml : c.maxLocals = 4 := hml0
  have hown : s.vm.findClass "com/example/nkdb/nkdb/transaction/LockKind" = some m.cls := findClass_of_methodNamed Bd.named
  have hnm := (name_of_methodNamed Bd.named Bd.method).1
  have X0 : Stand p l e ({ frames := 0, cells := 0, slots := 0, locals := 0 } : Room) s m #[(.ref a_RECORD), (.ref a_NEXT_KEY), (.int 0)] below meth c s₁ [] 0 0 := Stand.of_body Bd
  have e0 : s₁.heap = h0 := by rw [← hh, Bd.state]; rfl
  have N0 := Fr.nil n0
  have K0 := Keep.refl h0 []
  have k0 : Go p.tables e below (s₁.setTop (entryFrame m #[(.ref a_RECORD), (.ref a_NEXT_KEY), (.int 0)] 4)) (s₁.setTop (mkF m 0 #[rv a_RECORD, rv a_NEXT_KEY, iv 0, .unset] [])) := fun t k => castTop (by first | rfl | (simp [entryFrame, mkF, argsToLocals, Value.category]; done)) k
  have ⟨S_NEXT_KEY, E_NEXT_KEY, S_GAP, E_GAP, S_RECORD, E_RECORD, S_INSERT_INTENTION, E_INSERT_INTENTION, R_NEXT_KEY_ordinal, R_INSERT_INTENTION_ordinal, R_GAP_ordinal, R_RECORD_ordinal⟩ := G
  have k_146 : Go p.tables e below (s₁.setTop (entryFrame m #[(.ref a_RECORD), (.ref a_NEXT_KEY), (.int 0)] 4)) (s₁.setTop (mkF m 1 #[rv a_RECORD, rv a_NEXT_KEY, iv 0, .unset] [(.ref a_RECORD)])) := fun t q => by
    refine k0 t ?_
    refine XS.aloadN X0.here hx rfl (hb hby d2_0) rfl rfl ?_
    show Steps _ _ _ (s₁.setTop (mkF m 1 #[rv a_RECORD, rv a_NEXT_KEY, iv 0, .unset] [(.ref a_RECORD)])) _
    exact q
  obtain ⟨T147, X147, e147, st147⟩ := getS2 X0 hx hZ hown (host := "") (Or.inl (hw _ (wd 21 rfl))) Via.refl e0 (S_INSERT_INTENTION.ext O0.2) (g := (mkF m 1 #[rv a_RECORD, rv a_NEXT_KEY, iv 0, .unset] [(.ref a_RECORD)])) rfl (hb hby d2_1)
  have k_148 : Go p.tables e below (s₁.setTop (entryFrame m #[(.ref a_RECORD), (.ref a_NEXT_KEY), (.int 0)] 4)) (T147.setTop (mkF m 8 #[rv a_RECORD, rv a_NEXT_KEY, iv 0, .unset] [(.ref a_NEXT_KEY)])) := fun t q => by
    refine k_146 t ?_
    refine st147 _ ?_
    show Steps _ _ _ (T147.setTop (mkF m 4 #[rv a_RECORD, rv a_NEXT_KEY, iv 0, .unset] [(.ref a_INSERT_INTENTION), (.ref a_RECORD)])) _
    refine Jvm.RoadKit.acmp (g := (mkF m 4 #[rv a_RECORD, rv a_NEXT_KEY, iv 0, .unset] [(.ref a_INSERT_INTENTION), (.ref a_RECORD)])) X147 hx rfl rfl rfl (pc0 := 4) (pc' := 7) (same := false) rfl (hb hby d2_4) rfl (decide_eq_false fun q => (own_ne R_RECORD_ordinal R_INSERT_INTENTION_ordinal (by decide)) (Value.ref.inj q)) (by decide) (by decide) ?_
    show Steps _ _ _ (T147.setTop (mkF m 7 #[rv a_RECORD, rv a_NEXT_KEY, iv 0, .unset] [])) _
    refine XS.aloadN X147.here hx rfl (hb hby d2_7) rfl rfl ?_
    show Steps _ _ _ (T147.setTop (mkF m 8 #[rv a_RECORD, rv a_NEXT_KEY, iv 0, .unset] [(.ref a_NEXT_KEY)])) _
    exact q
  obtain ⟨T149, X149, e149, st149⟩ := getS2 X147 hx hZ hown (host := "") (Or.inl (hw _ (wd 21 rfl))) Via.refl e147 (S_INSERT_INTENTION.ext O0.2) (g := (mkF m 8 #[rv a_RECORD, rv a_NEXT_KEY, iv 0, .unset] [(.ref a_NEXT_KEY)])) rfl (hb hby d2_8)
  have k_150 : Go p.tables e below (s₁.setTop (entryFrame m #[(.ref a_RECORD), (.ref a_NEXT_KEY), (.int 0)] 4)) (T149.setTop (mkF m 24 #[rv a_RECORD, rv a_NEXT_KEY, iv 0, .unset] [(.ref a_RECORD)])) := fun t q => by
    refine k_148 t ?_
    refine st149 _ ?_
    show Steps _ _ _ (T149.setTop (mkF m 11 #[rv a_RECORD, rv a_NEXT_KEY, iv 0, .unset] [(.ref a_INSERT_INTENTION), (.ref a_NEXT_KEY)])) _
    refine Jvm.RoadKit.acmp (g := (mkF m 11 #[rv a_RECORD, rv a_NEXT_KEY, iv 0, .unset] [(.ref a_INSERT_INTENTION), (.ref a_NEXT_KEY)])) X149 hx rfl rfl rfl (pc0 := 11) (pc' := 19) (same := false) rfl (hb hby d2_11) rfl (decide_eq_false fun q => (own_ne R_NEXT_KEY_ordinal R_INSERT_INTENTION_ordinal (by decide)) (Value.ref.inj q)) (by decide) (by decide) ?_
    show Steps _ _ _ (T149.setTop (mkF m 19 #[rv a_RECORD, rv a_NEXT_KEY, iv 0, .unset] [])) _
    refine XS.iloadN X149.here hx rfl (hb hby d2_19) rfl ?_
    show Steps _ _ _ (T149.setTop (mkF m 20 #[rv a_RECORD, rv a_NEXT_KEY, iv 0, .unset] [(.int 0)])) _
    refine XS.ifNo X149.here hx rfl (hb hby d2_20) rfl (by decide) ?_
    show Steps _ _ _ (T149.setTop (mkF m 23 #[rv a_RECORD, rv a_NEXT_KEY, iv 0, .unset] [])) _
    refine XS.aloadN X149.here hx rfl (hb hby d2_23) rfl rfl ?_
    show Steps _ _ _ (T149.setTop (mkF m 24 #[rv a_RECORD, rv a_NEXT_KEY, iv 0, .unset] [(.ref a_RECORD)])) _
    exact q
  obtain ⟨T151, X151, e151, st151⟩ := getS2 X149 hx hZ hown (host := "") (Or.inl (hw _ (wd 28 rfl))) Via.refl e149 (S_NEXT_KEY.ext O0.2) (g := (mkF m 24 #[rv a_RECORD, rv a_NEXT_KEY, iv 0, .unset] [(.ref a_RECORD)])) rfl (hb hby d2_24)
  have k_152 : Go p.tables e below (s₁.setTop (entryFrame m #[(.ref a_RECORD), (.ref a_NEXT_KEY), (.int 0)] 4)) (T151.setTop (mkF m 42 #[rv a_RECORD, rv a_NEXT_KEY, iv 0, iv 0] [(.int 0)])) := fun t q => by
    refine k_150 t ?_
    refine st151 _ ?_
    show Steps _ _ _ (T151.setTop (mkF m 27 #[rv a_RECORD, rv a_NEXT_KEY, iv 0, .unset] [(.ref a_NEXT_KEY), (.ref a_RECORD)])) _
    refine Jvm.RoadKit.acmp (g := (mkF m 27 #[rv a_RECORD, rv a_NEXT_KEY, iv 0, .unset] [(.ref a_NEXT_KEY), (.ref a_RECORD)])) X151 hx rfl rfl rfl (pc0 := 27) (pc' := 30) (same := false) rfl (hb hby d2_27) rfl (decide_eq_false fun q => (own_ne R_RECORD_ordinal R_NEXT_KEY_ordinal (by decide)) (Value.ref.inj q)) (by decide) (by decide) ?_
    show Steps _ _ _ (T151.setTop (mkF m 30 #[rv a_RECORD, rv a_NEXT_KEY, iv 0, .unset] [])) _
    refine XS.aloadN X151.here hx rfl (hb hby d2_30) rfl rfl ?_
    show Steps _ _ _ (T151.setTop (mkF m 31 #[rv a_RECORD, rv a_NEXT_KEY, iv 0, .unset] [(.ref a_RECORD)])) _
    refine XS.aloadN X151.here hx rfl (hb hby d2_31) rfl rfl ?_
    show Steps _ _ _ (T151.setTop (mkF m 32 #[rv a_RECORD, rv a_NEXT_KEY, iv 0, .unset] [(.ref a_NEXT_KEY), (.ref a_RECORD)])) _
    refine Jvm.RoadKit.acmp (g := (mkF m 32 #[rv a_RECORD, rv a_NEXT_KEY, iv 0, .unset] [(.ref a_NEXT_KEY), (.ref a_RECORD)])) X151 hx rfl rfl rfl (pc0 := 32) (pc' := 39) (same := false) rfl (hb hby d2_32) rfl (decide_eq_false fun q => (own_ne R_RECORD_ordinal R_NEXT_KEY_ordinal (by decide)) (Value.ref.inj q)) (by decide) (by decide) ?_
    show Steps _ _ _ (T151.setTop (mkF m 39 #[rv a_RECORD, rv a_NEXT_KEY, iv 0, .unset] [])) _
    refine XS.iconst X151.here hx rfl (hb hby d2_39) ?_
    show Steps _ _ _ (T151.setTop (mkF m 40 #[rv a_RECORD, rv a_NEXT_KEY, iv 0, .unset] [(.int 0)])) _
    refine XS.istoreN X151.here hx rfl (hb hby d2_40) rfl (l' := #[rv a_RECORD, rv a_NEXT_KEY, iv 0, iv 0]) rfl ?_
    show Steps _ _ _ (T151.setTop (mkF m 41 #[rv a_RECORD, rv a_NEXT_KEY, iv 0, iv 0] [])) _
    refine XS.iloadN X151.here hx rfl (hb hby d2_41) rfl ?_
    show Steps _ _ _ (T151.setTop (mkF m 42 #[rv a_RECORD, rv a_NEXT_KEY, iv 0, iv 0] [(.int 0)])) _
    exact q
  obtain ⟨fs, hr, hrun, hended, hW, hsame⟩ := X151.leave (v := some (.int 0)) (fun h => by rw [Bd.returns] at h; cases h)
  refine ⟨_, _, k_152 _ ?_, hrun, hended, _, _, rfl, ?_, ⟨_, rfl⟩, hW, hsame.mono (by decide) (by decide)⟩
  · exact retN X151 hx (t := .boolean) Bd.returns (by simp) (hb hby d2_42) hr
  · show QV (some (.int 0)) h0 n0 _ T151.heap _
    rw [e151]
    exact ⟨rfl, N0, rfl⟩
set_option maxRecDepth 65536 in
set_option maxHeartbeats 40000000 in
theorem cv_2_0_1 (l : Launch) (Z : State) (a0 : Array Value) (hw : ∀ d ∈ tables_1, d.before a0 Z = true) (ws : List Jvm.Cond) (a_NEXT_KEY a_GAP a_RECORD a_INSERT_INTENTION : Addr) (G : Own Z a_NEXT_KEY a_GAP a_RECORD a_INSERT_INTENTION)  (h0 : Heap) (n0 : Nat) (O0 : Old Z n0 h0)  :
    MetFree l y_3 (head1 (Jvm.Cond.code y_3 prog_87_method_5_code 4 (some .boolean) :: ws) ({ frames := 0, cells := 0, slots := 0, locals := 0 } : Room)) (fun a U => a = #[(.ref a_RECORD), (.ref a_NEXT_KEY), (.int 1)] ∧ Z.Warmed39 U.vm ∧ U.heap = h0) (fun _ _ _ _ _ => True) (fun _ U o U' => ∃ v L, o = .returned v ∧ QV (some (.int 1)) h0 n0 v U'.heap L ∧ FrameEnd U o U' L ({ frames := 0, cells := 0, slots := 0, locals := 0 } : Room).cells ({ frames := 0, cells := 0, slots := 0, locals := 0 } : Room).slots) := by
  refine MetFree.of_bodySF (plainFor_of_name pn_1) hisR ?_
  intro p e s m args below meth c s₁ Bd hml0 hP hK
  obtain ⟨rfl, hZ, hh⟩ := hP
  have hx := Bd.exec
  have hby := Bd.bytes
  have hml : c.maxLocals = 4 := hml0
  have hown : s.vm.findClass "com/example/nkdb/nkdb/transaction/LockKind" = some m.cls := findClass_of_methodNamed Bd.named
  have hnm := (name_of_methodNamed Bd.named Bd.method).1
  have X0 : Stand p l e ({ frames := 0, cells := 0, slots := 0, locals := 0 } : Room) s m #[(.ref a_RECORD), (.ref a_NEXT_KEY), (.int 1)] below meth c s₁ [] 0 0 := Stand.of_body Bd
  have e0 : s₁.heap = h0 := by rw [← hh, Bd.state]; rfl
  have N0 := Fr.nil n0
  have K0 := Keep.refl h0 []
  have k0 : Go p.tables e below (s₁.setTop (entryFrame m #[(.ref a_RECORD), (.ref a_NEXT_KEY), (.int 1)] 4)) (s₁.setTop (mkF m 0 #[rv a_RECORD, rv a_NEXT_KEY, iv 1, .unset] [])) := fun t k => castTop (by first | rfl | (simp [entryFrame, mkF, argsToLocals, Value.category]; done)) k
  have ⟨S_NEXT_KEY, E_NEXT_KEY, S_GAP, E_GAP, S_RECORD, E_RECORD, S_INSERT_INTENTION, E_INSERT_INTENTION, R_NEXT_KEY_ordinal, R_INSERT_INTENTION_ordinal, R_GAP_ordinal, R_RECORD_ordinal⟩ := G
  have k_153 : Go p.tables e below (s₁.setTop (entryFrame m #[(.ref a_RECORD), (.ref a_NEXT_KEY), (.int 1)] 4)) (s₁.setTop (mkF m 1 #[rv a_RECORD, rv a_NEXT_KEY, iv 1, .unset] [(.ref a_RECORD)])) := fun t q => by
    refine k0 t ?_
    refine XS.aloadN X0.here hx rfl (hb hby d2_0) rfl rfl ?_
    show Steps _ _ _ (s₁.setTop (mkF m 1 #[rv a_RECORD, rv a_NEXT_KEY, iv 1, .unset] [(.ref a_RECORD)])) _
    exact q
  obtain ⟨T154, X154, e154, st154⟩ := getS2 X0 hx hZ hown (host := "") (Or.inl (hw _ (wd 21 rfl))) Via.refl e0 (S_INSERT_INTENTION.ext O0.2) (g := (mkF m 1 #[rv a_RECORD, rv a_NEXT_KEY, iv 1, .unset] [(.ref a_RECORD)])) rfl (hb hby d2_1)
  have k_155 : Go p.tables e below (s₁.setTop (entryFrame m #[(.ref a_RECORD), (.ref a_NEXT_KEY), (.int 1)] 4)) (T154.setTop (mkF m 8 #[rv a_RECORD, rv a_NEXT_KEY, iv 1, .unset] [(.ref a_NEXT_KEY)])) := fun t q => by
    refine k_153 t ?_
    refine st154 _ ?_
    show Steps _ _ _ (T154.setTop (mkF m 4 #[rv a_RECORD, rv a_NEXT_KEY, iv 1, .unset] [(.ref a_INSERT_INTENTION), (.ref a_RECORD)])) _
    refine Jvm.RoadKit.acmp (g := (mkF m 4 #[rv a_RECORD, rv a_NEXT_KEY, iv 1, .unset] [(.ref a_INSERT_INTENTION), (.ref a_RECORD)])) X154 hx rfl rfl rfl (pc0 := 4) (pc' := 7) (same := false) rfl (hb hby d2_4) rfl (decide_eq_false fun q => (own_ne R_RECORD_ordinal R_INSERT_INTENTION_ordinal (by decide)) (Value.ref.inj q)) (by decide) (by decide) ?_
    show Steps _ _ _ (T154.setTop (mkF m 7 #[rv a_RECORD, rv a_NEXT_KEY, iv 1, .unset] [])) _
    refine XS.aloadN X154.here hx rfl (hb hby d2_7) rfl rfl ?_
    show Steps _ _ _ (T154.setTop (mkF m 8 #[rv a_RECORD, rv a_NEXT_KEY, iv 1, .unset] [(.ref a_NEXT_KEY)])) _
    exact q
  obtain ⟨T156, X156, e156, st156⟩ := getS2 X154 hx hZ hown (host := "") (Or.inl (hw _ (wd 21 rfl))) Via.refl e154 (S_INSERT_INTENTION.ext O0.2) (g := (mkF m 8 #[rv a_RECORD, rv a_NEXT_KEY, iv 1, .unset] [(.ref a_NEXT_KEY)])) rfl (hb hby d2_8)
  have k_157 : Go p.tables e below (s₁.setTop (entryFrame m #[(.ref a_RECORD), (.ref a_NEXT_KEY), (.int 1)] 4)) (T156.setTop (mkF m 42 #[rv a_RECORD, rv a_NEXT_KEY, iv 1, iv 1] [(.int 1)])) := fun t q => by
    refine k_155 t ?_
    refine st156 _ ?_
    show Steps _ _ _ (T156.setTop (mkF m 11 #[rv a_RECORD, rv a_NEXT_KEY, iv 1, .unset] [(.ref a_INSERT_INTENTION), (.ref a_NEXT_KEY)])) _
    refine Jvm.RoadKit.acmp (g := (mkF m 11 #[rv a_RECORD, rv a_NEXT_KEY, iv 1, .unset] [(.ref a_INSERT_INTENTION), (.ref a_NEXT_KEY)])) X156 hx rfl rfl rfl (pc0 := 11) (pc' := 19) (same := false) rfl (hb hby d2_11) rfl (decide_eq_false fun q => (own_ne R_NEXT_KEY_ordinal R_INSERT_INTENTION_ordinal (by decide)) (Value.ref.inj q)) (by decide) (by decide) ?_
    show Steps _ _ _ (T156.setTop (mkF m 19 #[rv a_RECORD, rv a_NEXT_KEY, iv 1, .unset] [])) _
    refine XS.iloadN X156.here hx rfl (hb hby d2_19) rfl ?_
    show Steps _ _ _ (T156.setTop (mkF m 20 #[rv a_RECORD, rv a_NEXT_KEY, iv 1, .unset] [(.int 1)])) _
    refine XS.ifYes X156.here hx rfl (pc0 := 20) (pc' := 35) rfl (hb hby d2_20) rfl (by decide) (by decide) (by decide) ?_
    show Steps _ _ _ (T156.setTop (mkF m 35 #[rv a_RECORD, rv a_NEXT_KEY, iv 1, .unset] [])) _
    refine XS.iconst X156.here hx rfl (hb hby d2_35) ?_
    show Steps _ _ _ (T156.setTop (mkF m 36 #[rv a_RECORD, rv a_NEXT_KEY, iv 1, .unset] [(.int 1)])) _
    refine XS.goto X156.here hx rfl (pc0 := 36) (pc' := 40) rfl (hb hby d2_36) (by decide) (by decide) ?_
    show Steps _ _ _ (T156.setTop (mkF m 40 #[rv a_RECORD, rv a_NEXT_KEY, iv 1, .unset] [(.int 1)])) _
    refine XS.istoreN X156.here hx rfl (hb hby d2_40) rfl (l' := #[rv a_RECORD, rv a_NEXT_KEY, iv 1, iv 1]) rfl ?_
    show Steps _ _ _ (T156.setTop (mkF m 41 #[rv a_RECORD, rv a_NEXT_KEY, iv 1, iv 1] [])) _
    refine XS.iloadN X156.here hx rfl (hb hby d2_41) rfl ?_
    show Steps _ _ _ (T156.setTop (mkF m 42 #[rv a_RECORD, rv a_NEXT_KEY, iv 1, iv 1] [(.int 1)])) _
    exact q
  obtain ⟨fs, hr, hrun, hended, hW, hsame⟩ := X156.leave (v := some (.int 1)) (fun h => by rw [Bd.returns] at h; cases h)
  refine ⟨_, _, k_157 _ ?_, hrun, hended, _, _, rfl, ?_, ⟨_, rfl⟩, hW, hsame.mono (by decide) (by decide)⟩
  · exact retN X156 hx (t := .boolean) Bd.returns (by simp) (hb hby d2_42) hr
  · show QV (some (.int 1)) h0 n0 _ T156.heap _
    rw [e156]
    exact ⟨rfl, N0, rfl⟩
set_option maxRecDepth 65536 in
set_option maxHeartbeats 40000000 in
theorem cv_2_1_0 (l : Launch) (Z : State) (a0 : Array Value) (hw : ∀ d ∈ tables_1, d.before a0 Z = true) (ws : List Jvm.Cond) (a_NEXT_KEY a_GAP a_RECORD a_INSERT_INTENTION : Addr) (G : Own Z a_NEXT_KEY a_GAP a_RECORD a_INSERT_INTENTION)  (h0 : Heap) (n0 : Nat) (O0 : Old Z n0 h0)  :
    MetFree l y_3 (head1 (Jvm.Cond.code y_3 prog_87_method_5_code 4 (some .boolean) :: ws) ({ frames := 0, cells := 0, slots := 0, locals := 0 } : Room)) (fun a U => a = #[(.ref a_RECORD), (.ref a_GAP), (.int 0)] ∧ Z.Warmed39 U.vm ∧ U.heap = h0) (fun _ _ _ _ _ => True) (fun _ U o U' => ∃ v L, o = .returned v ∧ QV (some (.int 0)) h0 n0 v U'.heap L ∧ FrameEnd U o U' L ({ frames := 0, cells := 0, slots := 0, locals := 0 } : Room).cells ({ frames := 0, cells := 0, slots := 0, locals := 0 } : Room).slots) := by
  refine MetFree.of_bodySF (plainFor_of_name pn_1) hisR ?_
  intro p e s m args below meth c s₁ Bd hml0 hP hK
  obtain ⟨rfl, hZ, hh⟩ := hP
  have hx := Bd.exec
  have hby := Bd.bytes
  have hml : c.maxLocals = 4 := hml0
  have hown : s.vm.findClass "com/example/nkdb/nkdb/transaction/LockKind" = some m.cls := findClass_of_methodNamed Bd.named
  have hnm := (name_of_methodNamed Bd.named Bd.method).1
  have X0 : Stand p l e ({ frames := 0, cells := 0, slots := 0, locals := 0 } : Room) s m #[(.ref a_RECORD), (.ref a_GAP), (.int 0)] below meth c s₁ [] 0 0 := Stand.of_body Bd
  have e0 : s₁.heap = h0 := by rw [← hh, Bd.state]; rfl
  have N0 := Fr.nil n0
  have K0 := Keep.refl h0 []
  have k0 : Go p.tables e below (s₁.setTop (entryFrame m #[(.ref a_RECORD), (.ref a_GAP), (.int 0)] 4)) (s₁.setTop (mkF m 0 #[rv a_RECORD, rv a_GAP, iv 0, .unset] [])) := fun t k => castTop (by first | rfl | (simp [entryFrame, mkF, argsToLocals, Value.category]; done)) k
  have ⟨S_NEXT_KEY, E_NEXT_KEY, S_GAP, E_GAP, S_RECORD, E_RECORD, S_INSERT_INTENTION, E_INSERT_INTENTION, R_NEXT_KEY_ordinal, R_INSERT_INTENTION_ordinal, R_GAP_ordinal, R_RECORD_ordinal⟩ := G
  have k_158 : Go p.tables e below (s₁.setTop (entryFrame m #[(.ref a_RECORD), (.ref a_GAP), (.int 0)] 4)) (s₁.setTop (mkF m 1 #[rv a_RECORD, rv a_GAP, iv 0, .unset] [(.ref a_RECORD)])) := fun t q => by
    refine k0 t ?_
    refine XS.aloadN X0.here hx rfl (hb hby d2_0) rfl rfl ?_
    show Steps _ _ _ (s₁.setTop (mkF m 1 #[rv a_RECORD, rv a_GAP, iv 0, .unset] [(.ref a_RECORD)])) _
    exact q
  obtain ⟨T159, X159, e159, st159⟩ := getS2 X0 hx hZ hown (host := "") (Or.inl (hw _ (wd 21 rfl))) Via.refl e0 (S_INSERT_INTENTION.ext O0.2) (g := (mkF m 1 #[rv a_RECORD, rv a_GAP, iv 0, .unset] [(.ref a_RECORD)])) rfl (hb hby d2_1)
  have k_160 : Go p.tables e below (s₁.setTop (entryFrame m #[(.ref a_RECORD), (.ref a_GAP), (.int 0)] 4)) (T159.setTop (mkF m 8 #[rv a_RECORD, rv a_GAP, iv 0, .unset] [(.ref a_GAP)])) := fun t q => by
    refine k_158 t ?_
    refine st159 _ ?_
    show Steps _ _ _ (T159.setTop (mkF m 4 #[rv a_RECORD, rv a_GAP, iv 0, .unset] [(.ref a_INSERT_INTENTION), (.ref a_RECORD)])) _
    refine Jvm.RoadKit.acmp (g := (mkF m 4 #[rv a_RECORD, rv a_GAP, iv 0, .unset] [(.ref a_INSERT_INTENTION), (.ref a_RECORD)])) X159 hx rfl rfl rfl (pc0 := 4) (pc' := 7) (same := false) rfl (hb hby d2_4) rfl (decide_eq_false fun q => (own_ne R_RECORD_ordinal R_INSERT_INTENTION_ordinal (by decide)) (Value.ref.inj q)) (by decide) (by decide) ?_
    show Steps _ _ _ (T159.setTop (mkF m 7 #[rv a_RECORD, rv a_GAP, iv 0, .unset] [])) _
    refine XS.aloadN X159.here hx rfl (hb hby d2_7) rfl rfl ?_
    show Steps _ _ _ (T159.setTop (mkF m 8 #[rv a_RECORD, rv a_GAP, iv 0, .unset] [(.ref a_GAP)])) _
    exact q
  obtain ⟨T161, X161, e161, st161⟩ := getS2 X159 hx hZ hown (host := "") (Or.inl (hw _ (wd 21 rfl))) Via.refl e159 (S_INSERT_INTENTION.ext O0.2) (g := (mkF m 8 #[rv a_RECORD, rv a_GAP, iv 0, .unset] [(.ref a_GAP)])) rfl (hb hby d2_8)
  have k_162 : Go p.tables e below (s₁.setTop (entryFrame m #[(.ref a_RECORD), (.ref a_GAP), (.int 0)] 4)) (T161.setTop (mkF m 24 #[rv a_RECORD, rv a_GAP, iv 0, .unset] [(.ref a_RECORD)])) := fun t q => by
    refine k_160 t ?_
    refine st161 _ ?_
    show Steps _ _ _ (T161.setTop (mkF m 11 #[rv a_RECORD, rv a_GAP, iv 0, .unset] [(.ref a_INSERT_INTENTION), (.ref a_GAP)])) _
    refine Jvm.RoadKit.acmp (g := (mkF m 11 #[rv a_RECORD, rv a_GAP, iv 0, .unset] [(.ref a_INSERT_INTENTION), (.ref a_GAP)])) X161 hx rfl rfl rfl (pc0 := 11) (pc' := 19) (same := false) rfl (hb hby d2_11) rfl (decide_eq_false fun q => (own_ne R_GAP_ordinal R_INSERT_INTENTION_ordinal (by decide)) (Value.ref.inj q)) (by decide) (by decide) ?_
    show Steps _ _ _ (T161.setTop (mkF m 19 #[rv a_RECORD, rv a_GAP, iv 0, .unset] [])) _
    refine XS.iloadN X161.here hx rfl (hb hby d2_19) rfl ?_
    show Steps _ _ _ (T161.setTop (mkF m 20 #[rv a_RECORD, rv a_GAP, iv 0, .unset] [(.int 0)])) _
    refine XS.ifNo X161.here hx rfl (hb hby d2_20) rfl (by decide) ?_
    show Steps _ _ _ (T161.setTop (mkF m 23 #[rv a_RECORD, rv a_GAP, iv 0, .unset] [])) _
    refine XS.aloadN X161.here hx rfl (hb hby d2_23) rfl rfl ?_
    show Steps _ _ _ (T161.setTop (mkF m 24 #[rv a_RECORD, rv a_GAP, iv 0, .unset] [(.ref a_RECORD)])) _
    exact q
  obtain ⟨T163, X163, e163, st163⟩ := getS2 X161 hx hZ hown (host := "") (Or.inl (hw _ (wd 28 rfl))) Via.refl e161 (S_NEXT_KEY.ext O0.2) (g := (mkF m 24 #[rv a_RECORD, rv a_GAP, iv 0, .unset] [(.ref a_RECORD)])) rfl (hb hby d2_24)
  have k_164 : Go p.tables e below (s₁.setTop (entryFrame m #[(.ref a_RECORD), (.ref a_GAP), (.int 0)] 4)) (T163.setTop (mkF m 42 #[rv a_RECORD, rv a_GAP, iv 0, iv 0] [(.int 0)])) := fun t q => by
    refine k_162 t ?_
    refine st163 _ ?_
    show Steps _ _ _ (T163.setTop (mkF m 27 #[rv a_RECORD, rv a_GAP, iv 0, .unset] [(.ref a_NEXT_KEY), (.ref a_RECORD)])) _
    refine Jvm.RoadKit.acmp (g := (mkF m 27 #[rv a_RECORD, rv a_GAP, iv 0, .unset] [(.ref a_NEXT_KEY), (.ref a_RECORD)])) X163 hx rfl rfl rfl (pc0 := 27) (pc' := 30) (same := false) rfl (hb hby d2_27) rfl (decide_eq_false fun q => (own_ne R_RECORD_ordinal R_NEXT_KEY_ordinal (by decide)) (Value.ref.inj q)) (by decide) (by decide) ?_
    show Steps _ _ _ (T163.setTop (mkF m 30 #[rv a_RECORD, rv a_GAP, iv 0, .unset] [])) _
    refine XS.aloadN X163.here hx rfl (hb hby d2_30) rfl rfl ?_
    show Steps _ _ _ (T163.setTop (mkF m 31 #[rv a_RECORD, rv a_GAP, iv 0, .unset] [(.ref a_RECORD)])) _
    refine XS.aloadN X163.here hx rfl (hb hby d2_31) rfl rfl ?_
    show Steps _ _ _ (T163.setTop (mkF m 32 #[rv a_RECORD, rv a_GAP, iv 0, .unset] [(.ref a_GAP), (.ref a_RECORD)])) _
    refine Jvm.RoadKit.acmp (g := (mkF m 32 #[rv a_RECORD, rv a_GAP, iv 0, .unset] [(.ref a_GAP), (.ref a_RECORD)])) X163 hx rfl rfl rfl (pc0 := 32) (pc' := 39) (same := false) rfl (hb hby d2_32) rfl (decide_eq_false fun q => (own_ne R_RECORD_ordinal R_GAP_ordinal (by decide)) (Value.ref.inj q)) (by decide) (by decide) ?_
    show Steps _ _ _ (T163.setTop (mkF m 39 #[rv a_RECORD, rv a_GAP, iv 0, .unset] [])) _
    refine XS.iconst X163.here hx rfl (hb hby d2_39) ?_
    show Steps _ _ _ (T163.setTop (mkF m 40 #[rv a_RECORD, rv a_GAP, iv 0, .unset] [(.int 0)])) _
    refine XS.istoreN X163.here hx rfl (hb hby d2_40) rfl (l' := #[rv a_RECORD, rv a_GAP, iv 0, iv 0]) rfl ?_
    show Steps _ _ _ (T163.setTop (mkF m 41 #[rv a_RECORD, rv a_GAP, iv 0, iv 0] [])) _
    refine XS.iloadN X163.here hx rfl (hb hby d2_41) rfl ?_
    show Steps _ _ _ (T163.setTop (mkF m 42 #[rv a_RECORD, rv a_GAP, iv 0, iv 0] [(.int 0)])) _
    exact q
  obtain ⟨fs, hr, hrun, hended, hW, hsame⟩ := X163.leave (v := some (.int 0)) (fun h => by rw [Bd.returns] at h; cases h)
  refine ⟨_, _, k_164 _ ?_, hrun, hended, _, _, rfl, ?_, ⟨_, rfl⟩, hW, hsame.mono (by decide) (by decide)⟩
  · exact retN X163 hx (t := .boolean) Bd.returns (by simp) (hb hby d2_42) hr
  · show QV (some (.int 0)) h0 n0 _ T163.heap _
    rw [e163]
    exact ⟨rfl, N0, rfl⟩
set_option maxRecDepth 65536 in
set_option maxHeartbeats 40000000 in
theorem cv_2_1_1 (l : Launch) (Z : State) (a0 : Array Value) (hw : ∀ d ∈ tables_1, d.before a0 Z = true) (ws : List Jvm.Cond) (a_NEXT_KEY a_GAP a_RECORD a_INSERT_INTENTION : Addr) (G : Own Z a_NEXT_KEY a_GAP a_RECORD a_INSERT_INTENTION)  (h0 : Heap) (n0 : Nat) (O0 : Old Z n0 h0)  :
    MetFree l y_3 (head1 (Jvm.Cond.code y_3 prog_87_method_5_code 4 (some .boolean) :: ws) ({ frames := 0, cells := 0, slots := 0, locals := 0 } : Room)) (fun a U => a = #[(.ref a_RECORD), (.ref a_GAP), (.int 1)] ∧ Z.Warmed39 U.vm ∧ U.heap = h0) (fun _ _ _ _ _ => True) (fun _ U o U' => ∃ v L, o = .returned v ∧ QV (some (.int 1)) h0 n0 v U'.heap L ∧ FrameEnd U o U' L ({ frames := 0, cells := 0, slots := 0, locals := 0 } : Room).cells ({ frames := 0, cells := 0, slots := 0, locals := 0 } : Room).slots) := by
  refine MetFree.of_bodySF (plainFor_of_name pn_1) hisR ?_
  intro p e s m args below meth c s₁ Bd hml0 hP hK
  obtain ⟨rfl, hZ, hh⟩ := hP
  have hx := Bd.exec
  have hby := Bd.bytes
  have hml : c.maxLocals = 4 := hml0
  have hown : s.vm.findClass "com/example/nkdb/nkdb/transaction/LockKind" = some m.cls := findClass_of_methodNamed Bd.named
  have hnm := (name_of_methodNamed Bd.named Bd.method).1
  have X0 : Stand p l e ({ frames := 0, cells := 0, slots := 0, locals := 0 } : Room) s m #[(.ref a_RECORD), (.ref a_GAP), (.int 1)] below meth c s₁ [] 0 0 := Stand.of_body Bd
  have e0 : s₁.heap = h0 := by rw [← hh, Bd.state]; rfl
  have N0 := Fr.nil n0
  have K0 := Keep.refl h0 []
  have k0 : Go p.tables e below (s₁.setTop (entryFrame m #[(.ref a_RECORD), (.ref a_GAP), (.int 1)] 4)) (s₁.setTop (mkF m 0 #[rv a_RECORD, rv a_GAP, iv 1, .unset] [])) := fun t k => castTop (by first | rfl | (simp [entryFrame, mkF, argsToLocals, Value.category]; done)) k
  have ⟨S_NEXT_KEY, E_NEXT_KEY, S_GAP, E_GAP, S_RECORD, E_RECORD, S_INSERT_INTENTION, E_INSERT_INTENTION, R_NEXT_KEY_ordinal, R_INSERT_INTENTION_ordinal, R_GAP_ordinal, R_RECORD_ordinal⟩ := G
  have k_165 : Go p.tables e below (s₁.setTop (entryFrame m #[(.ref a_RECORD), (.ref a_GAP), (.int 1)] 4)) (s₁.setTop (mkF m 1 #[rv a_RECORD, rv a_GAP, iv 1, .unset] [(.ref a_RECORD)])) := fun t q => by
    refine k0 t ?_
    refine XS.aloadN X0.here hx rfl (hb hby d2_0) rfl rfl ?_
    show Steps _ _ _ (s₁.setTop (mkF m 1 #[rv a_RECORD, rv a_GAP, iv 1, .unset] [(.ref a_RECORD)])) _
    exact q
  obtain ⟨T166, X166, e166, st166⟩ := getS2 X0 hx hZ hown (host := "") (Or.inl (hw _ (wd 21 rfl))) Via.refl e0 (S_INSERT_INTENTION.ext O0.2) (g := (mkF m 1 #[rv a_RECORD, rv a_GAP, iv 1, .unset] [(.ref a_RECORD)])) rfl (hb hby d2_1)
  have k_167 : Go p.tables e below (s₁.setTop (entryFrame m #[(.ref a_RECORD), (.ref a_GAP), (.int 1)] 4)) (T166.setTop (mkF m 8 #[rv a_RECORD, rv a_GAP, iv 1, .unset] [(.ref a_GAP)])) := fun t q => by
    refine k_165 t ?_
    refine st166 _ ?_
    show Steps _ _ _ (T166.setTop (mkF m 4 #[rv a_RECORD, rv a_GAP, iv 1, .unset] [(.ref a_INSERT_INTENTION), (.ref a_RECORD)])) _
    refine Jvm.RoadKit.acmp (g := (mkF m 4 #[rv a_RECORD, rv a_GAP, iv 1, .unset] [(.ref a_INSERT_INTENTION), (.ref a_RECORD)])) X166 hx rfl rfl rfl (pc0 := 4) (pc' := 7) (same := false) rfl (hb hby d2_4) rfl (decide_eq_false fun q => (own_ne R_RECORD_ordinal R_INSERT_INTENTION_ordinal (by decide)) (Value.ref.inj q)) (by decide) (by decide) ?_
    show Steps _ _ _ (T166.setTop (mkF m 7 #[rv a_RECORD, rv a_GAP, iv 1, .unset] [])) _
    refine XS.aloadN X166.here hx rfl (hb hby d2_7) rfl rfl ?_
    show Steps _ _ _ (T166.setTop (mkF m 8 #[rv a_RECORD, rv a_GAP, iv 1, .unset] [(.ref a_GAP)])) _
    exact q
  obtain ⟨T168, X168, e168, st168⟩ := getS2 X166 hx hZ hown (host := "") (Or.inl (hw _ (wd 21 rfl))) Via.refl e166 (S_INSERT_INTENTION.ext O0.2) (g := (mkF m 8 #[rv a_RECORD, rv a_GAP, iv 1, .unset] [(.ref a_GAP)])) rfl (hb hby d2_8)
  have k_169 : Go p.tables e below (s₁.setTop (entryFrame m #[(.ref a_RECORD), (.ref a_GAP), (.int 1)] 4)) (T168.setTop (mkF m 42 #[rv a_RECORD, rv a_GAP, iv 1, iv 1] [(.int 1)])) := fun t q => by
    refine k_167 t ?_
    refine st168 _ ?_
    show Steps _ _ _ (T168.setTop (mkF m 11 #[rv a_RECORD, rv a_GAP, iv 1, .unset] [(.ref a_INSERT_INTENTION), (.ref a_GAP)])) _
    refine Jvm.RoadKit.acmp (g := (mkF m 11 #[rv a_RECORD, rv a_GAP, iv 1, .unset] [(.ref a_INSERT_INTENTION), (.ref a_GAP)])) X168 hx rfl rfl rfl (pc0 := 11) (pc' := 19) (same := false) rfl (hb hby d2_11) rfl (decide_eq_false fun q => (own_ne R_GAP_ordinal R_INSERT_INTENTION_ordinal (by decide)) (Value.ref.inj q)) (by decide) (by decide) ?_
    show Steps _ _ _ (T168.setTop (mkF m 19 #[rv a_RECORD, rv a_GAP, iv 1, .unset] [])) _
    refine XS.iloadN X168.here hx rfl (hb hby d2_19) rfl ?_
    show Steps _ _ _ (T168.setTop (mkF m 20 #[rv a_RECORD, rv a_GAP, iv 1, .unset] [(.int 1)])) _
    refine XS.ifYes X168.here hx rfl (pc0 := 20) (pc' := 35) rfl (hb hby d2_20) rfl (by decide) (by decide) (by decide) ?_
    show Steps _ _ _ (T168.setTop (mkF m 35 #[rv a_RECORD, rv a_GAP, iv 1, .unset] [])) _
    refine XS.iconst X168.here hx rfl (hb hby d2_35) ?_
    show Steps _ _ _ (T168.setTop (mkF m 36 #[rv a_RECORD, rv a_GAP, iv 1, .unset] [(.int 1)])) _
    refine XS.goto X168.here hx rfl (pc0 := 36) (pc' := 40) rfl (hb hby d2_36) (by decide) (by decide) ?_
    show Steps _ _ _ (T168.setTop (mkF m 40 #[rv a_RECORD, rv a_GAP, iv 1, .unset] [(.int 1)])) _
    refine XS.istoreN X168.here hx rfl (hb hby d2_40) rfl (l' := #[rv a_RECORD, rv a_GAP, iv 1, iv 1]) rfl ?_
    show Steps _ _ _ (T168.setTop (mkF m 41 #[rv a_RECORD, rv a_GAP, iv 1, iv 1] [])) _
    refine XS.iloadN X168.here hx rfl (hb hby d2_41) rfl ?_
    show Steps _ _ _ (T168.setTop (mkF m 42 #[rv a_RECORD, rv a_GAP, iv 1, iv 1] [(.int 1)])) _
    exact q
  obtain ⟨fs, hr, hrun, hended, hW, hsame⟩ := X168.leave (v := some (.int 1)) (fun h => by rw [Bd.returns] at h; cases h)
  refine ⟨_, _, k_169 _ ?_, hrun, hended, _, _, rfl, ?_, ⟨_, rfl⟩, hW, hsame.mono (by decide) (by decide)⟩
  · exact retN X168 hx (t := .boolean) Bd.returns (by simp) (hb hby d2_42) hr
  · show QV (some (.int 1)) h0 n0 _ T168.heap _
    rw [e168]
    exact ⟨rfl, N0, rfl⟩
set_option maxRecDepth 65536 in
set_option maxHeartbeats 40000000 in
theorem cv_2_2_0 (l : Launch) (Z : State) (a0 : Array Value) (hw : ∀ d ∈ tables_1, d.before a0 Z = true) (ws : List Jvm.Cond) (a_NEXT_KEY a_GAP a_RECORD a_INSERT_INTENTION : Addr) (G : Own Z a_NEXT_KEY a_GAP a_RECORD a_INSERT_INTENTION)  (h0 : Heap) (n0 : Nat) (O0 : Old Z n0 h0)  :
    MetFree l y_3 (head1 (Jvm.Cond.code y_3 prog_87_method_5_code 4 (some .boolean) :: ws) ({ frames := 0, cells := 0, slots := 0, locals := 0 } : Room)) (fun a U => a = #[(.ref a_RECORD), (.ref a_RECORD), (.int 0)] ∧ Z.Warmed39 U.vm ∧ U.heap = h0) (fun _ _ _ _ _ => True) (fun _ U o U' => ∃ v L, o = .returned v ∧ QV (some (.int 1)) h0 n0 v U'.heap L ∧ FrameEnd U o U' L ({ frames := 0, cells := 0, slots := 0, locals := 0 } : Room).cells ({ frames := 0, cells := 0, slots := 0, locals := 0 } : Room).slots) := by
  refine MetFree.of_bodySF (plainFor_of_name pn_1) hisR ?_
  intro p e s m args below meth c s₁ Bd hml0 hP hK
  obtain ⟨rfl, hZ, hh⟩ := hP
  have hx := Bd.exec
  have hby := Bd.bytes
  have hml : c.maxLocals = 4 := hml0
  have hown : s.vm.findClass "com/example/nkdb/nkdb/transaction/LockKind" = some m.cls := findClass_of_methodNamed Bd.named
  have hnm := (name_of_methodNamed Bd.named Bd.method).1
  have X0 : Stand p l e ({ frames := 0, cells := 0, slots := 0, locals := 0 } : Room) s m #[(.ref a_RECORD), (.ref a_RECORD), (.int 0)] below meth c s₁ [] 0 0 := Stand.of_body Bd
  have e0 : s₁.heap = h0 := by rw [← hh, Bd.state]; rfl
  have N0 := Fr.nil n0
  have K0 := Keep.refl h0 []
  have k0 : Go p.tables e below (s₁.setTop (entryFrame m #[(.ref a_RECORD), (.ref a_RECORD), (.int 0)] 4)) (s₁.setTop (mkF m 0 #[rv a_RECORD, rv a_RECORD, iv 0, .unset] [])) := fun t k => castTop (by first | rfl | (simp [entryFrame, mkF, argsToLocals, Value.category]; done)) k
  have ⟨S_NEXT_KEY, E_NEXT_KEY, S_GAP, E_GAP, S_RECORD, E_RECORD, S_INSERT_INTENTION, E_INSERT_INTENTION, R_NEXT_KEY_ordinal, R_INSERT_INTENTION_ordinal, R_GAP_ordinal, R_RECORD_ordinal⟩ := G
  have k_170 : Go p.tables e below (s₁.setTop (entryFrame m #[(.ref a_RECORD), (.ref a_RECORD), (.int 0)] 4)) (s₁.setTop (mkF m 1 #[rv a_RECORD, rv a_RECORD, iv 0, .unset] [(.ref a_RECORD)])) := fun t q => by
    refine k0 t ?_
    refine XS.aloadN X0.here hx rfl (hb hby d2_0) rfl rfl ?_
    show Steps _ _ _ (s₁.setTop (mkF m 1 #[rv a_RECORD, rv a_RECORD, iv 0, .unset] [(.ref a_RECORD)])) _
    exact q
  obtain ⟨T171, X171, e171, st171⟩ := getS2 X0 hx hZ hown (host := "") (Or.inl (hw _ (wd 21 rfl))) Via.refl e0 (S_INSERT_INTENTION.ext O0.2) (g := (mkF m 1 #[rv a_RECORD, rv a_RECORD, iv 0, .unset] [(.ref a_RECORD)])) rfl (hb hby d2_1)
  have k_172 : Go p.tables e below (s₁.setTop (entryFrame m #[(.ref a_RECORD), (.ref a_RECORD), (.int 0)] 4)) (T171.setTop (mkF m 8 #[rv a_RECORD, rv a_RECORD, iv 0, .unset] [(.ref a_RECORD)])) := fun t q => by
    refine k_170 t ?_
    refine st171 _ ?_
    show Steps _ _ _ (T171.setTop (mkF m 4 #[rv a_RECORD, rv a_RECORD, iv 0, .unset] [(.ref a_INSERT_INTENTION), (.ref a_RECORD)])) _
    refine Jvm.RoadKit.acmp (g := (mkF m 4 #[rv a_RECORD, rv a_RECORD, iv 0, .unset] [(.ref a_INSERT_INTENTION), (.ref a_RECORD)])) X171 hx rfl rfl rfl (pc0 := 4) (pc' := 7) (same := false) rfl (hb hby d2_4) rfl (decide_eq_false fun q => (own_ne R_RECORD_ordinal R_INSERT_INTENTION_ordinal (by decide)) (Value.ref.inj q)) (by decide) (by decide) ?_
    show Steps _ _ _ (T171.setTop (mkF m 7 #[rv a_RECORD, rv a_RECORD, iv 0, .unset] [])) _
    refine XS.aloadN X171.here hx rfl (hb hby d2_7) rfl rfl ?_
    show Steps _ _ _ (T171.setTop (mkF m 8 #[rv a_RECORD, rv a_RECORD, iv 0, .unset] [(.ref a_RECORD)])) _
    exact q
  obtain ⟨T173, X173, e173, st173⟩ := getS2 X171 hx hZ hown (host := "") (Or.inl (hw _ (wd 21 rfl))) Via.refl e171 (S_INSERT_INTENTION.ext O0.2) (g := (mkF m 8 #[rv a_RECORD, rv a_RECORD, iv 0, .unset] [(.ref a_RECORD)])) rfl (hb hby d2_8)
  have k_174 : Go p.tables e below (s₁.setTop (entryFrame m #[(.ref a_RECORD), (.ref a_RECORD), (.int 0)] 4)) (T173.setTop (mkF m 24 #[rv a_RECORD, rv a_RECORD, iv 0, .unset] [(.ref a_RECORD)])) := fun t q => by
    refine k_172 t ?_
    refine st173 _ ?_
    show Steps _ _ _ (T173.setTop (mkF m 11 #[rv a_RECORD, rv a_RECORD, iv 0, .unset] [(.ref a_INSERT_INTENTION), (.ref a_RECORD)])) _
    refine Jvm.RoadKit.acmp (g := (mkF m 11 #[rv a_RECORD, rv a_RECORD, iv 0, .unset] [(.ref a_INSERT_INTENTION), (.ref a_RECORD)])) X173 hx rfl rfl rfl (pc0 := 11) (pc' := 19) (same := false) rfl (hb hby d2_11) rfl (decide_eq_false fun q => (own_ne R_RECORD_ordinal R_INSERT_INTENTION_ordinal (by decide)) (Value.ref.inj q)) (by decide) (by decide) ?_
    show Steps _ _ _ (T173.setTop (mkF m 19 #[rv a_RECORD, rv a_RECORD, iv 0, .unset] [])) _
    refine XS.iloadN X173.here hx rfl (hb hby d2_19) rfl ?_
    show Steps _ _ _ (T173.setTop (mkF m 20 #[rv a_RECORD, rv a_RECORD, iv 0, .unset] [(.int 0)])) _
    refine XS.ifNo X173.here hx rfl (hb hby d2_20) rfl (by decide) ?_
    show Steps _ _ _ (T173.setTop (mkF m 23 #[rv a_RECORD, rv a_RECORD, iv 0, .unset] [])) _
    refine XS.aloadN X173.here hx rfl (hb hby d2_23) rfl rfl ?_
    show Steps _ _ _ (T173.setTop (mkF m 24 #[rv a_RECORD, rv a_RECORD, iv 0, .unset] [(.ref a_RECORD)])) _
    exact q
  obtain ⟨T175, X175, e175, st175⟩ := getS2 X173 hx hZ hown (host := "") (Or.inl (hw _ (wd 28 rfl))) Via.refl e173 (S_NEXT_KEY.ext O0.2) (g := (mkF m 24 #[rv a_RECORD, rv a_RECORD, iv 0, .unset] [(.ref a_RECORD)])) rfl (hb hby d2_24)
  have k_176 : Go p.tables e below (s₁.setTop (entryFrame m #[(.ref a_RECORD), (.ref a_RECORD), (.int 0)] 4)) (T175.setTop (mkF m 42 #[rv a_RECORD, rv a_RECORD, iv 0, iv 1] [(.int 1)])) := fun t q => by
    refine k_174 t ?_
    refine st175 _ ?_
    show Steps _ _ _ (T175.setTop (mkF m 27 #[rv a_RECORD, rv a_RECORD, iv 0, .unset] [(.ref a_NEXT_KEY), (.ref a_RECORD)])) _
    refine Jvm.RoadKit.acmp (g := (mkF m 27 #[rv a_RECORD, rv a_RECORD, iv 0, .unset] [(.ref a_NEXT_KEY), (.ref a_RECORD)])) X175 hx rfl rfl rfl (pc0 := 27) (pc' := 30) (same := false) rfl (hb hby d2_27) rfl (decide_eq_false fun q => (own_ne R_RECORD_ordinal R_NEXT_KEY_ordinal (by decide)) (Value.ref.inj q)) (by decide) (by decide) ?_
    show Steps _ _ _ (T175.setTop (mkF m 30 #[rv a_RECORD, rv a_RECORD, iv 0, .unset] [])) _
    refine XS.aloadN X175.here hx rfl (hb hby d2_30) rfl rfl ?_
    show Steps _ _ _ (T175.setTop (mkF m 31 #[rv a_RECORD, rv a_RECORD, iv 0, .unset] [(.ref a_RECORD)])) _
    refine XS.aloadN X175.here hx rfl (hb hby d2_31) rfl rfl ?_
    show Steps _ _ _ (T175.setTop (mkF m 32 #[rv a_RECORD, rv a_RECORD, iv 0, .unset] [(.ref a_RECORD), (.ref a_RECORD)])) _
    refine Jvm.RoadKit.acmp (g := (mkF m 32 #[rv a_RECORD, rv a_RECORD, iv 0, .unset] [(.ref a_RECORD), (.ref a_RECORD)])) X175 hx rfl rfl rfl (pc0 := 32) (pc' := 35) (same := true) rfl (hb hby d2_32) rfl (decide_eq_true rfl) (by decide) (by decide) ?_
    show Steps _ _ _ (T175.setTop (mkF m 35 #[rv a_RECORD, rv a_RECORD, iv 0, .unset] [])) _
    refine XS.iconst X175.here hx rfl (hb hby d2_35) ?_
    show Steps _ _ _ (T175.setTop (mkF m 36 #[rv a_RECORD, rv a_RECORD, iv 0, .unset] [(.int 1)])) _
    refine XS.goto X175.here hx rfl (pc0 := 36) (pc' := 40) rfl (hb hby d2_36) (by decide) (by decide) ?_
    show Steps _ _ _ (T175.setTop (mkF m 40 #[rv a_RECORD, rv a_RECORD, iv 0, .unset] [(.int 1)])) _
    refine XS.istoreN X175.here hx rfl (hb hby d2_40) rfl (l' := #[rv a_RECORD, rv a_RECORD, iv 0, iv 1]) rfl ?_
    show Steps _ _ _ (T175.setTop (mkF m 41 #[rv a_RECORD, rv a_RECORD, iv 0, iv 1] [])) _
    refine XS.iloadN X175.here hx rfl (hb hby d2_41) rfl ?_
    show Steps _ _ _ (T175.setTop (mkF m 42 #[rv a_RECORD, rv a_RECORD, iv 0, iv 1] [(.int 1)])) _
    exact q
  obtain ⟨fs, hr, hrun, hended, hW, hsame⟩ := X175.leave (v := some (.int 1)) (fun h => by rw [Bd.returns] at h; cases h)
  refine ⟨_, _, k_176 _ ?_, hrun, hended, _, _, rfl, ?_, ⟨_, rfl⟩, hW, hsame.mono (by decide) (by decide)⟩
  · exact retN X175 hx (t := .boolean) Bd.returns (by simp) (hb hby d2_42) hr
  · show QV (some (.int 1)) h0 n0 _ T175.heap _
    rw [e175]
    exact ⟨rfl, N0, rfl⟩
set_option maxRecDepth 65536 in
set_option maxHeartbeats 40000000 in
theorem cv_2_2_1 (l : Launch) (Z : State) (a0 : Array Value) (hw : ∀ d ∈ tables_1, d.before a0 Z = true) (ws : List Jvm.Cond) (a_NEXT_KEY a_GAP a_RECORD a_INSERT_INTENTION : Addr) (G : Own Z a_NEXT_KEY a_GAP a_RECORD a_INSERT_INTENTION)  (h0 : Heap) (n0 : Nat) (O0 : Old Z n0 h0)  :
    MetFree l y_3 (head1 (Jvm.Cond.code y_3 prog_87_method_5_code 4 (some .boolean) :: ws) ({ frames := 0, cells := 0, slots := 0, locals := 0 } : Room)) (fun a U => a = #[(.ref a_RECORD), (.ref a_RECORD), (.int 1)] ∧ Z.Warmed39 U.vm ∧ U.heap = h0) (fun _ _ _ _ _ => True) (fun _ U o U' => ∃ v L, o = .returned v ∧ QV (some (.int 1)) h0 n0 v U'.heap L ∧ FrameEnd U o U' L ({ frames := 0, cells := 0, slots := 0, locals := 0 } : Room).cells ({ frames := 0, cells := 0, slots := 0, locals := 0 } : Room).slots) := by
  refine MetFree.of_bodySF (plainFor_of_name pn_1) hisR ?_
  intro p e s m args below meth c s₁ Bd hml0 hP hK
  obtain ⟨rfl, hZ, hh⟩ := hP
  have hx := Bd.exec
  have hby := Bd.bytes
  have hml : c.maxLocals = 4 := hml0
  have hown : s.vm.findClass "com/example/nkdb/nkdb/transaction/LockKind" = some m.cls := findClass_of_methodNamed Bd.named
  have hnm := (name_of_methodNamed Bd.named Bd.method).1
  have X0 : Stand p l e ({ frames := 0, cells := 0, slots := 0, locals := 0 } : Room) s m #[(.ref a_RECORD), (.ref a_RECORD), (.int 1)] below meth c s₁ [] 0 0 := Stand.of_body Bd
  have e0 : s₁.heap = h0 := by rw [← hh, Bd.state]; rfl
  have N0 := Fr.nil n0
  have K0 := Keep.refl h0 []
  have k0 : Go p.tables e below (s₁.setTop (entryFrame m #[(.ref a_RECORD), (.ref a_RECORD), (.int 1)] 4)) (s₁.setTop (mkF m 0 #[rv a_RECORD, rv a_RECORD, iv 1, .unset] [])) := fun t k => castTop (by first | rfl | (simp [entryFrame, mkF, argsToLocals, Value.category]; done)) k
  have ⟨S_NEXT_KEY, E_NEXT_KEY, S_GAP, E_GAP, S_RECORD, E_RECORD, S_INSERT_INTENTION, E_INSERT_INTENTION, R_NEXT_KEY_ordinal, R_INSERT_INTENTION_ordinal, R_GAP_ordinal, R_RECORD_ordinal⟩ := G
  have k_177 : Go p.tables e below (s₁.setTop (entryFrame m #[(.ref a_RECORD), (.ref a_RECORD), (.int 1)] 4)) (s₁.setTop (mkF m 1 #[rv a_RECORD, rv a_RECORD, iv 1, .unset] [(.ref a_RECORD)])) := fun t q => by
    refine k0 t ?_
    refine XS.aloadN X0.here hx rfl (hb hby d2_0) rfl rfl ?_
    show Steps _ _ _ (s₁.setTop (mkF m 1 #[rv a_RECORD, rv a_RECORD, iv 1, .unset] [(.ref a_RECORD)])) _
    exact q
  obtain ⟨T178, X178, e178, st178⟩ := getS2 X0 hx hZ hown (host := "") (Or.inl (hw _ (wd 21 rfl))) Via.refl e0 (S_INSERT_INTENTION.ext O0.2) (g := (mkF m 1 #[rv a_RECORD, rv a_RECORD, iv 1, .unset] [(.ref a_RECORD)])) rfl (hb hby d2_1)
  have k_179 : Go p.tables e below (s₁.setTop (entryFrame m #[(.ref a_RECORD), (.ref a_RECORD), (.int 1)] 4)) (T178.setTop (mkF m 8 #[rv a_RECORD, rv a_RECORD, iv 1, .unset] [(.ref a_RECORD)])) := fun t q => by
    refine k_177 t ?_
    refine st178 _ ?_
    show Steps _ _ _ (T178.setTop (mkF m 4 #[rv a_RECORD, rv a_RECORD, iv 1, .unset] [(.ref a_INSERT_INTENTION), (.ref a_RECORD)])) _
    refine Jvm.RoadKit.acmp (g := (mkF m 4 #[rv a_RECORD, rv a_RECORD, iv 1, .unset] [(.ref a_INSERT_INTENTION), (.ref a_RECORD)])) X178 hx rfl rfl rfl (pc0 := 4) (pc' := 7) (same := false) rfl (hb hby d2_4) rfl (decide_eq_false fun q => (own_ne R_RECORD_ordinal R_INSERT_INTENTION_ordinal (by decide)) (Value.ref.inj q)) (by decide) (by decide) ?_
    show Steps _ _ _ (T178.setTop (mkF m 7 #[rv a_RECORD, rv a_RECORD, iv 1, .unset] [])) _
    refine XS.aloadN X178.here hx rfl (hb hby d2_7) rfl rfl ?_
    show Steps _ _ _ (T178.setTop (mkF m 8 #[rv a_RECORD, rv a_RECORD, iv 1, .unset] [(.ref a_RECORD)])) _
    exact q
  obtain ⟨T180, X180, e180, st180⟩ := getS2 X178 hx hZ hown (host := "") (Or.inl (hw _ (wd 21 rfl))) Via.refl e178 (S_INSERT_INTENTION.ext O0.2) (g := (mkF m 8 #[rv a_RECORD, rv a_RECORD, iv 1, .unset] [(.ref a_RECORD)])) rfl (hb hby d2_8)
  have k_181 : Go p.tables e below (s₁.setTop (entryFrame m #[(.ref a_RECORD), (.ref a_RECORD), (.int 1)] 4)) (T180.setTop (mkF m 42 #[rv a_RECORD, rv a_RECORD, iv 1, iv 1] [(.int 1)])) := fun t q => by
    refine k_179 t ?_
    refine st180 _ ?_
    show Steps _ _ _ (T180.setTop (mkF m 11 #[rv a_RECORD, rv a_RECORD, iv 1, .unset] [(.ref a_INSERT_INTENTION), (.ref a_RECORD)])) _
    refine Jvm.RoadKit.acmp (g := (mkF m 11 #[rv a_RECORD, rv a_RECORD, iv 1, .unset] [(.ref a_INSERT_INTENTION), (.ref a_RECORD)])) X180 hx rfl rfl rfl (pc0 := 11) (pc' := 19) (same := false) rfl (hb hby d2_11) rfl (decide_eq_false fun q => (own_ne R_RECORD_ordinal R_INSERT_INTENTION_ordinal (by decide)) (Value.ref.inj q)) (by decide) (by decide) ?_
    show Steps _ _ _ (T180.setTop (mkF m 19 #[rv a_RECORD, rv a_RECORD, iv 1, .unset] [])) _
    refine XS.iloadN X180.here hx rfl (hb hby d2_19) rfl ?_
    show Steps _ _ _ (T180.setTop (mkF m 20 #[rv a_RECORD, rv a_RECORD, iv 1, .unset] [(.int 1)])) _
    refine XS.ifYes X180.here hx rfl (pc0 := 20) (pc' := 35) rfl (hb hby d2_20) rfl (by decide) (by decide) (by decide) ?_
    show Steps _ _ _ (T180.setTop (mkF m 35 #[rv a_RECORD, rv a_RECORD, iv 1, .unset] [])) _
    refine XS.iconst X180.here hx rfl (hb hby d2_35) ?_
    show Steps _ _ _ (T180.setTop (mkF m 36 #[rv a_RECORD, rv a_RECORD, iv 1, .unset] [(.int 1)])) _
    refine XS.goto X180.here hx rfl (pc0 := 36) (pc' := 40) rfl (hb hby d2_36) (by decide) (by decide) ?_
    show Steps _ _ _ (T180.setTop (mkF m 40 #[rv a_RECORD, rv a_RECORD, iv 1, .unset] [(.int 1)])) _
    refine XS.istoreN X180.here hx rfl (hb hby d2_40) rfl (l' := #[rv a_RECORD, rv a_RECORD, iv 1, iv 1]) rfl ?_
    show Steps _ _ _ (T180.setTop (mkF m 41 #[rv a_RECORD, rv a_RECORD, iv 1, iv 1] [])) _
    refine XS.iloadN X180.here hx rfl (hb hby d2_41) rfl ?_
    show Steps _ _ _ (T180.setTop (mkF m 42 #[rv a_RECORD, rv a_RECORD, iv 1, iv 1] [(.int 1)])) _
    exact q
  obtain ⟨fs, hr, hrun, hended, hW, hsame⟩ := X180.leave (v := some (.int 1)) (fun h => by rw [Bd.returns] at h; cases h)
  refine ⟨_, _, k_181 _ ?_, hrun, hended, _, _, rfl, ?_, ⟨_, rfl⟩, hW, hsame.mono (by decide) (by decide)⟩
  · exact retN X180 hx (t := .boolean) Bd.returns (by simp) (hb hby d2_42) hr
  · show QV (some (.int 1)) h0 n0 _ T180.heap _
    rw [e180]
    exact ⟨rfl, N0, rfl⟩
set_option maxRecDepth 65536 in
set_option maxHeartbeats 40000000 in
theorem cv_2_3_0 (l : Launch) (Z : State) (a0 : Array Value) (hw : ∀ d ∈ tables_1, d.before a0 Z = true) (ws : List Jvm.Cond) (a_NEXT_KEY a_GAP a_RECORD a_INSERT_INTENTION : Addr) (G : Own Z a_NEXT_KEY a_GAP a_RECORD a_INSERT_INTENTION)  (h0 : Heap) (n0 : Nat) (O0 : Old Z n0 h0)  :
    MetFree l y_3 (head1 (Jvm.Cond.code y_3 prog_87_method_5_code 4 (some .boolean) :: ws) ({ frames := 0, cells := 0, slots := 0, locals := 0 } : Room)) (fun a U => a = #[(.ref a_RECORD), (.ref a_INSERT_INTENTION), (.int 0)] ∧ Z.Warmed39 U.vm ∧ U.heap = h0) (fun _ _ _ _ _ => True) (fun _ U o U' => ∃ v L, o = .returned v ∧ QV (some (.int 0)) h0 n0 v U'.heap L ∧ FrameEnd U o U' L ({ frames := 0, cells := 0, slots := 0, locals := 0 } : Room).cells ({ frames := 0, cells := 0, slots := 0, locals := 0 } : Room).slots) := by
  refine MetFree.of_bodySF (plainFor_of_name pn_1) hisR ?_
  intro p e s m args below meth c s₁ Bd hml0 hP hK
  obtain ⟨rfl, hZ, hh⟩ := hP
  have hx := Bd.exec
  have hby := Bd.bytes
  have hml : c.maxLocals = 4 := hml0
  have hown : s.vm.findClass "com/example/nkdb/nkdb/transaction/LockKind" = some m.cls := findClass_of_methodNamed Bd.named
  have hnm := (name_of_methodNamed Bd.named Bd.method).1
  have X0 : Stand p l e ({ frames := 0, cells := 0, slots := 0, locals := 0 } : Room) s m #[(.ref a_RECORD), (.ref a_INSERT_INTENTION), (.int 0)] below meth c s₁ [] 0 0 := Stand.of_body Bd
  have e0 : s₁.heap = h0 := by rw [← hh, Bd.state]; rfl
  have N0 := Fr.nil n0
  have K0 := Keep.refl h0 []
  have k0 : Go p.tables e below (s₁.setTop (entryFrame m #[(.ref a_RECORD), (.ref a_INSERT_INTENTION), (.int 0)] 4)) (s₁.setTop (mkF m 0 #[rv a_RECORD, rv a_INSERT_INTENTION, iv 0, .unset] [])) := fun t k => castTop (by first | rfl | (simp [entryFrame, mkF, argsToLocals, Value.category]; done)) k
  have ⟨S_NEXT_KEY, E_NEXT_KEY, S_GAP, E_GAP, S_RECORD, E_RECORD, S_INSERT_INTENTION, E_INSERT_INTENTION, R_NEXT_KEY_ordinal, R_INSERT_INTENTION_ordinal, R_GAP_ordinal, R_RECORD_ordinal⟩ := G
  have k_182 : Go p.tables e below (s₁.setTop (entryFrame m #[(.ref a_RECORD), (.ref a_INSERT_INTENTION), (.int 0)] 4)) (s₁.setTop (mkF m 1 #[rv a_RECORD, rv a_INSERT_INTENTION, iv 0, .unset] [(.ref a_RECORD)])) := fun t q => by
    refine k0 t ?_
    refine XS.aloadN X0.here hx rfl (hb hby d2_0) rfl rfl ?_
    show Steps _ _ _ (s₁.setTop (mkF m 1 #[rv a_RECORD, rv a_INSERT_INTENTION, iv 0, .unset] [(.ref a_RECORD)])) _
    exact q
  obtain ⟨T183, X183, e183, st183⟩ := getS2 X0 hx hZ hown (host := "") (Or.inl (hw _ (wd 21 rfl))) Via.refl e0 (S_INSERT_INTENTION.ext O0.2) (g := (mkF m 1 #[rv a_RECORD, rv a_INSERT_INTENTION, iv 0, .unset] [(.ref a_RECORD)])) rfl (hb hby d2_1)
  have k_184 : Go p.tables e below (s₁.setTop (entryFrame m #[(.ref a_RECORD), (.ref a_INSERT_INTENTION), (.int 0)] 4)) (T183.setTop (mkF m 8 #[rv a_RECORD, rv a_INSERT_INTENTION, iv 0, .unset] [(.ref a_INSERT_INTENTION)])) := fun t q => by
    refine k_182 t ?_
    refine st183 _ ?_
    show Steps _ _ _ (T183.setTop (mkF m 4 #[rv a_RECORD, rv a_INSERT_INTENTION, iv 0, .unset] [(.ref a_INSERT_INTENTION), (.ref a_RECORD)])) _
    refine Jvm.RoadKit.acmp (g := (mkF m 4 #[rv a_RECORD, rv a_INSERT_INTENTION, iv 0, .unset] [(.ref a_INSERT_INTENTION), (.ref a_RECORD)])) X183 hx rfl rfl rfl (pc0 := 4) (pc' := 7) (same := false) rfl (hb hby d2_4) rfl (decide_eq_false fun q => (own_ne R_RECORD_ordinal R_INSERT_INTENTION_ordinal (by decide)) (Value.ref.inj q)) (by decide) (by decide) ?_
    show Steps _ _ _ (T183.setTop (mkF m 7 #[rv a_RECORD, rv a_INSERT_INTENTION, iv 0, .unset] [])) _
    refine XS.aloadN X183.here hx rfl (hb hby d2_7) rfl rfl ?_
    show Steps _ _ _ (T183.setTop (mkF m 8 #[rv a_RECORD, rv a_INSERT_INTENTION, iv 0, .unset] [(.ref a_INSERT_INTENTION)])) _
    exact q
  obtain ⟨T185, X185, e185, st185⟩ := getS2 X183 hx hZ hown (host := "") (Or.inl (hw _ (wd 21 rfl))) Via.refl e183 (S_INSERT_INTENTION.ext O0.2) (g := (mkF m 8 #[rv a_RECORD, rv a_INSERT_INTENTION, iv 0, .unset] [(.ref a_INSERT_INTENTION)])) rfl (hb hby d2_8)
  have k_186 : Go p.tables e below (s₁.setTop (entryFrame m #[(.ref a_RECORD), (.ref a_INSERT_INTENTION), (.int 0)] 4)) (T185.setTop (mkF m 42 #[rv a_RECORD, rv a_INSERT_INTENTION, iv 0, iv 0] [(.int 0)])) := fun t q => by
    refine k_184 t ?_
    refine st185 _ ?_
    show Steps _ _ _ (T185.setTop (mkF m 11 #[rv a_RECORD, rv a_INSERT_INTENTION, iv 0, .unset] [(.ref a_INSERT_INTENTION), (.ref a_INSERT_INTENTION)])) _
    refine Jvm.RoadKit.acmp (g := (mkF m 11 #[rv a_RECORD, rv a_INSERT_INTENTION, iv 0, .unset] [(.ref a_INSERT_INTENTION), (.ref a_INSERT_INTENTION)])) X185 hx rfl rfl rfl (pc0 := 11) (pc' := 14) (same := true) rfl (hb hby d2_11) rfl (decide_eq_true rfl) (by decide) (by decide) ?_
    show Steps _ _ _ (T185.setTop (mkF m 14 #[rv a_RECORD, rv a_INSERT_INTENTION, iv 0, .unset] [])) _
    refine XS.iconst X185.here hx rfl (hb hby d2_14) ?_
    show Steps _ _ _ (T185.setTop (mkF m 15 #[rv a_RECORD, rv a_INSERT_INTENTION, iv 0, .unset] [(.int 0)])) _
    refine XS.istoreN X185.here hx rfl (hb hby d2_15) rfl (l' := #[rv a_RECORD, rv a_INSERT_INTENTION, iv 0, iv 0]) rfl ?_
    show Steps _ _ _ (T185.setTop (mkF m 16 #[rv a_RECORD, rv a_INSERT_INTENTION, iv 0, iv 0] [])) _
    refine XS.goto X185.here hx rfl (pc0 := 16) (pc' := 41) rfl (hb hby d2_16) (by decide) (by decide) ?_
    show Steps _ _ _ (T185.setTop (mkF m 41 #[rv a_RECORD, rv a_INSERT_INTENTION, iv 0, iv 0] [])) _
    refine XS.iloadN X185.here hx rfl (hb hby d2_41) rfl ?_
    show Steps _ _ _ (T185.setTop (mkF m 42 #[rv a_RECORD, rv a_INSERT_INTENTION, iv 0, iv 0] [(.int 0)])) _
    exact q
  obtain ⟨fs, hr, hrun, hended, hW, hsame⟩ := X185.leave (v := some (.int 0)) (fun h => by rw [Bd.returns] at h; cases h)
  refine ⟨_, _, k_186 _ ?_, hrun, hended, _, _, rfl, ?_, ⟨_, rfl⟩, hW, hsame.mono (by decide) (by decide)⟩
  · exact retN X185 hx (t := .boolean) Bd.returns (by simp) (hb hby d2_42) hr
  · show QV (some (.int 0)) h0 n0 _ T185.heap _
    rw [e185]
    exact ⟨rfl, N0, rfl⟩
set_option maxRecDepth 65536 in
set_option maxHeartbeats 40000000 in
theorem cv_2_3_1 (l : Launch) (Z : State) (a0 : Array Value) (hw : ∀ d ∈ tables_1, d.before a0 Z = true) (ws : List Jvm.Cond) (a_NEXT_KEY a_GAP a_RECORD a_INSERT_INTENTION : Addr) (G : Own Z a_NEXT_KEY a_GAP a_RECORD a_INSERT_INTENTION)  (h0 : Heap) (n0 : Nat) (O0 : Old Z n0 h0)  :
    MetFree l y_3 (head1 (Jvm.Cond.code y_3 prog_87_method_5_code 4 (some .boolean) :: ws) ({ frames := 0, cells := 0, slots := 0, locals := 0 } : Room)) (fun a U => a = #[(.ref a_RECORD), (.ref a_INSERT_INTENTION), (.int 1)] ∧ Z.Warmed39 U.vm ∧ U.heap = h0) (fun _ _ _ _ _ => True) (fun _ U o U' => ∃ v L, o = .returned v ∧ QV (some (.int 0)) h0 n0 v U'.heap L ∧ FrameEnd U o U' L ({ frames := 0, cells := 0, slots := 0, locals := 0 } : Room).cells ({ frames := 0, cells := 0, slots := 0, locals := 0 } : Room).slots) := by
  refine MetFree.of_bodySF (plainFor_of_name pn_1) hisR ?_
  intro p e s m args below meth c s₁ Bd hml0 hP hK
  obtain ⟨rfl, hZ, hh⟩ := hP
  have hx := Bd.exec
  have hby := Bd.bytes
  have hml : c.maxLocals = 4 := hml0
  have hown : s.vm.findClass "com/example/nkdb/nkdb/transaction/LockKind" = some m.cls := findClass_of_methodNamed Bd.named
  have hnm := (name_of_methodNamed Bd.named Bd.method).1
  have X0 : Stand p l e ({ frames := 0, cells := 0, slots := 0, locals := 0 } : Room) s m #[(.ref a_RECORD), (.ref a_INSERT_INTENTION), (.int 1)] below meth c s₁ [] 0 0 := Stand.of_body Bd
  have e0 : s₁.heap = h0 := by rw [← hh, Bd.state]; rfl
  have N0 := Fr.nil n0
  have K0 := Keep.refl h0 []
  have k0 : Go p.tables e below (s₁.setTop (entryFrame m #[(.ref a_RECORD), (.ref a_INSERT_INTENTION), (.int 1)] 4)) (s₁.setTop (mkF m 0 #[rv a_RECORD, rv a_INSERT_INTENTION, iv 1, .unset] [])) := fun t k => castTop (by first | rfl | (simp [entryFrame, mkF, argsToLocals, Value.category]; done)) k
  have ⟨S_NEXT_KEY, E_NEXT_KEY, S_GAP, E_GAP, S_RECORD, E_RECORD, S_INSERT_INTENTION, E_INSERT_INTENTION, R_NEXT_KEY_ordinal, R_INSERT_INTENTION_ordinal, R_GAP_ordinal, R_RECORD_ordinal⟩ := G
  have k_187 : Go p.tables e below (s₁.setTop (entryFrame m #[(.ref a_RECORD), (.ref a_INSERT_INTENTION), (.int 1)] 4)) (s₁.setTop (mkF m 1 #[rv a_RECORD, rv a_INSERT_INTENTION, iv 1, .unset] [(.ref a_RECORD)])) := fun t q => by
    refine k0 t ?_
    refine XS.aloadN X0.here hx rfl (hb hby d2_0) rfl rfl ?_
    show Steps _ _ _ (s₁.setTop (mkF m 1 #[rv a_RECORD, rv a_INSERT_INTENTION, iv 1, .unset] [(.ref a_RECORD)])) _
    exact q
  obtain ⟨T188, X188, e188, st188⟩ := getS2 X0 hx hZ hown (host := "") (Or.inl (hw _ (wd 21 rfl))) Via.refl e0 (S_INSERT_INTENTION.ext O0.2) (g := (mkF m 1 #[rv a_RECORD, rv a_INSERT_INTENTION, iv 1, .unset] [(.ref a_RECORD)])) rfl (hb hby d2_1)
  have k_189 : Go p.tables e below (s₁.setTop (entryFrame m #[(.ref a_RECORD), (.ref a_INSERT_INTENTION), (.int 1)] 4)) (T188.setTop (mkF m 8 #[rv a_RECORD, rv a_INSERT_INTENTION, iv 1, .unset] [(.ref a_INSERT_INTENTION)])) := fun t q => by
    refine k_187 t ?_
    refine st188 _ ?_
    show Steps _ _ _ (T188.setTop (mkF m 4 #[rv a_RECORD, rv a_INSERT_INTENTION, iv 1, .unset] [(.ref a_INSERT_INTENTION), (.ref a_RECORD)])) _
    refine Jvm.RoadKit.acmp (g := (mkF m 4 #[rv a_RECORD, rv a_INSERT_INTENTION, iv 1, .unset] [(.ref a_INSERT_INTENTION), (.ref a_RECORD)])) X188 hx rfl rfl rfl (pc0 := 4) (pc' := 7) (same := false) rfl (hb hby d2_4) rfl (decide_eq_false fun q => (own_ne R_RECORD_ordinal R_INSERT_INTENTION_ordinal (by decide)) (Value.ref.inj q)) (by decide) (by decide) ?_
    show Steps _ _ _ (T188.setTop (mkF m 7 #[rv a_RECORD, rv a_INSERT_INTENTION, iv 1, .unset] [])) _
    refine XS.aloadN X188.here hx rfl (hb hby d2_7) rfl rfl ?_
    show Steps _ _ _ (T188.setTop (mkF m 8 #[rv a_RECORD, rv a_INSERT_INTENTION, iv 1, .unset] [(.ref a_INSERT_INTENTION)])) _
    exact q
  obtain ⟨T190, X190, e190, st190⟩ := getS2 X188 hx hZ hown (host := "") (Or.inl (hw _ (wd 21 rfl))) Via.refl e188 (S_INSERT_INTENTION.ext O0.2) (g := (mkF m 8 #[rv a_RECORD, rv a_INSERT_INTENTION, iv 1, .unset] [(.ref a_INSERT_INTENTION)])) rfl (hb hby d2_8)
  have k_191 : Go p.tables e below (s₁.setTop (entryFrame m #[(.ref a_RECORD), (.ref a_INSERT_INTENTION), (.int 1)] 4)) (T190.setTop (mkF m 42 #[rv a_RECORD, rv a_INSERT_INTENTION, iv 1, iv 0] [(.int 0)])) := fun t q => by
    refine k_189 t ?_
    refine st190 _ ?_
    show Steps _ _ _ (T190.setTop (mkF m 11 #[rv a_RECORD, rv a_INSERT_INTENTION, iv 1, .unset] [(.ref a_INSERT_INTENTION), (.ref a_INSERT_INTENTION)])) _
    refine Jvm.RoadKit.acmp (g := (mkF m 11 #[rv a_RECORD, rv a_INSERT_INTENTION, iv 1, .unset] [(.ref a_INSERT_INTENTION), (.ref a_INSERT_INTENTION)])) X190 hx rfl rfl rfl (pc0 := 11) (pc' := 14) (same := true) rfl (hb hby d2_11) rfl (decide_eq_true rfl) (by decide) (by decide) ?_
    show Steps _ _ _ (T190.setTop (mkF m 14 #[rv a_RECORD, rv a_INSERT_INTENTION, iv 1, .unset] [])) _
    refine XS.iconst X190.here hx rfl (hb hby d2_14) ?_
    show Steps _ _ _ (T190.setTop (mkF m 15 #[rv a_RECORD, rv a_INSERT_INTENTION, iv 1, .unset] [(.int 0)])) _
    refine XS.istoreN X190.here hx rfl (hb hby d2_15) rfl (l' := #[rv a_RECORD, rv a_INSERT_INTENTION, iv 1, iv 0]) rfl ?_
    show Steps _ _ _ (T190.setTop (mkF m 16 #[rv a_RECORD, rv a_INSERT_INTENTION, iv 1, iv 0] [])) _
    refine XS.goto X190.here hx rfl (pc0 := 16) (pc' := 41) rfl (hb hby d2_16) (by decide) (by decide) ?_
    show Steps _ _ _ (T190.setTop (mkF m 41 #[rv a_RECORD, rv a_INSERT_INTENTION, iv 1, iv 0] [])) _
    refine XS.iloadN X190.here hx rfl (hb hby d2_41) rfl ?_
    show Steps _ _ _ (T190.setTop (mkF m 42 #[rv a_RECORD, rv a_INSERT_INTENTION, iv 1, iv 0] [(.int 0)])) _
    exact q
  obtain ⟨fs, hr, hrun, hended, hW, hsame⟩ := X190.leave (v := some (.int 0)) (fun h => by rw [Bd.returns] at h; cases h)
  refine ⟨_, _, k_191 _ ?_, hrun, hended, _, _, rfl, ?_, ⟨_, rfl⟩, hW, hsame.mono (by decide) (by decide)⟩
  · exact retN X190 hx (t := .boolean) Bd.returns (by simp) (hb hby d2_42) hr
  · show QV (some (.int 0)) h0 n0 _ T190.heap _
    rw [e190]
    exact ⟨rfl, N0, rfl⟩
set_option maxRecDepth 65536 in
set_option maxHeartbeats 40000000 in
theorem cv_3_0_0 (l : Launch) (Z : State) (a0 : Array Value) (hw : ∀ d ∈ tables_1, d.before a0 Z = true) (ws : List Jvm.Cond) (a_NEXT_KEY a_GAP a_RECORD a_INSERT_INTENTION : Addr) (G : Own Z a_NEXT_KEY a_GAP a_RECORD a_INSERT_INTENTION)  (h0 : Heap) (n0 : Nat) (O0 : Old Z n0 h0)  :
    MetFree l y_3 (head1 (Jvm.Cond.code y_3 prog_87_method_5_code 4 (some .boolean) :: ws) ({ frames := 0, cells := 0, slots := 0, locals := 0 } : Room)) (fun a U => a = #[(.ref a_INSERT_INTENTION), (.ref a_NEXT_KEY), (.int 0)] ∧ Z.Warmed39 U.vm ∧ U.heap = h0) (fun _ _ _ _ _ => True) (fun _ U o U' => ∃ v L, o = .returned v ∧ QV (some (.int 0)) h0 n0 v U'.heap L ∧ FrameEnd U o U' L ({ frames := 0, cells := 0, slots := 0, locals := 0 } : Room).cells ({ frames := 0, cells := 0, slots := 0, locals := 0 } : Room).slots) := by
  refine MetFree.of_bodySF (plainFor_of_name pn_1) hisR ?_
  intro p e s m args below meth c s₁ Bd hml0 hP hK
  obtain ⟨rfl, hZ, hh⟩ := hP
  have hx := Bd.exec
  have hby := Bd.bytes
  have hml : c.maxLocals = 4 := hml0
  have hown : s.vm.findClass "com/example/nkdb/nkdb/transaction/LockKind" = some m.cls := findClass_of_methodNamed Bd.named
  have hnm := (name_of_methodNamed Bd.named Bd.method).1
  have X0 : Stand p l e ({ frames := 0, cells := 0, slots := 0, locals := 0 } : Room) s m #[(.ref a_INSERT_INTENTION), (.ref a_NEXT_KEY), (.int 0)] below meth c s₁ [] 0 0 := Stand.of_body Bd
  have e0 : s₁.heap = h0 := by rw [← hh, Bd.state]; rfl
  have N0 := Fr.nil n0
  have K0 := Keep.refl h0 []
  have k0 : Go p.tables e below (s₁.setTop (entryFrame m #[(.ref a_INSERT_INTENTION), (.ref a_NEXT_KEY), (.int 0)] 4)) (s₁.setTop (mkF m 0 #[rv a_INSERT_INTENTION, rv a_NEXT_KEY, iv 0, .unset] [])) := fun t k => castTop (by first | rfl | (simp [entryFrame, mkF, argsToLocals, Value.category]; done)) k
  have ⟨S_NEXT_KEY, E_NEXT_KEY, S_GAP, E_GAP, S_RECORD, E_RECORD, S_INSERT_INTENTION, E_INSERT_INTENTION, R_NEXT_KEY_ordinal, R_INSERT_INTENTION_ordinal, R_GAP_ordinal, R_RECORD_ordinal⟩ := G
  have k_192 : Go p.tables e below (s₁.setTop (entryFrame m #[(.ref a_INSERT_INTENTION), (.ref a_NEXT_KEY), (.int 0)] 4)) (s₁.setTop (mkF m 1 #[rv a_INSERT_INTENTION, rv a_NEXT_KEY, iv 0, .unset] [(.ref a_INSERT_INTENTION)])) := fun t q => by
    refine k0 t ?_
    refine XS.aloadN X0.here hx rfl (hb hby d2_0) rfl rfl ?_
    show Steps _ _ _ (s₁.setTop (mkF m 1 #[rv a_INSERT_INTENTION, rv a_NEXT_KEY, iv 0, .unset] [(.ref a_INSERT_INTENTION)])) _
    exact q
  obtain ⟨T193, X193, e193, st193⟩ := getS2 X0 hx hZ hown (host := "") (Or.inl (hw _ (wd 21 rfl))) Via.refl e0 (S_INSERT_INTENTION.ext O0.2) (g := (mkF m 1 #[rv a_INSERT_INTENTION, rv a_NEXT_KEY, iv 0, .unset] [(.ref a_INSERT_INTENTION)])) rfl (hb hby d2_1)
  have k_194 : Go p.tables e below (s₁.setTop (entryFrame m #[(.ref a_INSERT_INTENTION), (.ref a_NEXT_KEY), (.int 0)] 4)) (T193.setTop (mkF m 42 #[rv a_INSERT_INTENTION, rv a_NEXT_KEY, iv 0, iv 0] [(.int 0)])) := fun t q => by
    refine k_192 t ?_
    refine st193 _ ?_
    show Steps _ _ _ (T193.setTop (mkF m 4 #[rv a_INSERT_INTENTION, rv a_NEXT_KEY, iv 0, .unset] [(.ref a_INSERT_INTENTION), (.ref a_INSERT_INTENTION)])) _
    refine Jvm.RoadKit.acmp (g := (mkF m 4 #[rv a_INSERT_INTENTION, rv a_NEXT_KEY, iv 0, .unset] [(.ref a_INSERT_INTENTION), (.ref a_INSERT_INTENTION)])) X193 hx rfl rfl rfl (pc0 := 4) (pc' := 14) (same := true) rfl (hb hby d2_4) rfl (decide_eq_true rfl) (by decide) (by decide) ?_
    show Steps _ _ _ (T193.setTop (mkF m 14 #[rv a_INSERT_INTENTION, rv a_NEXT_KEY, iv 0, .unset] [])) _
    refine XS.iconst X193.here hx rfl (hb hby d2_14) ?_
    show Steps _ _ _ (T193.setTop (mkF m 15 #[rv a_INSERT_INTENTION, rv a_NEXT_KEY, iv 0, .unset] [(.int 0)])) _
    refine XS.istoreN X193.here hx rfl (hb hby d2_15) rfl (l' := #[rv a_INSERT_INTENTION, rv a_NEXT_KEY, iv 0, iv 0]) rfl ?_
    show Steps _ _ _ (T193.setTop (mkF m 16 #[rv a_INSERT_INTENTION, rv a_NEXT_KEY, iv 0, iv 0] [])) _
    refine XS.goto X193.here hx rfl (pc0 := 16) (pc' := 41) rfl (hb hby d2_16) (by decide) (by decide) ?_
    show Steps _ _ _ (T193.setTop (mkF m 41 #[rv a_INSERT_INTENTION, rv a_NEXT_KEY, iv 0, iv 0] [])) _
    refine XS.iloadN X193.here hx rfl (hb hby d2_41) rfl ?_
    show Steps _ _ _ (T193.setTop (mkF m 42 #[rv a_INSERT_INTENTION, rv a_NEXT_KEY, iv 0, iv 0] [(.int 0)])) _
    exact q
  obtain ⟨fs, hr, hrun, hended, hW, hsame⟩ := X193.leave (v := some (.int 0)) (fun h => by rw [Bd.returns] at h; cases h)
  refine ⟨_, _, k_194 _ ?_, hrun, hended, _, _, rfl, ?_, ⟨_, rfl⟩, hW, hsame.mono (by decide) (by decide)⟩
  · exact retN X193 hx (t := .boolean) Bd.returns (by simp) (hb hby d2_42) hr
  · show QV (some (.int 0)) h0 n0 _ T193.heap _
    rw [e193]
    exact ⟨rfl, N0, rfl⟩
set_option maxRecDepth 65536 in
set_option maxHeartbeats 40000000 in
theorem cv_3_0_1 (l : Launch) (Z : State) (a0 : Array Value) (hw : ∀ d ∈ tables_1, d.before a0 Z = true) (ws : List Jvm.Cond) (a_NEXT_KEY a_GAP a_RECORD a_INSERT_INTENTION : Addr) (G : Own Z a_NEXT_KEY a_GAP a_RECORD a_INSERT_INTENTION)  (h0 : Heap) (n0 : Nat) (O0 : Old Z n0 h0)  :
    MetFree l y_3 (head1 (Jvm.Cond.code y_3 prog_87_method_5_code 4 (some .boolean) :: ws) ({ frames := 0, cells := 0, slots := 0, locals := 0 } : Room)) (fun a U => a = #[(.ref a_INSERT_INTENTION), (.ref a_NEXT_KEY), (.int 1)] ∧ Z.Warmed39 U.vm ∧ U.heap = h0) (fun _ _ _ _ _ => True) (fun _ U o U' => ∃ v L, o = .returned v ∧ QV (some (.int 0)) h0 n0 v U'.heap L ∧ FrameEnd U o U' L ({ frames := 0, cells := 0, slots := 0, locals := 0 } : Room).cells ({ frames := 0, cells := 0, slots := 0, locals := 0 } : Room).slots) := by
  refine MetFree.of_bodySF (plainFor_of_name pn_1) hisR ?_
  intro p e s m args below meth c s₁ Bd hml0 hP hK
  obtain ⟨rfl, hZ, hh⟩ := hP
  have hx := Bd.exec
  have hby := Bd.bytes
  have hml : c.maxLocals = 4 := hml0
  have hown : s.vm.findClass "com/example/nkdb/nkdb/transaction/LockKind" = some m.cls := findClass_of_methodNamed Bd.named
  have hnm := (name_of_methodNamed Bd.named Bd.method).1
  have X0 : Stand p l e ({ frames := 0, cells := 0, slots := 0, locals := 0 } : Room) s m #[(.ref a_INSERT_INTENTION), (.ref a_NEXT_KEY), (.int 1)] below meth c s₁ [] 0 0 := Stand.of_body Bd
  have e0 : s₁.heap = h0 := by rw [← hh, Bd.state]; rfl
  have N0 := Fr.nil n0
  have K0 := Keep.refl h0 []
  have k0 : Go p.tables e below (s₁.setTop (entryFrame m #[(.ref a_INSERT_INTENTION), (.ref a_NEXT_KEY), (.int 1)] 4)) (s₁.setTop (mkF m 0 #[rv a_INSERT_INTENTION, rv a_NEXT_KEY, iv 1, .unset] [])) := fun t k => castTop (by first | rfl | (simp [entryFrame, mkF, argsToLocals, Value.category]; done)) k
  have ⟨S_NEXT_KEY, E_NEXT_KEY, S_GAP, E_GAP, S_RECORD, E_RECORD, S_INSERT_INTENTION, E_INSERT_INTENTION, R_NEXT_KEY_ordinal, R_INSERT_INTENTION_ordinal, R_GAP_ordinal, R_RECORD_ordinal⟩ := G
  have k_195 : Go p.tables e below (s₁.setTop (entryFrame m #[(.ref a_INSERT_INTENTION), (.ref a_NEXT_KEY), (.int 1)] 4)) (s₁.setTop (mkF m 1 #[rv a_INSERT_INTENTION, rv a_NEXT_KEY, iv 1, .unset] [(.ref a_INSERT_INTENTION)])) := fun t q => by
    refine k0 t ?_
    refine XS.aloadN X0.here hx rfl (hb hby d2_0) rfl rfl ?_
    show Steps _ _ _ (s₁.setTop (mkF m 1 #[rv a_INSERT_INTENTION, rv a_NEXT_KEY, iv 1, .unset] [(.ref a_INSERT_INTENTION)])) _
    exact q
  obtain ⟨T196, X196, e196, st196⟩ := getS2 X0 hx hZ hown (host := "") (Or.inl (hw _ (wd 21 rfl))) Via.refl e0 (S_INSERT_INTENTION.ext O0.2) (g := (mkF m 1 #[rv a_INSERT_INTENTION, rv a_NEXT_KEY, iv 1, .unset] [(.ref a_INSERT_INTENTION)])) rfl (hb hby d2_1)
  have k_197 : Go p.tables e below (s₁.setTop (entryFrame m #[(.ref a_INSERT_INTENTION), (.ref a_NEXT_KEY), (.int 1)] 4)) (T196.setTop (mkF m 42 #[rv a_INSERT_INTENTION, rv a_NEXT_KEY, iv 1, iv 0] [(.int 0)])) := fun t q => by
    refine k_195 t ?_
    refine st196 _ ?_
    show Steps _ _ _ (T196.setTop (mkF m 4 #[rv a_INSERT_INTENTION, rv a_NEXT_KEY, iv 1, .unset] [(.ref a_INSERT_INTENTION), (.ref a_INSERT_INTENTION)])) _
    refine Jvm.RoadKit.acmp (g := (mkF m 4 #[rv a_INSERT_INTENTION, rv a_NEXT_KEY, iv 1, .unset] [(.ref a_INSERT_INTENTION), (.ref a_INSERT_INTENTION)])) X196 hx rfl rfl rfl (pc0 := 4) (pc' := 14) (same := true) rfl (hb hby d2_4) rfl (decide_eq_true rfl) (by decide) (by decide) ?_
    show Steps _ _ _ (T196.setTop (mkF m 14 #[rv a_INSERT_INTENTION, rv a_NEXT_KEY, iv 1, .unset] [])) _
    refine XS.iconst X196.here hx rfl (hb hby d2_14) ?_
    show Steps _ _ _ (T196.setTop (mkF m 15 #[rv a_INSERT_INTENTION, rv a_NEXT_KEY, iv 1, .unset] [(.int 0)])) _
    refine XS.istoreN X196.here hx rfl (hb hby d2_15) rfl (l' := #[rv a_INSERT_INTENTION, rv a_NEXT_KEY, iv 1, iv 0]) rfl ?_
    show Steps _ _ _ (T196.setTop (mkF m 16 #[rv a_INSERT_INTENTION, rv a_NEXT_KEY, iv 1, iv 0] [])) _
    refine XS.goto X196.here hx rfl (pc0 := 16) (pc' := 41) rfl (hb hby d2_16) (by decide) (by decide) ?_
    show Steps _ _ _ (T196.setTop (mkF m 41 #[rv a_INSERT_INTENTION, rv a_NEXT_KEY, iv 1, iv 0] [])) _
    refine XS.iloadN X196.here hx rfl (hb hby d2_41) rfl ?_
    show Steps _ _ _ (T196.setTop (mkF m 42 #[rv a_INSERT_INTENTION, rv a_NEXT_KEY, iv 1, iv 0] [(.int 0)])) _
    exact q
  obtain ⟨fs, hr, hrun, hended, hW, hsame⟩ := X196.leave (v := some (.int 0)) (fun h => by rw [Bd.returns] at h; cases h)
  refine ⟨_, _, k_197 _ ?_, hrun, hended, _, _, rfl, ?_, ⟨_, rfl⟩, hW, hsame.mono (by decide) (by decide)⟩
  · exact retN X196 hx (t := .boolean) Bd.returns (by simp) (hb hby d2_42) hr
  · show QV (some (.int 0)) h0 n0 _ T196.heap _
    rw [e196]
    exact ⟨rfl, N0, rfl⟩
set_option maxRecDepth 65536 in
set_option maxHeartbeats 40000000 in
theorem cv_3_1_0 (l : Launch) (Z : State) (a0 : Array Value) (hw : ∀ d ∈ tables_1, d.before a0 Z = true) (ws : List Jvm.Cond) (a_NEXT_KEY a_GAP a_RECORD a_INSERT_INTENTION : Addr) (G : Own Z a_NEXT_KEY a_GAP a_RECORD a_INSERT_INTENTION)  (h0 : Heap) (n0 : Nat) (O0 : Old Z n0 h0)  :
    MetFree l y_3 (head1 (Jvm.Cond.code y_3 prog_87_method_5_code 4 (some .boolean) :: ws) ({ frames := 0, cells := 0, slots := 0, locals := 0 } : Room)) (fun a U => a = #[(.ref a_INSERT_INTENTION), (.ref a_GAP), (.int 0)] ∧ Z.Warmed39 U.vm ∧ U.heap = h0) (fun _ _ _ _ _ => True) (fun _ U o U' => ∃ v L, o = .returned v ∧ QV (some (.int 0)) h0 n0 v U'.heap L ∧ FrameEnd U o U' L ({ frames := 0, cells := 0, slots := 0, locals := 0 } : Room).cells ({ frames := 0, cells := 0, slots := 0, locals := 0 } : Room).slots) := by
  refine MetFree.of_bodySF (plainFor_of_name pn_1) hisR ?_
  intro p e s m args below meth c s₁ Bd hml0 hP hK
  obtain ⟨rfl, hZ, hh⟩ := hP
  have hx := Bd.exec
  have hby := Bd.bytes
  have hml : c.maxLocals = 4 := hml0
  have hown : s.vm.findClass "com/example/nkdb/nkdb/transaction/LockKind" = some m.cls := findClass_of_methodNamed Bd.named
  have hnm := (name_of_methodNamed Bd.named Bd.method).1
  have X0 : Stand p l e ({ frames := 0, cells := 0, slots := 0, locals := 0 } : Room) s m #[(.ref a_INSERT_INTENTION), (.ref a_GAP), (.int 0)] below meth c s₁ [] 0 0 := Stand.of_body Bd
  have e0 : s₁.heap = h0 := by rw [← hh, Bd.state]; rfl
  have N0 := Fr.nil n0
  have K0 := Keep.refl h0 []
  have k0 : Go p.tables e below (s₁.setTop (entryFrame m #[(.ref a_INSERT_INTENTION), (.ref a_GAP), (.int 0)] 4)) (s₁.setTop (mkF m 0 #[rv a_INSERT_INTENTION, rv a_GAP, iv 0, .unset] [])) := fun t k => castTop (by first | rfl | (simp [entryFrame, mkF, argsToLocals, Value.category]; done)) k
  have ⟨S_NEXT_KEY, E_NEXT_KEY, S_GAP, E_GAP, S_RECORD, E_RECORD, S_INSERT_INTENTION, E_INSERT_INTENTION, R_NEXT_KEY_ordinal, R_INSERT_INTENTION_ordinal, R_GAP_ordinal, R_RECORD_ordinal⟩ := G
  have k_198 : Go p.tables e below (s₁.setTop (entryFrame m #[(.ref a_INSERT_INTENTION), (.ref a_GAP), (.int 0)] 4)) (s₁.setTop (mkF m 1 #[rv a_INSERT_INTENTION, rv a_GAP, iv 0, .unset] [(.ref a_INSERT_INTENTION)])) := fun t q => by
    refine k0 t ?_
    refine XS.aloadN X0.here hx rfl (hb hby d2_0) rfl rfl ?_
    show Steps _ _ _ (s₁.setTop (mkF m 1 #[rv a_INSERT_INTENTION, rv a_GAP, iv 0, .unset] [(.ref a_INSERT_INTENTION)])) _
    exact q
  obtain ⟨T199, X199, e199, st199⟩ := getS2 X0 hx hZ hown (host := "") (Or.inl (hw _ (wd 21 rfl))) Via.refl e0 (S_INSERT_INTENTION.ext O0.2) (g := (mkF m 1 #[rv a_INSERT_INTENTION, rv a_GAP, iv 0, .unset] [(.ref a_INSERT_INTENTION)])) rfl (hb hby d2_1)
  have k_200 : Go p.tables e below (s₁.setTop (entryFrame m #[(.ref a_INSERT_INTENTION), (.ref a_GAP), (.int 0)] 4)) (T199.setTop (mkF m 42 #[rv a_INSERT_INTENTION, rv a_GAP, iv 0, iv 0] [(.int 0)])) := fun t q => by
    refine k_198 t ?_
    refine st199 _ ?_
    show Steps _ _ _ (T199.setTop (mkF m 4 #[rv a_INSERT_INTENTION, rv a_GAP, iv 0, .unset] [(.ref a_INSERT_INTENTION), (.ref a_INSERT_INTENTION)])) _
    refine Jvm.RoadKit.acmp (g := (mkF m 4 #[rv a_INSERT_INTENTION, rv a_GAP, iv 0, .unset] [(.ref a_INSERT_INTENTION), (.ref a_INSERT_INTENTION)])) X199 hx rfl rfl rfl (pc0 := 4) (pc' := 14) (same := true) rfl (hb hby d2_4) rfl (decide_eq_true rfl) (by decide) (by decide) ?_
    show Steps _ _ _ (T199.setTop (mkF m 14 #[rv a_INSERT_INTENTION, rv a_GAP, iv 0, .unset] [])) _
    refine XS.iconst X199.here hx rfl (hb hby d2_14) ?_
    show Steps _ _ _ (T199.setTop (mkF m 15 #[rv a_INSERT_INTENTION, rv a_GAP, iv 0, .unset] [(.int 0)])) _
    refine XS.istoreN X199.here hx rfl (hb hby d2_15) rfl (l' := #[rv a_INSERT_INTENTION, rv a_GAP, iv 0, iv 0]) rfl ?_
    show Steps _ _ _ (T199.setTop (mkF m 16 #[rv a_INSERT_INTENTION, rv a_GAP, iv 0, iv 0] [])) _
    refine XS.goto X199.here hx rfl (pc0 := 16) (pc' := 41) rfl (hb hby d2_16) (by decide) (by decide) ?_
    show Steps _ _ _ (T199.setTop (mkF m 41 #[rv a_INSERT_INTENTION, rv a_GAP, iv 0, iv 0] [])) _
    refine XS.iloadN X199.here hx rfl (hb hby d2_41) rfl ?_
    show Steps _ _ _ (T199.setTop (mkF m 42 #[rv a_INSERT_INTENTION, rv a_GAP, iv 0, iv 0] [(.int 0)])) _
    exact q
  obtain ⟨fs, hr, hrun, hended, hW, hsame⟩ := X199.leave (v := some (.int 0)) (fun h => by rw [Bd.returns] at h; cases h)
  refine ⟨_, _, k_200 _ ?_, hrun, hended, _, _, rfl, ?_, ⟨_, rfl⟩, hW, hsame.mono (by decide) (by decide)⟩
  · exact retN X199 hx (t := .boolean) Bd.returns (by simp) (hb hby d2_42) hr
  · show QV (some (.int 0)) h0 n0 _ T199.heap _
    rw [e199]
    exact ⟨rfl, N0, rfl⟩
set_option maxRecDepth 65536 in
set_option maxHeartbeats 40000000 in
theorem cv_3_1_1 (l : Launch) (Z : State) (a0 : Array Value) (hw : ∀ d ∈ tables_1, d.before a0 Z = true) (ws : List Jvm.Cond) (a_NEXT_KEY a_GAP a_RECORD a_INSERT_INTENTION : Addr) (G : Own Z a_NEXT_KEY a_GAP a_RECORD a_INSERT_INTENTION)  (h0 : Heap) (n0 : Nat) (O0 : Old Z n0 h0)  :
    MetFree l y_3 (head1 (Jvm.Cond.code y_3 prog_87_method_5_code 4 (some .boolean) :: ws) ({ frames := 0, cells := 0, slots := 0, locals := 0 } : Room)) (fun a U => a = #[(.ref a_INSERT_INTENTION), (.ref a_GAP), (.int 1)] ∧ Z.Warmed39 U.vm ∧ U.heap = h0) (fun _ _ _ _ _ => True) (fun _ U o U' => ∃ v L, o = .returned v ∧ QV (some (.int 0)) h0 n0 v U'.heap L ∧ FrameEnd U o U' L ({ frames := 0, cells := 0, slots := 0, locals := 0 } : Room).cells ({ frames := 0, cells := 0, slots := 0, locals := 0 } : Room).slots) := by
  refine MetFree.of_bodySF (plainFor_of_name pn_1) hisR ?_
  intro p e s m args below meth c s₁ Bd hml0 hP hK
  obtain ⟨rfl, hZ, hh⟩ := hP
  have hx := Bd.exec
  have hby := Bd.bytes
  have hml : c.maxLocals = 4 := hml0
  have hown : s.vm.findClass "com/example/nkdb/nkdb/transaction/LockKind" = some m.cls := findClass_of_methodNamed Bd.named
  have hnm := (name_of_methodNamed Bd.named Bd.method).1
  have X0 : Stand p l e ({ frames := 0, cells := 0, slots := 0, locals := 0 } : Room) s m #[(.ref a_INSERT_INTENTION), (.ref a_GAP), (.int 1)] below meth c s₁ [] 0 0 := Stand.of_body Bd
  have e0 : s₁.heap = h0 := by rw [← hh, Bd.state]; rfl
  have N0 := Fr.nil n0
  have K0 := Keep.refl h0 []
  have k0 : Go p.tables e below (s₁.setTop (entryFrame m #[(.ref a_INSERT_INTENTION), (.ref a_GAP), (.int 1)] 4)) (s₁.setTop (mkF m 0 #[rv a_INSERT_INTENTION, rv a_GAP, iv 1, .unset] [])) := fun t k => castTop (by first | rfl | (simp [entryFrame, mkF, argsToLocals, Value.category]; done)) k
  have ⟨S_NEXT_KEY, E_NEXT_KEY, S_GAP, E_GAP, S_RECORD, E_RECORD, S_INSERT_INTENTION, E_INSERT_INTENTION, R_NEXT_KEY_ordinal, R_INSERT_INTENTION_ordinal, R_GAP_ordinal, R_RECORD_ordinal⟩ := G
  have k_201 : Go p.tables e below (s₁.setTop (entryFrame m #[(.ref a_INSERT_INTENTION), (.ref a_GAP), (.int 1)] 4)) (s₁.setTop (mkF m 1 #[rv a_INSERT_INTENTION, rv a_GAP, iv 1, .unset] [(.ref a_INSERT_INTENTION)])) := fun t q => by
    refine k0 t ?_
    refine XS.aloadN X0.here hx rfl (hb hby d2_0) rfl rfl ?_
    show Steps _ _ _ (s₁.setTop (mkF m 1 #[rv a_INSERT_INTENTION, rv a_GAP, iv 1, .unset] [(.ref a_INSERT_INTENTION)])) _
    exact q
  obtain ⟨T202, X202, e202, st202⟩ := getS2 X0 hx hZ hown (host := "") (Or.inl (hw _ (wd 21 rfl))) Via.refl e0 (S_INSERT_INTENTION.ext O0.2) (g := (mkF m 1 #[rv a_INSERT_INTENTION, rv a_GAP, iv 1, .unset] [(.ref a_INSERT_INTENTION)])) rfl (hb hby d2_1)
  have k_203 : Go p.tables e below (s₁.setTop (entryFrame m #[(.ref a_INSERT_INTENTION), (.ref a_GAP), (.int 1)] 4)) (T202.setTop (mkF m 42 #[rv a_INSERT_INTENTION, rv a_GAP, iv 1, iv 0] [(.int 0)])) := fun t q => by
    refine k_201 t ?_
    refine st202 _ ?_
    show Steps _ _ _ (T202.setTop (mkF m 4 #[rv a_INSERT_INTENTION, rv a_GAP, iv 1, .unset] [(.ref a_INSERT_INTENTION), (.ref a_INSERT_INTENTION)])) _
    refine Jvm.RoadKit.acmp (g := (mkF m 4 #[rv a_INSERT_INTENTION, rv a_GAP, iv 1, .unset] [(.ref a_INSERT_INTENTION), (.ref a_INSERT_INTENTION)])) X202 hx rfl rfl rfl (pc0 := 4) (pc' := 14) (same := true) rfl (hb hby d2_4) rfl (decide_eq_true rfl) (by decide) (by decide) ?_
    show Steps _ _ _ (T202.setTop (mkF m 14 #[rv a_INSERT_INTENTION, rv a_GAP, iv 1, .unset] [])) _
    refine XS.iconst X202.here hx rfl (hb hby d2_14) ?_
    show Steps _ _ _ (T202.setTop (mkF m 15 #[rv a_INSERT_INTENTION, rv a_GAP, iv 1, .unset] [(.int 0)])) _
    refine XS.istoreN X202.here hx rfl (hb hby d2_15) rfl (l' := #[rv a_INSERT_INTENTION, rv a_GAP, iv 1, iv 0]) rfl ?_
    show Steps _ _ _ (T202.setTop (mkF m 16 #[rv a_INSERT_INTENTION, rv a_GAP, iv 1, iv 0] [])) _
    refine XS.goto X202.here hx rfl (pc0 := 16) (pc' := 41) rfl (hb hby d2_16) (by decide) (by decide) ?_
    show Steps _ _ _ (T202.setTop (mkF m 41 #[rv a_INSERT_INTENTION, rv a_GAP, iv 1, iv 0] [])) _
    refine XS.iloadN X202.here hx rfl (hb hby d2_41) rfl ?_
    show Steps _ _ _ (T202.setTop (mkF m 42 #[rv a_INSERT_INTENTION, rv a_GAP, iv 1, iv 0] [(.int 0)])) _
    exact q
  obtain ⟨fs, hr, hrun, hended, hW, hsame⟩ := X202.leave (v := some (.int 0)) (fun h => by rw [Bd.returns] at h; cases h)
  refine ⟨_, _, k_203 _ ?_, hrun, hended, _, _, rfl, ?_, ⟨_, rfl⟩, hW, hsame.mono (by decide) (by decide)⟩
  · exact retN X202 hx (t := .boolean) Bd.returns (by simp) (hb hby d2_42) hr
  · show QV (some (.int 0)) h0 n0 _ T202.heap _
    rw [e202]
    exact ⟨rfl, N0, rfl⟩
set_option maxRecDepth 65536 in
set_option maxHeartbeats 40000000 in
theorem cv_3_2_0 (l : Launch) (Z : State) (a0 : Array Value) (hw : ∀ d ∈ tables_1, d.before a0 Z = true) (ws : List Jvm.Cond) (a_NEXT_KEY a_GAP a_RECORD a_INSERT_INTENTION : Addr) (G : Own Z a_NEXT_KEY a_GAP a_RECORD a_INSERT_INTENTION)  (h0 : Heap) (n0 : Nat) (O0 : Old Z n0 h0)  :
    MetFree l y_3 (head1 (Jvm.Cond.code y_3 prog_87_method_5_code 4 (some .boolean) :: ws) ({ frames := 0, cells := 0, slots := 0, locals := 0 } : Room)) (fun a U => a = #[(.ref a_INSERT_INTENTION), (.ref a_RECORD), (.int 0)] ∧ Z.Warmed39 U.vm ∧ U.heap = h0) (fun _ _ _ _ _ => True) (fun _ U o U' => ∃ v L, o = .returned v ∧ QV (some (.int 0)) h0 n0 v U'.heap L ∧ FrameEnd U o U' L ({ frames := 0, cells := 0, slots := 0, locals := 0 } : Room).cells ({ frames := 0, cells := 0, slots := 0, locals := 0 } : Room).slots) := by
  refine MetFree.of_bodySF (plainFor_of_name pn_1) hisR ?_
  intro p e s m args below meth c s₁ Bd hml0 hP hK
  obtain ⟨rfl, hZ, hh⟩ := hP
  have hx := Bd.exec
  have hby := Bd.bytes
  have hml : c.maxLocals = 4 := hml0
  have hown : s.vm.findClass "com/example/nkdb/nkdb/transaction/LockKind" = some m.cls := findClass_of_methodNamed Bd.named
  have hnm := (name_of_methodNamed Bd.named Bd.method).1
  have X0 : Stand p l e ({ frames := 0, cells := 0, slots := 0, locals := 0 } : Room) s m #[(.ref a_INSERT_INTENTION), (.ref a_RECORD), (.int 0)] below meth c s₁ [] 0 0 := Stand.of_body Bd
  have e0 : s₁.heap = h0 := by rw [← hh, Bd.state]; rfl
  have N0 := Fr.nil n0
  have K0 := Keep.refl h0 []
  have k0 : Go p.tables e below (s₁.setTop (entryFrame m #[(.ref a_INSERT_INTENTION), (.ref a_RECORD), (.int 0)] 4)) (s₁.setTop (mkF m 0 #[rv a_INSERT_INTENTION, rv a_RECORD, iv 0, .unset] [])) := fun t k => castTop (by first | rfl | (simp [entryFrame, mkF, argsToLocals, Value.category]; done)) k
  have ⟨S_NEXT_KEY, E_NEXT_KEY, S_GAP, E_GAP, S_RECORD, E_RECORD, S_INSERT_INTENTION, E_INSERT_INTENTION, R_NEXT_KEY_ordinal, R_INSERT_INTENTION_ordinal, R_GAP_ordinal, R_RECORD_ordinal⟩ := G
  have k_204 : Go p.tables e below (s₁.setTop (entryFrame m #[(.ref a_INSERT_INTENTION), (.ref a_RECORD), (.int 0)] 4)) (s₁.setTop (mkF m 1 #[rv a_INSERT_INTENTION, rv a_RECORD, iv 0, .unset] [(.ref a_INSERT_INTENTION)])) := fun t q => by
    refine k0 t ?_
    refine XS.aloadN X0.here hx rfl (hb hby d2_0) rfl rfl ?_
    show Steps _ _ _ (s₁.setTop (mkF m 1 #[rv a_INSERT_INTENTION, rv a_RECORD, iv 0, .unset] [(.ref a_INSERT_INTENTION)])) _
    exact q
  obtain ⟨T205, X205, e205, st205⟩ := getS2 X0 hx hZ hown (host := "") (Or.inl (hw _ (wd 21 rfl))) Via.refl e0 (S_INSERT_INTENTION.ext O0.2) (g := (mkF m 1 #[rv a_INSERT_INTENTION, rv a_RECORD, iv 0, .unset] [(.ref a_INSERT_INTENTION)])) rfl (hb hby d2_1)
  have k_206 : Go p.tables e below (s₁.setTop (entryFrame m #[(.ref a_INSERT_INTENTION), (.ref a_RECORD), (.int 0)] 4)) (T205.setTop (mkF m 42 #[rv a_INSERT_INTENTION, rv a_RECORD, iv 0, iv 0] [(.int 0)])) := fun t q => by
    refine k_204 t ?_
    refine st205 _ ?_
    show Steps _ _ _ (T205.setTop (mkF m 4 #[rv a_INSERT_INTENTION, rv a_RECORD, iv 0, .unset] [(.ref a_INSERT_INTENTION), (.ref a_INSERT_INTENTION)])) _
    refine Jvm.RoadKit.acmp (g := (mkF m 4 #[rv a_INSERT_INTENTION, rv a_RECORD, iv 0, .unset] [(.ref a_INSERT_INTENTION), (.ref a_INSERT_INTENTION)])) X205 hx rfl rfl rfl (pc0 := 4) (pc' := 14) (same := true) rfl (hb hby d2_4) rfl (decide_eq_true rfl) (by decide) (by decide) ?_
    show Steps _ _ _ (T205.setTop (mkF m 14 #[rv a_INSERT_INTENTION, rv a_RECORD, iv 0, .unset] [])) _
    refine XS.iconst X205.here hx rfl (hb hby d2_14) ?_
    show Steps _ _ _ (T205.setTop (mkF m 15 #[rv a_INSERT_INTENTION, rv a_RECORD, iv 0, .unset] [(.int 0)])) _
    refine XS.istoreN X205.here hx rfl (hb hby d2_15) rfl (l' := #[rv a_INSERT_INTENTION, rv a_RECORD, iv 0, iv 0]) rfl ?_
    show Steps _ _ _ (T205.setTop (mkF m 16 #[rv a_INSERT_INTENTION, rv a_RECORD, iv 0, iv 0] [])) _
    refine XS.goto X205.here hx rfl (pc0 := 16) (pc' := 41) rfl (hb hby d2_16) (by decide) (by decide) ?_
    show Steps _ _ _ (T205.setTop (mkF m 41 #[rv a_INSERT_INTENTION, rv a_RECORD, iv 0, iv 0] [])) _
    refine XS.iloadN X205.here hx rfl (hb hby d2_41) rfl ?_
    show Steps _ _ _ (T205.setTop (mkF m 42 #[rv a_INSERT_INTENTION, rv a_RECORD, iv 0, iv 0] [(.int 0)])) _
    exact q
  obtain ⟨fs, hr, hrun, hended, hW, hsame⟩ := X205.leave (v := some (.int 0)) (fun h => by rw [Bd.returns] at h; cases h)
  refine ⟨_, _, k_206 _ ?_, hrun, hended, _, _, rfl, ?_, ⟨_, rfl⟩, hW, hsame.mono (by decide) (by decide)⟩
  · exact retN X205 hx (t := .boolean) Bd.returns (by simp) (hb hby d2_42) hr
  · show QV (some (.int 0)) h0 n0 _ T205.heap _
    rw [e205]
    exact ⟨rfl, N0, rfl⟩
set_option maxRecDepth 65536 in
set_option maxHeartbeats 40000000 in
theorem cv_3_2_1 (l : Launch) (Z : State) (a0 : Array Value) (hw : ∀ d ∈ tables_1, d.before a0 Z = true) (ws : List Jvm.Cond) (a_NEXT_KEY a_GAP a_RECORD a_INSERT_INTENTION : Addr) (G : Own Z a_NEXT_KEY a_GAP a_RECORD a_INSERT_INTENTION)  (h0 : Heap) (n0 : Nat) (O0 : Old Z n0 h0)  :
    MetFree l y_3 (head1 (Jvm.Cond.code y_3 prog_87_method_5_code 4 (some .boolean) :: ws) ({ frames := 0, cells := 0, slots := 0, locals := 0 } : Room)) (fun a U => a = #[(.ref a_INSERT_INTENTION), (.ref a_RECORD), (.int 1)] ∧ Z.Warmed39 U.vm ∧ U.heap = h0) (fun _ _ _ _ _ => True) (fun _ U o U' => ∃ v L, o = .returned v ∧ QV (some (.int 0)) h0 n0 v U'.heap L ∧ FrameEnd U o U' L ({ frames := 0, cells := 0, slots := 0, locals := 0 } : Room).cells ({ frames := 0, cells := 0, slots := 0, locals := 0 } : Room).slots) := by
  refine MetFree.of_bodySF (plainFor_of_name pn_1) hisR ?_
  intro p e s m args below meth c s₁ Bd hml0 hP hK
  obtain ⟨rfl, hZ, hh⟩ := hP
  have hx := Bd.exec
  have hby := Bd.bytes
  have hml : c.maxLocals = 4 := hml0
  have hown : s.vm.findClass "com/example/nkdb/nkdb/transaction/LockKind" = some m.cls := findClass_of_methodNamed Bd.named
  have hnm := (name_of_methodNamed Bd.named Bd.method).1
  have X0 : Stand p l e ({ frames := 0, cells := 0, slots := 0, locals := 0 } : Room) s m #[(.ref a_INSERT_INTENTION), (.ref a_RECORD), (.int 1)] below meth c s₁ [] 0 0 := Stand.of_body Bd
  have e0 : s₁.heap = h0 := by rw [← hh, Bd.state]; rfl
  have N0 := Fr.nil n0
  have K0 := Keep.refl h0 []
  have k0 : Go p.tables e below (s₁.setTop (entryFrame m #[(.ref a_INSERT_INTENTION), (.ref a_RECORD), (.int 1)] 4)) (s₁.setTop (mkF m 0 #[rv a_INSERT_INTENTION, rv a_RECORD, iv 1, .unset] [])) := fun t k => castTop (by first | rfl | (simp [entryFrame, mkF, argsToLocals, Value.category]; done)) k
  have ⟨S_NEXT_KEY, E_NEXT_KEY, S_GAP, E_GAP, S_RECORD, E_RECORD, S_INSERT_INTENTION, E_INSERT_INTENTION, R_NEXT_KEY_ordinal, R_INSERT_INTENTION_ordinal, R_GAP_ordinal, R_RECORD_ordinal⟩ := G
  have k_207 : Go p.tables e below (s₁.setTop (entryFrame m #[(.ref a_INSERT_INTENTION), (.ref a_RECORD), (.int 1)] 4)) (s₁.setTop (mkF m 1 #[rv a_INSERT_INTENTION, rv a_RECORD, iv 1, .unset] [(.ref a_INSERT_INTENTION)])) := fun t q => by
    refine k0 t ?_
    refine XS.aloadN X0.here hx rfl (hb hby d2_0) rfl rfl ?_
    show Steps _ _ _ (s₁.setTop (mkF m 1 #[rv a_INSERT_INTENTION, rv a_RECORD, iv 1, .unset] [(.ref a_INSERT_INTENTION)])) _
    exact q
  obtain ⟨T208, X208, e208, st208⟩ := getS2 X0 hx hZ hown (host := "") (Or.inl (hw _ (wd 21 rfl))) Via.refl e0 (S_INSERT_INTENTION.ext O0.2) (g := (mkF m 1 #[rv a_INSERT_INTENTION, rv a_RECORD, iv 1, .unset] [(.ref a_INSERT_INTENTION)])) rfl (hb hby d2_1)
  have k_209 : Go p.tables e below (s₁.setTop (entryFrame m #[(.ref a_INSERT_INTENTION), (.ref a_RECORD), (.int 1)] 4)) (T208.setTop (mkF m 42 #[rv a_INSERT_INTENTION, rv a_RECORD, iv 1, iv 0] [(.int 0)])) := fun t q => by
    refine k_207 t ?_
    refine st208 _ ?_
    show Steps _ _ _ (T208.setTop (mkF m 4 #[rv a_INSERT_INTENTION, rv a_RECORD, iv 1, .unset] [(.ref a_INSERT_INTENTION), (.ref a_INSERT_INTENTION)])) _
    refine Jvm.RoadKit.acmp (g := (mkF m 4 #[rv a_INSERT_INTENTION, rv a_RECORD, iv 1, .unset] [(.ref a_INSERT_INTENTION), (.ref a_INSERT_INTENTION)])) X208 hx rfl rfl rfl (pc0 := 4) (pc' := 14) (same := true) rfl (hb hby d2_4) rfl (decide_eq_true rfl) (by decide) (by decide) ?_
    show Steps _ _ _ (T208.setTop (mkF m 14 #[rv a_INSERT_INTENTION, rv a_RECORD, iv 1, .unset] [])) _
    refine XS.iconst X208.here hx rfl (hb hby d2_14) ?_
    show Steps _ _ _ (T208.setTop (mkF m 15 #[rv a_INSERT_INTENTION, rv a_RECORD, iv 1, .unset] [(.int 0)])) _
    refine XS.istoreN X208.here hx rfl (hb hby d2_15) rfl (l' := #[rv a_INSERT_INTENTION, rv a_RECORD, iv 1, iv 0]) rfl ?_
    show Steps _ _ _ (T208.setTop (mkF m 16 #[rv a_INSERT_INTENTION, rv a_RECORD, iv 1, iv 0] [])) _
    refine XS.goto X208.here hx rfl (pc0 := 16) (pc' := 41) rfl (hb hby d2_16) (by decide) (by decide) ?_
    show Steps _ _ _ (T208.setTop (mkF m 41 #[rv a_INSERT_INTENTION, rv a_RECORD, iv 1, iv 0] [])) _
    refine XS.iloadN X208.here hx rfl (hb hby d2_41) rfl ?_
    show Steps _ _ _ (T208.setTop (mkF m 42 #[rv a_INSERT_INTENTION, rv a_RECORD, iv 1, iv 0] [(.int 0)])) _
    exact q
  obtain ⟨fs, hr, hrun, hended, hW, hsame⟩ := X208.leave (v := some (.int 0)) (fun h => by rw [Bd.returns] at h; cases h)
  refine ⟨_, _, k_209 _ ?_, hrun, hended, _, _, rfl, ?_, ⟨_, rfl⟩, hW, hsame.mono (by decide) (by decide)⟩
  · exact retN X208 hx (t := .boolean) Bd.returns (by simp) (hb hby d2_42) hr
  · show QV (some (.int 0)) h0 n0 _ T208.heap _
    rw [e208]
    exact ⟨rfl, N0, rfl⟩
set_option maxRecDepth 65536 in
set_option maxHeartbeats 40000000 in
theorem cv_3_3_0 (l : Launch) (Z : State) (a0 : Array Value) (hw : ∀ d ∈ tables_1, d.before a0 Z = true) (ws : List Jvm.Cond) (a_NEXT_KEY a_GAP a_RECORD a_INSERT_INTENTION : Addr) (G : Own Z a_NEXT_KEY a_GAP a_RECORD a_INSERT_INTENTION)  (h0 : Heap) (n0 : Nat) (O0 : Old Z n0 h0)  :
    MetFree l y_3 (head1 (Jvm.Cond.code y_3 prog_87_method_5_code 4 (some .boolean) :: ws) ({ frames := 0, cells := 0, slots := 0, locals := 0 } : Room)) (fun a U => a = #[(.ref a_INSERT_INTENTION), (.ref a_INSERT_INTENTION), (.int 0)] ∧ Z.Warmed39 U.vm ∧ U.heap = h0) (fun _ _ _ _ _ => True) (fun _ U o U' => ∃ v L, o = .returned v ∧ QV (some (.int 0)) h0 n0 v U'.heap L ∧ FrameEnd U o U' L ({ frames := 0, cells := 0, slots := 0, locals := 0 } : Room).cells ({ frames := 0, cells := 0, slots := 0, locals := 0 } : Room).slots) := by
  refine MetFree.of_bodySF (plainFor_of_name pn_1) hisR ?_
  intro p e s m args below meth c s₁ Bd hml0 hP hK
  obtain ⟨rfl, hZ, hh⟩ := hP
  have hx := Bd.exec
  have hby := Bd.bytes
  have hml : c.maxLocals = 4 := hml0
  have hown : s.vm.findClass "com/example/nkdb/nkdb/transaction/LockKind" = some m.cls := findClass_of_methodNamed Bd.named
  have hnm := (name_of_methodNamed Bd.named Bd.method).1
  have X0 : Stand p l e ({ frames := 0, cells := 0, slots := 0, locals := 0 } : Room) s m #[(.ref a_INSERT_INTENTION), (.ref a_INSERT_INTENTION), (.int 0)] below meth c s₁ [] 0 0 := Stand.of_body Bd
  have e0 : s₁.heap = h0 := by rw [← hh, Bd.state]; rfl
  have N0 := Fr.nil n0
  have K0 := Keep.refl h0 []
  have k0 : Go p.tables e below (s₁.setTop (entryFrame m #[(.ref a_INSERT_INTENTION), (.ref a_INSERT_INTENTION), (.int 0)] 4)) (s₁.setTop (mkF m 0 #[rv a_INSERT_INTENTION, rv a_INSERT_INTENTION, iv 0, .unset] [])) := fun t k => castTop (by first | rfl | (simp [entryFrame, mkF, argsToLocals, Value.category]; done)) k
  have ⟨S_NEXT_KEY, E_NEXT_KEY, S_GAP, E_GAP, S_RECORD, E_RECORD, S_INSERT_INTENTION, E_INSERT_INTENTION, R_NEXT_KEY_ordinal, R_INSERT_INTENTION_ordinal, R_GAP_ordinal, R_RECORD_ordinal⟩ := G
  have k_210 : Go p.tables e below (s₁.setTop (entryFrame m #[(.ref a_INSERT_INTENTION), (.ref a_INSERT_INTENTION), (.int 0)] 4)) (s₁.setTop (mkF m 1 #[rv a_INSERT_INTENTION, rv a_INSERT_INTENTION, iv 0, .unset] [(.ref a_INSERT_INTENTION)])) := fun t q => by
    refine k0 t ?_
    refine XS.aloadN X0.here hx rfl (hb hby d2_0) rfl rfl ?_
    show Steps _ _ _ (s₁.setTop (mkF m 1 #[rv a_INSERT_INTENTION, rv a_INSERT_INTENTION, iv 0, .unset] [(.ref a_INSERT_INTENTION)])) _
    exact q
  obtain ⟨T211, X211, e211, st211⟩ := getS2 X0 hx hZ hown (host := "") (Or.inl (hw _ (wd 21 rfl))) Via.refl e0 (S_INSERT_INTENTION.ext O0.2) (g := (mkF m 1 #[rv a_INSERT_INTENTION, rv a_INSERT_INTENTION, iv 0, .unset] [(.ref a_INSERT_INTENTION)])) rfl (hb hby d2_1)
  have k_212 : Go p.tables e below (s₁.setTop (entryFrame m #[(.ref a_INSERT_INTENTION), (.ref a_INSERT_INTENTION), (.int 0)] 4)) (T211.setTop (mkF m 42 #[rv a_INSERT_INTENTION, rv a_INSERT_INTENTION, iv 0, iv 0] [(.int 0)])) := fun t q => by
    refine k_210 t ?_
    refine st211 _ ?_
    show Steps _ _ _ (T211.setTop (mkF m 4 #[rv a_INSERT_INTENTION, rv a_INSERT_INTENTION, iv 0, .unset] [(.ref a_INSERT_INTENTION), (.ref a_INSERT_INTENTION)])) _
    refine Jvm.RoadKit.acmp (g := (mkF m 4 #[rv a_INSERT_INTENTION, rv a_INSERT_INTENTION, iv 0, .unset] [(.ref a_INSERT_INTENTION), (.ref a_INSERT_INTENTION)])) X211 hx rfl rfl rfl (pc0 := 4) (pc' := 14) (same := true) rfl (hb hby d2_4) rfl (decide_eq_true rfl) (by decide) (by decide) ?_
    show Steps _ _ _ (T211.setTop (mkF m 14 #[rv a_INSERT_INTENTION, rv a_INSERT_INTENTION, iv 0, .unset] [])) _
    refine XS.iconst X211.here hx rfl (hb hby d2_14) ?_
    show Steps _ _ _ (T211.setTop (mkF m 15 #[rv a_INSERT_INTENTION, rv a_INSERT_INTENTION, iv 0, .unset] [(.int 0)])) _
    refine XS.istoreN X211.here hx rfl (hb hby d2_15) rfl (l' := #[rv a_INSERT_INTENTION, rv a_INSERT_INTENTION, iv 0, iv 0]) rfl ?_
    show Steps _ _ _ (T211.setTop (mkF m 16 #[rv a_INSERT_INTENTION, rv a_INSERT_INTENTION, iv 0, iv 0] [])) _
    refine XS.goto X211.here hx rfl (pc0 := 16) (pc' := 41) rfl (hb hby d2_16) (by decide) (by decide) ?_
    show Steps _ _ _ (T211.setTop (mkF m 41 #[rv a_INSERT_INTENTION, rv a_INSERT_INTENTION, iv 0, iv 0] [])) _
    refine XS.iloadN X211.here hx rfl (hb hby d2_41) rfl ?_
    show Steps _ _ _ (T211.setTop (mkF m 42 #[rv a_INSERT_INTENTION, rv a_INSERT_INTENTION, iv 0, iv 0] [(.int 0)])) _
    exact q
  obtain ⟨fs, hr, hrun, hended, hW, hsame⟩ := X211.leave (v := some (.int 0)) (fun h => by rw [Bd.returns] at h; cases h)
  refine ⟨_, _, k_212 _ ?_, hrun, hended, _, _, rfl, ?_, ⟨_, rfl⟩, hW, hsame.mono (by decide) (by decide)⟩
  · exact retN X211 hx (t := .boolean) Bd.returns (by simp) (hb hby d2_42) hr
  · show QV (some (.int 0)) h0 n0 _ T211.heap _
    rw [e211]
    exact ⟨rfl, N0, rfl⟩
set_option maxRecDepth 65536 in
set_option maxHeartbeats 40000000 in
theorem cv_3_3_1 (l : Launch) (Z : State) (a0 : Array Value) (hw : ∀ d ∈ tables_1, d.before a0 Z = true) (ws : List Jvm.Cond) (a_NEXT_KEY a_GAP a_RECORD a_INSERT_INTENTION : Addr) (G : Own Z a_NEXT_KEY a_GAP a_RECORD a_INSERT_INTENTION)  (h0 : Heap) (n0 : Nat) (O0 : Old Z n0 h0)  :
    MetFree l y_3 (head1 (Jvm.Cond.code y_3 prog_87_method_5_code 4 (some .boolean) :: ws) ({ frames := 0, cells := 0, slots := 0, locals := 0 } : Room)) (fun a U => a = #[(.ref a_INSERT_INTENTION), (.ref a_INSERT_INTENTION), (.int 1)] ∧ Z.Warmed39 U.vm ∧ U.heap = h0) (fun _ _ _ _ _ => True) (fun _ U o U' => ∃ v L, o = .returned v ∧ QV (some (.int 0)) h0 n0 v U'.heap L ∧ FrameEnd U o U' L ({ frames := 0, cells := 0, slots := 0, locals := 0 } : Room).cells ({ frames := 0, cells := 0, slots := 0, locals := 0 } : Room).slots) := by
  refine MetFree.of_bodySF (plainFor_of_name pn_1) hisR ?_
  intro p e s m args below meth c s₁ Bd hml0 hP hK
  obtain ⟨rfl, hZ, hh⟩ := hP
  have hx := Bd.exec
  have hby := Bd.bytes
  have hml : c.maxLocals = 4 := hml0
  have hown : s.vm.findClass "com/example/nkdb/nkdb/transaction/LockKind" = some m.cls := findClass_of_methodNamed Bd.named
  have hnm := (name_of_methodNamed Bd.named Bd.method).1
  have X0 : Stand p l e ({ frames := 0, cells := 0, slots := 0, locals := 0 } : Room) s m #[(.ref a_INSERT_INTENTION), (.ref a_INSERT_INTENTION), (.int 1)] below meth c s₁ [] 0 0 := Stand.of_body Bd
  have e0 : s₁.heap = h0 := by rw [← hh, Bd.state]; rfl
  have N0 := Fr.nil n0
  have K0 := Keep.refl h0 []
  have k0 : Go p.tables e below (s₁.setTop (entryFrame m #[(.ref a_INSERT_INTENTION), (.ref a_INSERT_INTENTION), (.int 1)] 4)) (s₁.setTop (mkF m 0 #[rv a_INSERT_INTENTION, rv a_INSERT_INTENTION, iv 1, .unset] [])) := fun t k => castTop (by first | rfl | (simp [entryFrame, mkF, argsToLocals, Value.category]; done)) k
  have ⟨S_NEXT_KEY, E_NEXT_KEY, S_GAP, E_GAP, S_RECORD, E_RECORD, S_INSERT_INTENTION, E_INSERT_INTENTION, R_NEXT_KEY_ordinal, R_INSERT_INTENTION_ordinal, R_GAP_ordinal, R_RECORD_ordinal⟩ := G
  have k_213 : Go p.tables e below (s₁.setTop (entryFrame m #[(.ref a_INSERT_INTENTION), (.ref a_INSERT_INTENTION), (.int 1)] 4)) (s₁.setTop (mkF m 1 #[rv a_INSERT_INTENTION, rv a_INSERT_INTENTION, iv 1, .unset] [(.ref a_INSERT_INTENTION)])) := fun t q => by
    refine k0 t ?_
    refine XS.aloadN X0.here hx rfl (hb hby d2_0) rfl rfl ?_
    show Steps _ _ _ (s₁.setTop (mkF m 1 #[rv a_INSERT_INTENTION, rv a_INSERT_INTENTION, iv 1, .unset] [(.ref a_INSERT_INTENTION)])) _
    exact q
  obtain ⟨T214, X214, e214, st214⟩ := getS2 X0 hx hZ hown (host := "") (Or.inl (hw _ (wd 21 rfl))) Via.refl e0 (S_INSERT_INTENTION.ext O0.2) (g := (mkF m 1 #[rv a_INSERT_INTENTION, rv a_INSERT_INTENTION, iv 1, .unset] [(.ref a_INSERT_INTENTION)])) rfl (hb hby d2_1)
  have k_215 : Go p.tables e below (s₁.setTop (entryFrame m #[(.ref a_INSERT_INTENTION), (.ref a_INSERT_INTENTION), (.int 1)] 4)) (T214.setTop (mkF m 42 #[rv a_INSERT_INTENTION, rv a_INSERT_INTENTION, iv 1, iv 0] [(.int 0)])) := fun t q => by
    refine k_213 t ?_
    refine st214 _ ?_
    show Steps _ _ _ (T214.setTop (mkF m 4 #[rv a_INSERT_INTENTION, rv a_INSERT_INTENTION, iv 1, .unset] [(.ref a_INSERT_INTENTION), (.ref a_INSERT_INTENTION)])) _
    refine Jvm.RoadKit.acmp (g := (mkF m 4 #[rv a_INSERT_INTENTION, rv a_INSERT_INTENTION, iv 1, .unset] [(.ref a_INSERT_INTENTION), (.ref a_INSERT_INTENTION)])) X214 hx rfl rfl rfl (pc0 := 4) (pc' := 14) (same := true) rfl (hb hby d2_4) rfl (decide_eq_true rfl) (by decide) (by decide) ?_
    show Steps _ _ _ (T214.setTop (mkF m 14 #[rv a_INSERT_INTENTION, rv a_INSERT_INTENTION, iv 1, .unset] [])) _
    refine XS.iconst X214.here hx rfl (hb hby d2_14) ?_
    show Steps _ _ _ (T214.setTop (mkF m 15 #[rv a_INSERT_INTENTION, rv a_INSERT_INTENTION, iv 1, .unset] [(.int 0)])) _
    refine XS.istoreN X214.here hx rfl (hb hby d2_15) rfl (l' := #[rv a_INSERT_INTENTION, rv a_INSERT_INTENTION, iv 1, iv 0]) rfl ?_
    show Steps _ _ _ (T214.setTop (mkF m 16 #[rv a_INSERT_INTENTION, rv a_INSERT_INTENTION, iv 1, iv 0] [])) _
    refine XS.goto X214.here hx rfl (pc0 := 16) (pc' := 41) rfl (hb hby d2_16) (by decide) (by decide) ?_
    show Steps _ _ _ (T214.setTop (mkF m 41 #[rv a_INSERT_INTENTION, rv a_INSERT_INTENTION, iv 1, iv 0] [])) _
    refine XS.iloadN X214.here hx rfl (hb hby d2_41) rfl ?_
    show Steps _ _ _ (T214.setTop (mkF m 42 #[rv a_INSERT_INTENTION, rv a_INSERT_INTENTION, iv 1, iv 0] [(.int 0)])) _
    exact q
  obtain ⟨fs, hr, hrun, hended, hW, hsame⟩ := X214.leave (v := some (.int 0)) (fun h => by rw [Bd.returns] at h; cases h)
  refine ⟨_, _, k_215 _ ?_, hrun, hended, _, _, rfl, ?_, ⟨_, rfl⟩, hW, hsame.mono (by decide) (by decide)⟩
  · exact retN X214 hx (t := .boolean) Bd.returns (by simp) (hb hby d2_42) hr
  · show QV (some (.int 0)) h0 n0 _ T214.heap _
    rw [e214]
    exact ⟨rfl, N0, rfl⟩
set_option maxRecDepth 65536 in
set_option maxHeartbeats 40000000 in
theorem rm0 (l : Launch) (Z : State) (a0 : Array Value) (hw : ∀ d ∈ tables_1, d.before a0 Z = true) (ws : List Jvm.Cond) (a_NEXT_KEY a_GAP a_RECORD a_INSERT_INTENTION : Addr) (G : Own Z a_NEXT_KEY a_GAP a_RECORD a_INSERT_INTENTION) (q1 q2 q3 : Int32) (h0 : Heap) (n0 : Nat) (O0 : Old Z n0 h0)  :
    MetFree l x (head1 (Jvm.Cond.code x code maxLocals ret :: ws) room_1) (fun a U => a = #[(.int q1), (.int q2), (.int q3)] ∧ Z.Warmed39 U.vm ∧ U.heap = h0) (fun _ _ _ _ _ => True) (fun _ U o U' => ∃ v L, o = .returned v ∧ Q0 n0 v U'.heap L ∧ FrameEnd U o U' L room_1.cells room_1.slots) := by
  refine MetFree.of_bodySF (plainFor_of_name pn_0) hisR ?_
  intro p e s m args below meth c s₁ Bd hml0 hP hK
  obtain ⟨rfl, hZ, hh⟩ := hP
  have hx := Bd.exec
  have hby := Bd.bytes
  have hml : c.maxLocals = 9 := hml0
  have hown : s.vm.findClass "com/example/nkdb/nkdb/transaction/LockKindCoversPinLaw" = some m.cls := findClass_of_methodNamed Bd.named
  have hnm := (name_of_methodNamed Bd.named Bd.method).1
  have X0 : Stand p l e room_1 s m #[(.int q1), (.int q2), (.int q3)] below meth c s₁ [] 0 0 := Stand.of_body Bd
  have e0 : s₁.heap = h0 := by rw [← hh, Bd.state]; rfl
  have N0 := Fr.nil n0
  have K0 := Keep.refl h0 []
  have k0 : Go p.tables e below (s₁.setTop (entryFrame m #[(.int q1), (.int q2), (.int q3)] maxLocals)) (s₁.setTop (mkF m 0 #[iv q1, iv q2, iv q3, .unset, .unset, .unset, .unset, .unset, .unset] [])) := fun t k => castTop (by first | rfl | (simp [entryFrame, mkF, argsToLocals, Value.category, maxLocals]; done)) k
  have ⟨S_NEXT_KEY, E_NEXT_KEY, S_GAP, E_GAP, S_RECORD, E_RECORD, S_INSERT_INTENTION, E_INSERT_INTENTION, R_NEXT_KEY_ordinal, R_INSERT_INTENTION_ordinal, R_GAP_ordinal, R_RECORD_ordinal⟩ := G
  rcases and_one q3 with hs | hs
  · skip
    rcases own_mask_4 q1 with hi | hi | hi | hi
    · skip
      rcases own_mask_4 q2 with hj | hj | hj | hj
      · skip
        have k_216 : Go p.tables e below (s₁.setTop (entryFrame m #[(.int q1), (.int q2), (.int q3)] maxLocals)) (s₁.setTop (mkF m 52 #[iv q1, iv q2, iv q3, iv 0, iv 0, iv 0, .unset, .unset, .unset] [(.int 0)])) := fun t q => by
          refine k0 t ?_
          refine XS.iloadN X0.here hx rfl (hb hby at_0) rfl ?_
          show Steps _ _ _ (s₁.setTop (mkF m 1 #[iv q1, iv q2, iv q3, .unset, .unset, .unset, .unset, .unset, .unset] [(.int q1)])) _
          refine XS.iconst X0.here hx rfl (hb hby at_1) ?_
          show Steps _ _ _ (s₁.setTop (mkF m 2 #[iv q1, iv q2, iv q3, .unset, .unset, .unset, .unset, .unset, .unset] [(.int 3), (.int q1)])) _
          refine XS.iand X0.here hx rfl (hb hby at_2) rfl ?_
          show Steps _ _ _ (s₁.setTop (mkF m 3 #[iv q1, iv q2, iv q3, .unset, .unset, .unset, .unset, .unset, .unset] [(.int (q1 &&& (3 : Int32)))])) _
          rw [hi]
          show Steps _ _ _ (s₁.setTop (mkF m 3 #[iv q1, iv q2, iv q3, .unset, .unset, .unset, .unset, .unset, .unset] [(.int 0)])) _
          refine XS.istoreN X0.here hx rfl (hb hby at_3) rfl (l' := #[iv q1, iv q2, iv q3, iv 0, .unset, .unset, .unset, .unset, .unset]) rfl ?_
          show Steps _ _ _ (s₁.setTop (mkF m 4 #[iv q1, iv q2, iv q3, iv 0, .unset, .unset, .unset, .unset, .unset] [])) _
          refine XS.iloadN X0.here hx rfl (hb hby at_4) rfl ?_
          show Steps _ _ _ (s₁.setTop (mkF m 5 #[iv q1, iv q2, iv q3, iv 0, .unset, .unset, .unset, .unset, .unset] [(.int q2)])) _
          refine XS.iconst X0.here hx rfl (hb hby at_5) ?_
          show Steps _ _ _ (s₁.setTop (mkF m 6 #[iv q1, iv q2, iv q3, iv 0, .unset, .unset, .unset, .unset, .unset] [(.int 3), (.int q2)])) _
          refine XS.iand X0.here hx rfl (hb hby at_6) rfl ?_
          show Steps _ _ _ (s₁.setTop (mkF m 7 #[iv q1, iv q2, iv q3, iv 0, .unset, .unset, .unset, .unset, .unset] [(.int (q2 &&& (3 : Int32)))])) _
          rw [hj]
          show Steps _ _ _ (s₁.setTop (mkF m 7 #[iv q1, iv q2, iv q3, iv 0, .unset, .unset, .unset, .unset, .unset] [(.int 0)])) _
          refine XS.istore X0.here hx rfl (hb hby at_7) rfl (l' := #[iv q1, iv q2, iv q3, iv 0, iv 0, .unset, .unset, .unset, .unset]) rfl ?_
          show Steps _ _ _ (s₁.setTop (mkF m 9 #[iv q1, iv q2, iv q3, iv 0, iv 0, .unset, .unset, .unset, .unset] [])) _
          refine XS.iloadN X0.here hx rfl (hb hby at_9) rfl ?_
          show Steps _ _ _ (s₁.setTop (mkF m 10 #[iv q1, iv q2, iv q3, iv 0, iv 0, .unset, .unset, .unset, .unset] [(.int q3)])) _
          refine XS.iconst X0.here hx rfl (hb hby at_10) ?_
          show Steps _ _ _ (s₁.setTop (mkF m 11 #[iv q1, iv q2, iv q3, iv 0, iv 0, .unset, .unset, .unset, .unset] [(.int 1), (.int q3)])) _
          refine XS.iand X0.here hx rfl (hb hby at_11) rfl ?_
          show Steps _ _ _ (s₁.setTop (mkF m 12 #[iv q1, iv q2, iv q3, iv 0, iv 0, .unset, .unset, .unset, .unset] [(.int (q3 &&& (1 : Int32)))])) _
          rw [hs]
          show Steps _ _ _ (s₁.setTop (mkF m 12 #[iv q1, iv q2, iv q3, iv 0, iv 0, .unset, .unset, .unset, .unset] [(.int 0)])) _
          refine XS.ifYes X0.here hx rfl (pc0 := 12) (pc' := 19) rfl (hb hby at_12) rfl (by decide) (by decide) (by decide) ?_
          show Steps _ _ _ (s₁.setTop (mkF m 19 #[iv q1, iv q2, iv q3, iv 0, iv 0, .unset, .unset, .unset, .unset] [])) _
          refine XS.iconst X0.here hx rfl (hb hby at_19) ?_
          show Steps _ _ _ (s₁.setTop (mkF m 20 #[iv q1, iv q2, iv q3, iv 0, iv 0, .unset, .unset, .unset, .unset] [(.int 0)])) _
          refine XS.istore X0.here hx rfl (hb hby at_20) rfl (l' := #[iv q1, iv q2, iv q3, iv 0, iv 0, iv 0, .unset, .unset, .unset]) rfl ?_
          show Steps _ _ _ (s₁.setTop (mkF m 22 #[iv q1, iv q2, iv q3, iv 0, iv 0, iv 0, .unset, .unset, .unset] [])) _
          refine XS.iloadN X0.here hx rfl (hb hby at_22) rfl ?_
          show Steps _ _ _ (s₁.setTop (mkF m 23 #[iv q1, iv q2, iv q3, iv 0, iv 0, iv 0, .unset, .unset, .unset] [(.int 0)])) _
          refine XS.iconst X0.here hx rfl (hb hby at_23) ?_
          show Steps _ _ _ (s₁.setTop (mkF m 24 #[iv q1, iv q2, iv q3, iv 0, iv 0, iv 0, .unset, .unset, .unset] [(.int 3), (.int 0)])) _
          refine XS.icmpNo X0.here hx rfl (hb hby at_24) rfl (by decide) ?_
          show Steps _ _ _ (s₁.setTop (mkF m 27 #[iv q1, iv q2, iv q3, iv 0, iv 0, iv 0, .unset, .unset, .unset] [])) _
          refine XS.iload X0.here hx rfl (hb hby at_27) rfl ?_
          show Steps _ _ _ (s₁.setTop (mkF m 29 #[iv q1, iv q2, iv q3, iv 0, iv 0, iv 0, .unset, .unset, .unset] [(.int 0)])) _
          refine XS.iconst X0.here hx rfl (hb hby at_29) ?_
          show Steps _ _ _ (s₁.setTop (mkF m 30 #[iv q1, iv q2, iv q3, iv 0, iv 0, iv 0, .unset, .unset, .unset] [(.int 3), (.int 0)])) _
          refine XS.icmpYes X0.here hx rfl (pc0 := 30) (pc' := 39) rfl (hb hby at_30) rfl (by decide) (by decide) (by decide) ?_
          show Steps _ _ _ (s₁.setTop (mkF m 39 #[iv q1, iv q2, iv q3, iv 0, iv 0, iv 0, .unset, .unset, .unset] [])) _
          refine XS.iload X0.here hx rfl (hb hby at_39) rfl ?_
          show Steps _ _ _ (s₁.setTop (mkF m 41 #[iv q1, iv q2, iv q3, iv 0, iv 0, iv 0, .unset, .unset, .unset] [(.int 0)])) _
          refine XS.ifYes X0.here hx rfl (pc0 := 41) (pc' := 50) rfl (hb hby at_41) rfl (by decide) (by decide) (by decide) ?_
          show Steps _ _ _ (s₁.setTop (mkF m 50 #[iv q1, iv q2, iv q3, iv 0, iv 0, iv 0, .unset, .unset, .unset] [])) _
          refine XS.iload X0.here hx rfl (hb hby at_50) rfl ?_
          show Steps _ _ _ (s₁.setTop (mkF m 52 #[iv q1, iv q2, iv q3, iv 0, iv 0, iv 0, .unset, .unset, .unset] [(.int 0)])) _
          exact q
        obtain ⟨_, _, ⟨T217, L217, k217, n217⟩, -, X217, ⟨Lc217, hQ217, l217, y217, z217⟩, st217⟩ := Jvm.LawKit.callS X0 hx (y := y_0) hown (mvT hZ (hw _ (wd 22 rfl))) (mvT hZ (hw _ (wd 23 rfl))) (mvT hZ (hw _ (wd 2 rfl))) (mvT hZ (hw _ (wd 24 rfl))) (by decide) (backOf (W := 0) (hr_0 l Z a0 hw [] a_NEXT_KEY a_GAP a_RECORD a_INSERT_INTENTION G  h0 n0 O0 ) hZ (hw _ (wd 24 rfl)) (hw _ (wd 2 rfl)) (by decide) (by decide)) (g := (mkF m 52 #[iv q1, iv q2, iv q3, iv 0, iv 0, iv 0, .unset, .unset, .unset] [(.int 0)])) rfl (by rw [hml]; rfl) (argsL := [(.int 0)]) (rest := []) (lenOf pd_0 rfl) rfl (by show 2 * 0 + _ ≤ _; exact Nat.le_of_eq rfl) (hb hby at_52) (fun _ _ => ⟨rfl, e0, (by decide : 0 + 0 ≤ _), (by decide : 0 + 0 ≤ _)⟩)
        dsimp only [Pt.U, Pt.locs, Pt.cells, Pt.slots] at X217 l217 y217 z217 st217 hQ217
        subst l217 y217 z217
        obtain ⟨rfl, N217q, e217⟩ := hQ217
        have N217 := Fr.app N0 N217q
        have k_218 : Go p.tables e below (s₁.setTop (entryFrame m #[(.int q1), (.int q2), (.int q3)] maxLocals)) (T217.setTop (mkF m 59 #[iv q1, iv q2, iv q3, iv 0, iv 0, iv 0, .unset, .unset, .unset] [(.int 0)])) := fun t q => by
          refine k_216 t ?_
          refine st217 _ ?_
          show Steps _ _ _ (T217.setTop (mkF m 55 #[iv q1, iv q2, iv q3, iv 0, iv 0, iv 0, .unset, .unset, .unset] [(.int 1)])) _
          refine XS.ifNo X217.here hx rfl (hb hby at_55) rfl (by decide) ?_
          show Steps _ _ _ (T217.setTop (mkF m 58 #[iv q1, iv q2, iv q3, iv 0, iv 0, iv 0, .unset, .unset, .unset] [])) _
          refine XS.iloadN X217.here hx rfl (hb hby at_58) rfl ?_
          show Steps _ _ _ (T217.setTop (mkF m 59 #[iv q1, iv q2, iv q3, iv 0, iv 0, iv 0, .unset, .unset, .unset] [(.int 0)])) _
          exact q
        obtain ⟨_, _, ⟨T219, L219, k219, n219⟩, -, X219, ⟨Lc219, hQ219, l219, y219, z219⟩, st219⟩ := Jvm.LawKit.callS X217 hx (y := y_0) hown (mvT hZ (hw _ (wd 22 rfl))) (mvT hZ (hw _ (wd 23 rfl))) (mvT hZ (hw _ (wd 2 rfl))) (mvT hZ (hw _ (wd 24 rfl))) (by decide) (backOf (W := 0) (hr_0 l Z a0 hw [] a_NEXT_KEY a_GAP a_RECORD a_INSERT_INTENTION G  h0 n0 O0 ) hZ (hw _ (wd 24 rfl)) (hw _ (wd 2 rfl)) (by decide) (by decide)) (g := (mkF m 59 #[iv q1, iv q2, iv q3, iv 0, iv 0, iv 0, .unset, .unset, .unset] [(.int 0)])) rfl (by rw [hml]; rfl) (argsL := [(.int 0)]) (rest := []) (lenOf pd_0 rfl) rfl (by show 2 * 0 + _ ≤ _; exact Nat.le_of_eq rfl) (hb hby at_59) (fun _ _ => ⟨rfl, e217, (by decide : 0 + 0 ≤ _), (by decide : 0 + 0 ≤ _)⟩)
        dsimp only [Pt.U, Pt.locs, Pt.cells, Pt.slots] at X219 l219 y219 z219 st219 hQ219
        subst l219 y219 z219
        obtain ⟨rfl, N219q, e219⟩ := hQ219
        have N219 := Fr.app N217 N219q
        have k_220 : Go p.tables e below (s₁.setTop (entryFrame m #[(.int q1), (.int q2), (.int q3)] maxLocals)) (T219.setTop (mkF m 74 #[iv q1, iv q2, iv q3, iv 0, iv 0, iv 0, .unset, iv 1, .unset] [(.int 0)])) := fun t q => by
          refine k_218 t ?_
          refine st219 _ ?_
          show Steps _ _ _ (T219.setTop (mkF m 62 #[iv q1, iv q2, iv q3, iv 0, iv 0, iv 0, .unset, .unset, .unset] [(.int 1)])) _
          refine XS.ifNo X219.here hx rfl (hb hby at_62) rfl (by decide) ?_
          show Steps _ _ _ (T219.setTop (mkF m 65 #[iv q1, iv q2, iv q3, iv 0, iv 0, iv 0, .unset, .unset, .unset] [])) _
          refine XS.iconst X219.here hx rfl (hb hby at_65) ?_
          show Steps _ _ _ (T219.setTop (mkF m 66 #[iv q1, iv q2, iv q3, iv 0, iv 0, iv 0, .unset, .unset, .unset] [(.int 1)])) _
          refine XS.goto X219.here hx rfl (pc0 := 66) (pc' := 70) rfl (hb hby at_66) (by decide) (by decide) ?_
          show Steps _ _ _ (T219.setTop (mkF m 70 #[iv q1, iv q2, iv q3, iv 0, iv 0, iv 0, .unset, .unset, .unset] [(.int 1)])) _
          refine XS.istore X219.here hx rfl (hb hby at_70) rfl (l' := #[iv q1, iv q2, iv q3, iv 0, iv 0, iv 0, .unset, iv 1, .unset]) rfl ?_
          show Steps _ _ _ (T219.setTop (mkF m 72 #[iv q1, iv q2, iv q3, iv 0, iv 0, iv 0, .unset, iv 1, .unset] [])) _
          refine XS.iload X219.here hx rfl (hb hby at_72) rfl ?_
          show Steps _ _ _ (T219.setTop (mkF m 74 #[iv q1, iv q2, iv q3, iv 0, iv 0, iv 0, .unset, iv 1, .unset] [(.int 0)])) _
          exact q
        obtain ⟨_, _, ⟨T221, L221, k221, n221⟩, -, X221, ⟨Lc221, hQ221, l221, y221, z221⟩, st221⟩ := Jvm.LawKit.callS X219 hx (y := y_1) hown (mvT hZ (hw _ (wd 25 rfl))) (mvT hZ (hw _ (wd 26 rfl))) (mvT hZ (hw _ (wd 2 rfl))) (mvT hZ (hw _ (wd 27 rfl))) (by decide) (backOf (W := 0) (hg_0 l Z a0 hw [] a_NEXT_KEY a_GAP a_RECORD a_INSERT_INTENTION G  h0 n0 O0 ) hZ (hw _ (wd 27 rfl)) (hw _ (wd 2 rfl)) (by decide) (by decide)) (g := (mkF m 74 #[iv q1, iv q2, iv q3, iv 0, iv 0, iv 0, .unset, iv 1, .unset] [(.int 0)])) rfl (by rw [hml]; rfl) (argsL := [(.int 0)]) (rest := []) (lenOf pd_0 rfl) rfl (by show 2 * 0 + _ ≤ _; exact Nat.le_of_eq rfl) (hb hby at_74) (fun _ _ => ⟨rfl, e219, (by decide : 0 + 0 ≤ _), (by decide : 0 + 0 ≤ _)⟩)
        dsimp only [Pt.U, Pt.locs, Pt.cells, Pt.slots] at X221 l221 y221 z221 st221 hQ221
        subst l221 y221 z221
        obtain ⟨rfl, N221q, e221⟩ := hQ221
        have N221 := Fr.app N219 N221q
        have k_222 : Go p.tables e below (s₁.setTop (entryFrame m #[(.int q1), (.int q2), (.int q3)] maxLocals)) (T221.setTop (mkF m 81 #[iv q1, iv q2, iv q3, iv 0, iv 0, iv 0, .unset, iv 1, .unset] [(.int 0)])) := fun t q => by
          refine k_220 t ?_
          refine st221 _ ?_
          show Steps _ _ _ (T221.setTop (mkF m 77 #[iv q1, iv q2, iv q3, iv 0, iv 0, iv 0, .unset, iv 1, .unset] [(.int 1)])) _
          refine XS.ifNo X221.here hx rfl (hb hby at_77) rfl (by decide) ?_
          show Steps _ _ _ (T221.setTop (mkF m 80 #[iv q1, iv q2, iv q3, iv 0, iv 0, iv 0, .unset, iv 1, .unset] [])) _
          refine XS.iloadN X221.here hx rfl (hb hby at_80) rfl ?_
          show Steps _ _ _ (T221.setTop (mkF m 81 #[iv q1, iv q2, iv q3, iv 0, iv 0, iv 0, .unset, iv 1, .unset] [(.int 0)])) _
          exact q
        obtain ⟨_, _, ⟨T223, L223, k223, n223⟩, -, X223, ⟨Lc223, hQ223, l223, y223, z223⟩, st223⟩ := Jvm.LawKit.callS X221 hx (y := y_1) hown (mvT hZ (hw _ (wd 25 rfl))) (mvT hZ (hw _ (wd 26 rfl))) (mvT hZ (hw _ (wd 2 rfl))) (mvT hZ (hw _ (wd 27 rfl))) (by decide) (backOf (W := 0) (hg_0 l Z a0 hw [] a_NEXT_KEY a_GAP a_RECORD a_INSERT_INTENTION G  h0 n0 O0 ) hZ (hw _ (wd 27 rfl)) (hw _ (wd 2 rfl)) (by decide) (by decide)) (g := (mkF m 81 #[iv q1, iv q2, iv q3, iv 0, iv 0, iv 0, .unset, iv 1, .unset] [(.int 0)])) rfl (by rw [hml]; rfl) (argsL := [(.int 0)]) (rest := []) (lenOf pd_0 rfl) rfl (by show 2 * 0 + _ ≤ _; exact Nat.le_of_eq rfl) (hb hby at_81) (fun _ _ => ⟨rfl, e221, (by decide : 0 + 0 ≤ _), (by decide : 0 + 0 ≤ _)⟩)
        dsimp only [Pt.U, Pt.locs, Pt.cells, Pt.slots] at X223 l223 y223 z223 st223 hQ223
        subst l223 y223 z223
        obtain ⟨rfl, N223q, e223⟩ := hQ223
        have N223 := Fr.app N221 N223q
        have k_224 : Go p.tables e below (s₁.setTop (entryFrame m #[(.int q1), (.int q2), (.int q3)] maxLocals)) (T223.setTop (mkF m 112 #[iv q1, iv q2, iv q3, iv 0, iv 0, iv 0, iv 1, iv 1, iv 1] [(.int 0)])) := fun t q => by
          refine k_222 t ?_
          refine st223 _ ?_
          show Steps _ _ _ (T223.setTop (mkF m 84 #[iv q1, iv q2, iv q3, iv 0, iv 0, iv 0, .unset, iv 1, .unset] [(.int 1)])) _
          refine XS.ifNo X223.here hx rfl (hb hby at_84) rfl (by decide) ?_
          show Steps _ _ _ (T223.setTop (mkF m 87 #[iv q1, iv q2, iv q3, iv 0, iv 0, iv 0, .unset, iv 1, .unset] [])) _
          refine XS.iconst X223.here hx rfl (hb hby at_87) ?_
          show Steps _ _ _ (T223.setTop (mkF m 88 #[iv q1, iv q2, iv q3, iv 0, iv 0, iv 0, .unset, iv 1, .unset] [(.int 1)])) _
          refine XS.goto X223.here hx rfl (pc0 := 88) (pc' := 92) rfl (hb hby at_88) (by decide) (by decide) ?_
          show Steps _ _ _ (T223.setTop (mkF m 92 #[iv q1, iv q2, iv q3, iv 0, iv 0, iv 0, .unset, iv 1, .unset] [(.int 1)])) _
          refine XS.istore X223.here hx rfl (hb hby at_92) rfl (l' := #[iv q1, iv q2, iv q3, iv 0, iv 0, iv 0, .unset, iv 1, iv 1]) rfl ?_
          show Steps _ _ _ (T223.setTop (mkF m 94 #[iv q1, iv q2, iv q3, iv 0, iv 0, iv 0, .unset, iv 1, iv 1] [])) _
          refine XS.iload X223.here hx rfl (hb hby at_94) rfl ?_
          show Steps _ _ _ (T223.setTop (mkF m 96 #[iv q1, iv q2, iv q3, iv 0, iv 0, iv 0, .unset, iv 1, iv 1] [(.int 1)])) _
          refine XS.ifNo X223.here hx rfl (hb hby at_96) rfl (by decide) ?_
          show Steps _ _ _ (T223.setTop (mkF m 99 #[iv q1, iv q2, iv q3, iv 0, iv 0, iv 0, .unset, iv 1, iv 1] [])) _
          refine XS.iload X223.here hx rfl (hb hby at_99) rfl ?_
          show Steps _ _ _ (T223.setTop (mkF m 101 #[iv q1, iv q2, iv q3, iv 0, iv 0, iv 0, .unset, iv 1, iv 1] [(.int 1)])) _
          refine XS.ifNo X223.here hx rfl (hb hby at_101) rfl (by decide) ?_
          show Steps _ _ _ (T223.setTop (mkF m 104 #[iv q1, iv q2, iv q3, iv 0, iv 0, iv 0, .unset, iv 1, iv 1] [])) _
          refine XS.iconst X223.here hx rfl (hb hby at_104) ?_
          show Steps _ _ _ (T223.setTop (mkF m 105 #[iv q1, iv q2, iv q3, iv 0, iv 0, iv 0, .unset, iv 1, iv 1] [(.int 1)])) _
          refine XS.goto X223.here hx rfl (pc0 := 105) (pc' := 109) rfl (hb hby at_105) (by decide) (by decide) ?_
          show Steps _ _ _ (T223.setTop (mkF m 109 #[iv q1, iv q2, iv q3, iv 0, iv 0, iv 0, .unset, iv 1, iv 1] [(.int 1)])) _
          refine XS.istore X223.here hx rfl (hb hby at_109) rfl (l' := #[iv q1, iv q2, iv q3, iv 0, iv 0, iv 0, iv 1, iv 1, iv 1]) rfl ?_
          show Steps _ _ _ (T223.setTop (mkF m 111 #[iv q1, iv q2, iv q3, iv 0, iv 0, iv 0, iv 1, iv 1, iv 1] [])) _
          refine XS.iloadN X223.here hx rfl (hb hby at_111) rfl ?_
          show Steps _ _ _ (T223.setTop (mkF m 112 #[iv q1, iv q2, iv q3, iv 0, iv 0, iv 0, iv 1, iv 1, iv 1] [(.int 0)])) _
          exact q
        obtain ⟨_, _, ⟨T225, L225, k225, n225⟩, -, X225, ⟨Lc225, hQ225, l225, y225, z225⟩, st225⟩ := Jvm.LawKit.callS X223 hx (y := y_2) hown (mvT hZ (hw _ (wd 0 rfl))) (mvT hZ (hw _ (wd 1 rfl))) (mvT hZ (hw _ (wd 2 rfl))) (mvT hZ (hw _ (wd 3 rfl))) (by decide) (backOf (W := 0) (kd l Z a0 hw [] a_NEXT_KEY a_GAP a_RECORD a_INSERT_INTENTION G (0 : Int32) 0 h0 n0 O0 (Or.inl ⟨by decide, rfl⟩)) hZ (hw _ (wd 3 rfl)) (hw _ (wd 2 rfl)) (by decide) (by decide)) (g := (mkF m 112 #[iv q1, iv q2, iv q3, iv 0, iv 0, iv 0, iv 1, iv 1, iv 1] [(.int 0)])) rfl (by rw [hml]; rfl) (argsL := [(.int 0)]) (rest := []) (lenOf pd_1 rfl) rfl (by show 2 * 0 + _ ≤ _; exact Nat.le_of_eq rfl) (hb hby at_112) (fun _ _ => ⟨rfl, e223, (by decide : 0 + 1 ≤ _), (by decide : 0 + 4 ≤ _)⟩)
        dsimp only [Pt.U, Pt.locs, Pt.cells, Pt.slots] at X225 l225 y225 z225 st225 hQ225
        subst l225 y225 z225
        obtain ⟨rfl, N225q, K225⟩ := hQ225
        have N225 := Fr.app N223 N225q
        have O_226 := O0.keep K225 all0
        have K_227 := K0.trans K225 all0
        have k_228 : Go p.tables e below (s₁.setTop (entryFrame m #[(.int q1), (.int q2), (.int q3)] maxLocals)) (T225.setTop (mkF m 117 #[iv q1, iv q2, iv q3, iv 0, iv 0, iv 0, iv 1, iv 1, iv 1] [(.int 0), (.ref a_NEXT_KEY)])) := fun t q => by
          refine k_224 t ?_
          refine st225 _ ?_
          show Steps _ _ _ (T225.setTop (mkF m 115 #[iv q1, iv q2, iv q3, iv 0, iv 0, iv 0, iv 1, iv 1, iv 1] [(.ref a_NEXT_KEY)])) _
          refine XS.iload X225.here hx rfl (hb hby at_115) rfl ?_
          show Steps _ _ _ (T225.setTop (mkF m 117 #[iv q1, iv q2, iv q3, iv 0, iv 0, iv 0, iv 1, iv 1, iv 1] [(.int 0), (.ref a_NEXT_KEY)])) _
          exact q
        obtain ⟨_, _, ⟨T229, L229, k229, n229⟩, -, X229, ⟨Lc229, hQ229, l229, y229, z229⟩, st229⟩ := Jvm.LawKit.callS X225 hx (y := y_2) hown (mvT hZ (hw _ (wd 0 rfl))) (mvT hZ (hw _ (wd 1 rfl))) (mvT hZ (hw _ (wd 2 rfl))) (mvT hZ (hw _ (wd 3 rfl))) (by decide) (backOf (W := 1) (kd l Z a0 hw [] a_NEXT_KEY a_GAP a_RECORD a_INSERT_INTENTION G (0 : Int32) 0 T225.heap n0 O_226 (Or.inl ⟨by decide, rfl⟩)) hZ (hw _ (wd 3 rfl)) (hw _ (wd 2 rfl)) (by decide) (by decide)) (g := (mkF m 117 #[iv q1, iv q2, iv q3, iv 0, iv 0, iv 0, iv 1, iv 1, iv 1] [(.int 0), (.ref a_NEXT_KEY)])) rfl (by rw [hml]; rfl) (argsL := [(.int 0)]) (rest := [(.ref a_NEXT_KEY)]) (lenOf pd_1 rfl) rfl (by show 2 * 0 + _ ≤ _; exact Nat.le_of_eq rfl) (hb hby at_117) (fun _ _ => ⟨rfl, (rfl : T225.heap = _), (by decide : 1 + 1 ≤ _), (by decide : 4 + 4 ≤ _)⟩)
        dsimp only [Pt.U, Pt.locs, Pt.cells, Pt.slots] at X229 l229 y229 z229 st229 hQ229
        subst l229 y229 z229
        obtain ⟨rfl, N229q, K229⟩ := hQ229
        have N229 := Fr.app N225 N229q
        have O_230 := O_226.keep K229 all0
        have K_231 := K_227.trans K229 all0
        have k_232 : Go p.tables e below (s₁.setTop (entryFrame m #[(.int q1), (.int q2), (.int q3)] maxLocals)) (T229.setTop (mkF m 122 #[iv q1, iv q2, iv q3, iv 0, iv 0, iv 0, iv 1, iv 1, iv 1] [(.int 0), (.ref a_NEXT_KEY), (.ref a_NEXT_KEY)])) := fun t q => by
          refine k_228 t ?_
          refine st229 _ ?_
          show Steps _ _ _ (T229.setTop (mkF m 120 #[iv q1, iv q2, iv q3, iv 0, iv 0, iv 0, iv 1, iv 1, iv 1] [(.ref a_NEXT_KEY), (.ref a_NEXT_KEY)])) _
          refine XS.iload X229.here hx rfl (hb hby at_120) rfl ?_
          show Steps _ _ _ (T229.setTop (mkF m 122 #[iv q1, iv q2, iv q3, iv 0, iv 0, iv 0, iv 1, iv 1, iv 1] [(.int 0), (.ref a_NEXT_KEY), (.ref a_NEXT_KEY)])) _
          exact q
        obtain ⟨cq233, kq233, q233a, q233b, q233c⟩ := isOf hZ (rfl : T229.heap = _) (Exa.ext O_230.2 E_NEXT_KEY)
        obtain ⟨_, _, ⟨T233, L233, k233, n233⟩, -, X233, ⟨Lc233, hQ233, l233, y233, z233⟩, st233⟩ := X229.virtualBack hx (y := y_3) (z := y_3) hown (mvT hZ (hw _ (wd 16 rfl))) (mvT hZ (hw _ (wd 17 rfl))) (notFace_of_selects (args := #[]) (mvT hZ (hw _ (wd 19 rfl)))) (mvT hZ (hw _ (wd 19 rfl))) (mvT hZ (hw _ (wd 18 rfl))) (by decide) (backOf (W := 0) (cv_0_0_0 l Z a0 hw [] a_NEXT_KEY a_GAP a_RECORD a_INSERT_INTENTION G  T229.heap n0 O_230 ) hZ (hw _ (wd 20 rfl)) (hw _ (wd 7 rfl)) (by decide) (by decide)) q233a q233c (g := (mkF m 122 #[iv q1, iv q2, iv q3, iv 0, iv 0, iv 0, iv 1, iv 1, iv 1] [(.int 0), (.ref a_NEXT_KEY), (.ref a_NEXT_KEY)])) rfl (by rw [hml]; rfl) (Steps.refl _) (argsL := [(.ref a_NEXT_KEY), (.int 0)]) (rest := []) (lenOf pd_2 rfl) rfl (by show 2 * 0 + _ ≤ _; exact Nat.le_of_eq rfl) (hb hby at_122) (fun _ _ => ⟨rfl, (rfl : T229.heap = _), (by decide : 2 + 0 ≤ _), (by decide : 8 + 0 ≤ _)⟩)
        dsimp only [Pt.U, Pt.locs, Pt.cells, Pt.slots] at X233 l233 y233 z233 st233 hQ233
        subst l233 y233 z233
        obtain ⟨rfl, N233q, e233⟩ := hQ233
        have N233 := Fr.app N229 N233q
        have k_234 : Go p.tables e below (s₁.setTop (entryFrame m #[(.int q1), (.int q2), (.int q3)] maxLocals)) (T233.setTop (mkF m 139 #[iv q1, iv q2, iv q3, iv 0, iv 0, iv 0, iv 1, iv 1, iv 1] [(.int 1)])) := fun t q => by
          refine k_232 t ?_
          refine st233.trans ?_
          show Steps _ _ _ (T233.setTop (mkF m 125 #[iv q1, iv q2, iv q3, iv 0, iv 0, iv 0, iv 1, iv 1, iv 1] [(.int 1)])) _
          refine XS.istore X233.here hx rfl (hb hby at_125) rfl (l' := #[iv q1, iv q2, iv q3, iv 0, iv 0, iv 0, iv 1, iv 1, iv 1]) rfl ?_
          show Steps _ _ _ (T233.setTop (mkF m 127 #[iv q1, iv q2, iv q3, iv 0, iv 0, iv 0, iv 1, iv 1, iv 1] [])) _
          refine XS.iload X233.here hx rfl (hb hby at_127) rfl ?_
          show Steps _ _ _ (T233.setTop (mkF m 129 #[iv q1, iv q2, iv q3, iv 0, iv 0, iv 0, iv 1, iv 1, iv 1] [(.int 1)])) _
          refine XS.iload X233.here hx rfl (hb hby at_129) rfl ?_
          show Steps _ _ _ (T233.setTop (mkF m 131 #[iv q1, iv q2, iv q3, iv 0, iv 0, iv 0, iv 1, iv 1, iv 1] [(.int 1), (.int 1)])) _
          refine XS.icmpNo X233.here hx rfl (hb hby at_131) rfl (by decide) ?_
          show Steps _ _ _ (T233.setTop (mkF m 134 #[iv q1, iv q2, iv q3, iv 0, iv 0, iv 0, iv 1, iv 1, iv 1] [])) _
          refine XS.iconst X233.here hx rfl (hb hby at_134) ?_
          show Steps _ _ _ (T233.setTop (mkF m 135 #[iv q1, iv q2, iv q3, iv 0, iv 0, iv 0, iv 1, iv 1, iv 1] [(.int 1)])) _
          refine XS.goto X233.here hx rfl (pc0 := 135) (pc' := 139) rfl (hb hby at_135) (by decide) (by decide) ?_
          show Steps _ _ _ (T233.setTop (mkF m 139 #[iv q1, iv q2, iv q3, iv 0, iv 0, iv 0, iv 1, iv 1, iv 1] [(.int 1)])) _
          exact q
        obtain ⟨fs, hr, hrun, hended, hW, hsame⟩ := X233.leave (v := some (.int 1)) (fun h => by rw [Bd.returns] at h; cases h)
        refine ⟨_, _, k_234 _ ?_, hrun, hended, _, _, rfl, ?_, ⟨_, rfl⟩, hW, hsame.mono (by decide) (by decide)⟩
        · exact retN X233 hx (t := .boolean) Bd.returns (by simp) (hb hby at_139) hr
        · show Q0 n0 _ T233.heap _
          rw [e233]
          exact ⟨rfl, N233⟩
      · skip
        have k_235 : Go p.tables e below (s₁.setTop (entryFrame m #[(.int q1), (.int q2), (.int q3)] maxLocals)) (s₁.setTop (mkF m 52 #[iv q1, iv q2, iv q3, iv 0, iv 1, iv 0, .unset, .unset, .unset] [(.int 1)])) := fun t q => by
          refine k0 t ?_
          refine XS.iloadN X0.here hx rfl (hb hby at_0) rfl ?_
          show Steps _ _ _ (s₁.setTop (mkF m 1 #[iv q1, iv q2, iv q3, .unset, .unset, .unset, .unset, .unset, .unset] [(.int q1)])) _
          refine XS.iconst X0.here hx rfl (hb hby at_1) ?_
          show Steps _ _ _ (s₁.setTop (mkF m 2 #[iv q1, iv q2, iv q3, .unset, .unset, .unset, .unset, .unset, .unset] [(.int 3), (.int q1)])) _
          refine XS.iand X0.here hx rfl (hb hby at_2) rfl ?_
          show Steps _ _ _ (s₁.setTop (mkF m 3 #[iv q1, iv q2, iv q3, .unset, .unset, .unset, .unset, .unset, .unset] [(.int (q1 &&& (3 : Int32)))])) _
          rw [hi]
          show Steps _ _ _ (s₁.setTop (mkF m 3 #[iv q1, iv q2, iv q3, .unset, .unset, .unset, .unset, .unset, .unset] [(.int 0)])) _
          refine XS.istoreN X0.here hx rfl (hb hby at_3) rfl (l' := #[iv q1, iv q2, iv q3, iv 0, .unset, .unset, .unset, .unset, .unset]) rfl ?_
          show Steps _ _ _ (s₁.setTop (mkF m 4 #[iv q1, iv q2, iv q3, iv 0, .unset, .unset, .unset, .unset, .unset] [])) _
          refine XS.iloadN X0.here hx rfl (hb hby at_4) rfl ?_
          show Steps _ _ _ (s₁.setTop (mkF m 5 #[iv q1, iv q2, iv q3, iv 0, .unset, .unset, .unset, .unset, .unset] [(.int q2)])) _
          refine XS.iconst X0.here hx rfl (hb hby at_5) ?_
          show Steps _ _ _ (s₁.setTop (mkF m 6 #[iv q1, iv q2, iv q3, iv 0, .unset, .unset, .unset, .unset, .unset] [(.int 3), (.int q2)])) _
          refine XS.iand X0.here hx rfl (hb hby at_6) rfl ?_
          show Steps _ _ _ (s₁.setTop (mkF m 7 #[iv q1, iv q2, iv q3, iv 0, .unset, .unset, .unset, .unset, .unset] [(.int (q2 &&& (3 : Int32)))])) _
          rw [hj]
          show Steps _ _ _ (s₁.setTop (mkF m 7 #[iv q1, iv q2, iv q3, iv 0, .unset, .unset, .unset, .unset, .unset] [(.int 1)])) _
          refine XS.istore X0.here hx rfl (hb hby at_7) rfl (l' := #[iv q1, iv q2, iv q3, iv 0, iv 1, .unset, .unset, .unset, .unset]) rfl ?_
          show Steps _ _ _ (s₁.setTop (mkF m 9 #[iv q1, iv q2, iv q3, iv 0, iv 1, .unset, .unset, .unset, .unset] [])) _
          refine XS.iloadN X0.here hx rfl (hb hby at_9) rfl ?_
          show Steps _ _ _ (s₁.setTop (mkF m 10 #[iv q1, iv q2, iv q3, iv 0, iv 1, .unset, .unset, .unset, .unset] [(.int q3)])) _
          refine XS.iconst X0.here hx rfl (hb hby at_10) ?_
          show Steps _ _ _ (s₁.setTop (mkF m 11 #[iv q1, iv q2, iv q3, iv 0, iv 1, .unset, .unset, .unset, .unset] [(.int 1), (.int q3)])) _
          refine XS.iand X0.here hx rfl (hb hby at_11) rfl ?_
          show Steps _ _ _ (s₁.setTop (mkF m 12 #[iv q1, iv q2, iv q3, iv 0, iv 1, .unset, .unset, .unset, .unset] [(.int (q3 &&& (1 : Int32)))])) _
          rw [hs]
          show Steps _ _ _ (s₁.setTop (mkF m 12 #[iv q1, iv q2, iv q3, iv 0, iv 1, .unset, .unset, .unset, .unset] [(.int 0)])) _
          refine XS.ifYes X0.here hx rfl (pc0 := 12) (pc' := 19) rfl (hb hby at_12) rfl (by decide) (by decide) (by decide) ?_
          show Steps _ _ _ (s₁.setTop (mkF m 19 #[iv q1, iv q2, iv q3, iv 0, iv 1, .unset, .unset, .unset, .unset] [])) _
          refine XS.iconst X0.here hx rfl (hb hby at_19) ?_
          show Steps _ _ _ (s₁.setTop (mkF m 20 #[iv q1, iv q2, iv q3, iv 0, iv 1, .unset, .unset, .unset, .unset] [(.int 0)])) _
          refine XS.istore X0.here hx rfl (hb hby at_20) rfl (l' := #[iv q1, iv q2, iv q3, iv 0, iv 1, iv 0, .unset, .unset, .unset]) rfl ?_
          show Steps _ _ _ (s₁.setTop (mkF m 22 #[iv q1, iv q2, iv q3, iv 0, iv 1, iv 0, .unset, .unset, .unset] [])) _
          refine XS.iloadN X0.here hx rfl (hb hby at_22) rfl ?_
          show Steps _ _ _ (s₁.setTop (mkF m 23 #[iv q1, iv q2, iv q3, iv 0, iv 1, iv 0, .unset, .unset, .unset] [(.int 0)])) _
          refine XS.iconst X0.here hx rfl (hb hby at_23) ?_
          show Steps _ _ _ (s₁.setTop (mkF m 24 #[iv q1, iv q2, iv q3, iv 0, iv 1, iv 0, .unset, .unset, .unset] [(.int 3), (.int 0)])) _
          refine XS.icmpNo X0.here hx rfl (hb hby at_24) rfl (by decide) ?_
          show Steps _ _ _ (s₁.setTop (mkF m 27 #[iv q1, iv q2, iv q3, iv 0, iv 1, iv 0, .unset, .unset, .unset] [])) _
          refine XS.iload X0.here hx rfl (hb hby at_27) rfl ?_
          show Steps _ _ _ (s₁.setTop (mkF m 29 #[iv q1, iv q2, iv q3, iv 0, iv 1, iv 0, .unset, .unset, .unset] [(.int 1)])) _
          refine XS.iconst X0.here hx rfl (hb hby at_29) ?_
          show Steps _ _ _ (s₁.setTop (mkF m 30 #[iv q1, iv q2, iv q3, iv 0, iv 1, iv 0, .unset, .unset, .unset] [(.int 3), (.int 1)])) _
          refine XS.icmpYes X0.here hx rfl (pc0 := 30) (pc' := 39) rfl (hb hby at_30) rfl (by decide) (by decide) (by decide) ?_
          show Steps _ _ _ (s₁.setTop (mkF m 39 #[iv q1, iv q2, iv q3, iv 0, iv 1, iv 0, .unset, .unset, .unset] [])) _
          refine XS.iload X0.here hx rfl (hb hby at_39) rfl ?_
          show Steps _ _ _ (s₁.setTop (mkF m 41 #[iv q1, iv q2, iv q3, iv 0, iv 1, iv 0, .unset, .unset, .unset] [(.int 0)])) _
          refine XS.ifYes X0.here hx rfl (pc0 := 41) (pc' := 50) rfl (hb hby at_41) rfl (by decide) (by decide) (by decide) ?_
          show Steps _ _ _ (s₁.setTop (mkF m 50 #[iv q1, iv q2, iv q3, iv 0, iv 1, iv 0, .unset, .unset, .unset] [])) _
          refine XS.iload X0.here hx rfl (hb hby at_50) rfl ?_
          show Steps _ _ _ (s₁.setTop (mkF m 52 #[iv q1, iv q2, iv q3, iv 0, iv 1, iv 0, .unset, .unset, .unset] [(.int 1)])) _
          exact q
        obtain ⟨_, _, ⟨T236, L236, k236, n236⟩, -, X236, ⟨Lc236, hQ236, l236, y236, z236⟩, st236⟩ := Jvm.LawKit.callS X0 hx (y := y_0) hown (mvT hZ (hw _ (wd 22 rfl))) (mvT hZ (hw _ (wd 23 rfl))) (mvT hZ (hw _ (wd 2 rfl))) (mvT hZ (hw _ (wd 24 rfl))) (by decide) (backOf (W := 0) (hr_1 l Z a0 hw [] a_NEXT_KEY a_GAP a_RECORD a_INSERT_INTENTION G  h0 n0 O0 ) hZ (hw _ (wd 24 rfl)) (hw _ (wd 2 rfl)) (by decide) (by decide)) (g := (mkF m 52 #[iv q1, iv q2, iv q3, iv 0, iv 1, iv 0, .unset, .unset, .unset] [(.int 1)])) rfl (by rw [hml]; rfl) (argsL := [(.int 1)]) (rest := []) (lenOf pd_0 rfl) rfl (by show 2 * 0 + _ ≤ _; exact Nat.le_of_eq rfl) (hb hby at_52) (fun _ _ => ⟨rfl, e0, (by decide : 0 + 0 ≤ _), (by decide : 0 + 0 ≤ _)⟩)
        dsimp only [Pt.U, Pt.locs, Pt.cells, Pt.slots] at X236 l236 y236 z236 st236 hQ236
        subst l236 y236 z236
        obtain ⟨rfl, N236q, e236⟩ := hQ236
        have N236 := Fr.app N0 N236q
        have k_237 : Go p.tables e below (s₁.setTop (entryFrame m #[(.int q1), (.int q2), (.int q3)] maxLocals)) (T236.setTop (mkF m 74 #[iv q1, iv q2, iv q3, iv 0, iv 1, iv 0, .unset, iv 1, .unset] [(.int 1)])) := fun t q => by
          refine k_235 t ?_
          refine st236 _ ?_
          show Steps _ _ _ (T236.setTop (mkF m 55 #[iv q1, iv q2, iv q3, iv 0, iv 1, iv 0, .unset, .unset, .unset] [(.int 0)])) _
          refine XS.ifYes X236.here hx rfl (pc0 := 55) (pc' := 65) rfl (hb hby at_55) rfl (by decide) (by decide) (by decide) ?_
          show Steps _ _ _ (T236.setTop (mkF m 65 #[iv q1, iv q2, iv q3, iv 0, iv 1, iv 0, .unset, .unset, .unset] [])) _
          refine XS.iconst X236.here hx rfl (hb hby at_65) ?_
          show Steps _ _ _ (T236.setTop (mkF m 66 #[iv q1, iv q2, iv q3, iv 0, iv 1, iv 0, .unset, .unset, .unset] [(.int 1)])) _
          refine XS.goto X236.here hx rfl (pc0 := 66) (pc' := 70) rfl (hb hby at_66) (by decide) (by decide) ?_
          show Steps _ _ _ (T236.setTop (mkF m 70 #[iv q1, iv q2, iv q3, iv 0, iv 1, iv 0, .unset, .unset, .unset] [(.int 1)])) _
          refine XS.istore X236.here hx rfl (hb hby at_70) rfl (l' := #[iv q1, iv q2, iv q3, iv 0, iv 1, iv 0, .unset, iv 1, .unset]) rfl ?_
          show Steps _ _ _ (T236.setTop (mkF m 72 #[iv q1, iv q2, iv q3, iv 0, iv 1, iv 0, .unset, iv 1, .unset] [])) _
          refine XS.iload X236.here hx rfl (hb hby at_72) rfl ?_
          show Steps _ _ _ (T236.setTop (mkF m 74 #[iv q1, iv q2, iv q3, iv 0, iv 1, iv 0, .unset, iv 1, .unset] [(.int 1)])) _
          exact q
        obtain ⟨_, _, ⟨T238, L238, k238, n238⟩, -, X238, ⟨Lc238, hQ238, l238, y238, z238⟩, st238⟩ := Jvm.LawKit.callS X236 hx (y := y_1) hown (mvT hZ (hw _ (wd 25 rfl))) (mvT hZ (hw _ (wd 26 rfl))) (mvT hZ (hw _ (wd 2 rfl))) (mvT hZ (hw _ (wd 27 rfl))) (by decide) (backOf (W := 0) (hg_1 l Z a0 hw [] a_NEXT_KEY a_GAP a_RECORD a_INSERT_INTENTION G  h0 n0 O0 ) hZ (hw _ (wd 27 rfl)) (hw _ (wd 2 rfl)) (by decide) (by decide)) (g := (mkF m 74 #[iv q1, iv q2, iv q3, iv 0, iv 1, iv 0, .unset, iv 1, .unset] [(.int 1)])) rfl (by rw [hml]; rfl) (argsL := [(.int 1)]) (rest := []) (lenOf pd_0 rfl) rfl (by show 2 * 0 + _ ≤ _; exact Nat.le_of_eq rfl) (hb hby at_74) (fun _ _ => ⟨rfl, e236, (by decide : 0 + 0 ≤ _), (by decide : 0 + 0 ≤ _)⟩)
        dsimp only [Pt.U, Pt.locs, Pt.cells, Pt.slots] at X238 l238 y238 z238 st238 hQ238
        subst l238 y238 z238
        obtain ⟨rfl, N238q, e238⟩ := hQ238
        have N238 := Fr.app N236 N238q
        have k_239 : Go p.tables e below (s₁.setTop (entryFrame m #[(.int q1), (.int q2), (.int q3)] maxLocals)) (T238.setTop (mkF m 81 #[iv q1, iv q2, iv q3, iv 0, iv 1, iv 0, .unset, iv 1, .unset] [(.int 0)])) := fun t q => by
          refine k_237 t ?_
          refine st238 _ ?_
          show Steps _ _ _ (T238.setTop (mkF m 77 #[iv q1, iv q2, iv q3, iv 0, iv 1, iv 0, .unset, iv 1, .unset] [(.int 1)])) _
          refine XS.ifNo X238.here hx rfl (hb hby at_77) rfl (by decide) ?_
          show Steps _ _ _ (T238.setTop (mkF m 80 #[iv q1, iv q2, iv q3, iv 0, iv 1, iv 0, .unset, iv 1, .unset] [])) _
          refine XS.iloadN X238.here hx rfl (hb hby at_80) rfl ?_
          show Steps _ _ _ (T238.setTop (mkF m 81 #[iv q1, iv q2, iv q3, iv 0, iv 1, iv 0, .unset, iv 1, .unset] [(.int 0)])) _
          exact q
        obtain ⟨_, _, ⟨T240, L240, k240, n240⟩, -, X240, ⟨Lc240, hQ240, l240, y240, z240⟩, st240⟩ := Jvm.LawKit.callS X238 hx (y := y_1) hown (mvT hZ (hw _ (wd 25 rfl))) (mvT hZ (hw _ (wd 26 rfl))) (mvT hZ (hw _ (wd 2 rfl))) (mvT hZ (hw _ (wd 27 rfl))) (by decide) (backOf (W := 0) (hg_0 l Z a0 hw [] a_NEXT_KEY a_GAP a_RECORD a_INSERT_INTENTION G  h0 n0 O0 ) hZ (hw _ (wd 27 rfl)) (hw _ (wd 2 rfl)) (by decide) (by decide)) (g := (mkF m 81 #[iv q1, iv q2, iv q3, iv 0, iv 1, iv 0, .unset, iv 1, .unset] [(.int 0)])) rfl (by rw [hml]; rfl) (argsL := [(.int 0)]) (rest := []) (lenOf pd_0 rfl) rfl (by show 2 * 0 + _ ≤ _; exact Nat.le_of_eq rfl) (hb hby at_81) (fun _ _ => ⟨rfl, e238, (by decide : 0 + 0 ≤ _), (by decide : 0 + 0 ≤ _)⟩)
        dsimp only [Pt.U, Pt.locs, Pt.cells, Pt.slots] at X240 l240 y240 z240 st240 hQ240
        subst l240 y240 z240
        obtain ⟨rfl, N240q, e240⟩ := hQ240
        have N240 := Fr.app N238 N240q
        have k_241 : Go p.tables e below (s₁.setTop (entryFrame m #[(.int q1), (.int q2), (.int q3)] maxLocals)) (T240.setTop (mkF m 112 #[iv q1, iv q2, iv q3, iv 0, iv 1, iv 0, iv 1, iv 1, iv 1] [(.int 0)])) := fun t q => by
          refine k_239 t ?_
          refine st240 _ ?_
          show Steps _ _ _ (T240.setTop (mkF m 84 #[iv q1, iv q2, iv q3, iv 0, iv 1, iv 0, .unset, iv 1, .unset] [(.int 1)])) _
          refine XS.ifNo X240.here hx rfl (hb hby at_84) rfl (by decide) ?_
          show Steps _ _ _ (T240.setTop (mkF m 87 #[iv q1, iv q2, iv q3, iv 0, iv 1, iv 0, .unset, iv 1, .unset] [])) _
          refine XS.iconst X240.here hx rfl (hb hby at_87) ?_
          show Steps _ _ _ (T240.setTop (mkF m 88 #[iv q1, iv q2, iv q3, iv 0, iv 1, iv 0, .unset, iv 1, .unset] [(.int 1)])) _
          refine XS.goto X240.here hx rfl (pc0 := 88) (pc' := 92) rfl (hb hby at_88) (by decide) (by decide) ?_
          show Steps _ _ _ (T240.setTop (mkF m 92 #[iv q1, iv q2, iv q3, iv 0, iv 1, iv 0, .unset, iv 1, .unset] [(.int 1)])) _
          refine XS.istore X240.here hx rfl (hb hby at_92) rfl (l' := #[iv q1, iv q2, iv q3, iv 0, iv 1, iv 0, .unset, iv 1, iv 1]) rfl ?_
          show Steps _ _ _ (T240.setTop (mkF m 94 #[iv q1, iv q2, iv q3, iv 0, iv 1, iv 0, .unset, iv 1, iv 1] [])) _
          refine XS.iload X240.here hx rfl (hb hby at_94) rfl ?_
          show Steps _ _ _ (T240.setTop (mkF m 96 #[iv q1, iv q2, iv q3, iv 0, iv 1, iv 0, .unset, iv 1, iv 1] [(.int 1)])) _
          refine XS.ifNo X240.here hx rfl (hb hby at_96) rfl (by decide) ?_
          show Steps _ _ _ (T240.setTop (mkF m 99 #[iv q1, iv q2, iv q3, iv 0, iv 1, iv 0, .unset, iv 1, iv 1] [])) _
          refine XS.iload X240.here hx rfl (hb hby at_99) rfl ?_
          show Steps _ _ _ (T240.setTop (mkF m 101 #[iv q1, iv q2, iv q3, iv 0, iv 1, iv 0, .unset, iv 1, iv 1] [(.int 1)])) _
          refine XS.ifNo X240.here hx rfl (hb hby at_101) rfl (by decide) ?_
          show Steps _ _ _ (T240.setTop (mkF m 104 #[iv q1, iv q2, iv q3, iv 0, iv 1, iv 0, .unset, iv 1, iv 1] [])) _
          refine XS.iconst X240.here hx rfl (hb hby at_104) ?_
          show Steps _ _ _ (T240.setTop (mkF m 105 #[iv q1, iv q2, iv q3, iv 0, iv 1, iv 0, .unset, iv 1, iv 1] [(.int 1)])) _
          refine XS.goto X240.here hx rfl (pc0 := 105) (pc' := 109) rfl (hb hby at_105) (by decide) (by decide) ?_
          show Steps _ _ _ (T240.setTop (mkF m 109 #[iv q1, iv q2, iv q3, iv 0, iv 1, iv 0, .unset, iv 1, iv 1] [(.int 1)])) _
          refine XS.istore X240.here hx rfl (hb hby at_109) rfl (l' := #[iv q1, iv q2, iv q3, iv 0, iv 1, iv 0, iv 1, iv 1, iv 1]) rfl ?_
          show Steps _ _ _ (T240.setTop (mkF m 111 #[iv q1, iv q2, iv q3, iv 0, iv 1, iv 0, iv 1, iv 1, iv 1] [])) _
          refine XS.iloadN X240.here hx rfl (hb hby at_111) rfl ?_
          show Steps _ _ _ (T240.setTop (mkF m 112 #[iv q1, iv q2, iv q3, iv 0, iv 1, iv 0, iv 1, iv 1, iv 1] [(.int 0)])) _
          exact q
        obtain ⟨_, _, ⟨T242, L242, k242, n242⟩, -, X242, ⟨Lc242, hQ242, l242, y242, z242⟩, st242⟩ := Jvm.LawKit.callS X240 hx (y := y_2) hown (mvT hZ (hw _ (wd 0 rfl))) (mvT hZ (hw _ (wd 1 rfl))) (mvT hZ (hw _ (wd 2 rfl))) (mvT hZ (hw _ (wd 3 rfl))) (by decide) (backOf (W := 0) (kd l Z a0 hw [] a_NEXT_KEY a_GAP a_RECORD a_INSERT_INTENTION G (0 : Int32) 0 h0 n0 O0 (Or.inl ⟨by decide, rfl⟩)) hZ (hw _ (wd 3 rfl)) (hw _ (wd 2 rfl)) (by decide) (by decide)) (g := (mkF m 112 #[iv q1, iv q2, iv q3, iv 0, iv 1, iv 0, iv 1, iv 1, iv 1] [(.int 0)])) rfl (by rw [hml]; rfl) (argsL := [(.int 0)]) (rest := []) (lenOf pd_1 rfl) rfl (by show 2 * 0 + _ ≤ _; exact Nat.le_of_eq rfl) (hb hby at_112) (fun _ _ => ⟨rfl, e240, (by decide : 0 + 1 ≤ _), (by decide : 0 + 4 ≤ _)⟩)
        dsimp only [Pt.U, Pt.locs, Pt.cells, Pt.slots] at X242 l242 y242 z242 st242 hQ242
        subst l242 y242 z242
        obtain ⟨rfl, N242q, K242⟩ := hQ242
        have N242 := Fr.app N240 N242q
        have O_243 := O0.keep K242 all0
        have K_244 := K0.trans K242 all0
        have k_245 : Go p.tables e below (s₁.setTop (entryFrame m #[(.int q1), (.int q2), (.int q3)] maxLocals)) (T242.setTop (mkF m 117 #[iv q1, iv q2, iv q3, iv 0, iv 1, iv 0, iv 1, iv 1, iv 1] [(.int 1), (.ref a_NEXT_KEY)])) := fun t q => by
          refine k_241 t ?_
          refine st242 _ ?_
          show Steps _ _ _ (T242.setTop (mkF m 115 #[iv q1, iv q2, iv q3, iv 0, iv 1, iv 0, iv 1, iv 1, iv 1] [(.ref a_NEXT_KEY)])) _
          refine XS.iload X242.here hx rfl (hb hby at_115) rfl ?_
          show Steps _ _ _ (T242.setTop (mkF m 117 #[iv q1, iv q2, iv q3, iv 0, iv 1, iv 0, iv 1, iv 1, iv 1] [(.int 1), (.ref a_NEXT_KEY)])) _
          exact q
        obtain ⟨_, _, ⟨T246, L246, k246, n246⟩, -, X246, ⟨Lc246, hQ246, l246, y246, z246⟩, st246⟩ := Jvm.LawKit.callS X242 hx (y := y_2) hown (mvT hZ (hw _ (wd 0 rfl))) (mvT hZ (hw _ (wd 1 rfl))) (mvT hZ (hw _ (wd 2 rfl))) (mvT hZ (hw _ (wd 3 rfl))) (by decide) (backOf (W := 1) (kd l Z a0 hw [] a_NEXT_KEY a_GAP a_RECORD a_INSERT_INTENTION G (1 : Int32) 1 T242.heap n0 O_243 (Or.inr (Or.inl ⟨by decide, rfl⟩))) hZ (hw _ (wd 3 rfl)) (hw _ (wd 2 rfl)) (by decide) (by decide)) (g := (mkF m 117 #[iv q1, iv q2, iv q3, iv 0, iv 1, iv 0, iv 1, iv 1, iv 1] [(.int 1), (.ref a_NEXT_KEY)])) rfl (by rw [hml]; rfl) (argsL := [(.int 1)]) (rest := [(.ref a_NEXT_KEY)]) (lenOf pd_1 rfl) rfl (by show 2 * 0 + _ ≤ _; exact Nat.le_of_eq rfl) (hb hby at_117) (fun _ _ => ⟨rfl, (rfl : T242.heap = _), (by decide : 1 + 1 ≤ _), (by decide : 4 + 4 ≤ _)⟩)
        dsimp only [Pt.U, Pt.locs, Pt.cells, Pt.slots] at X246 l246 y246 z246 st246 hQ246
        subst l246 y246 z246
        obtain ⟨rfl, N246q, K246⟩ := hQ246
        have N246 := Fr.app N242 N246q
        have O_247 := O_243.keep K246 all0
        have K_248 := K_244.trans K246 all0
        have k_249 : Go p.tables e below (s₁.setTop (entryFrame m #[(.int q1), (.int q2), (.int q3)] maxLocals)) (T246.setTop (mkF m 122 #[iv q1, iv q2, iv q3, iv 0, iv 1, iv 0, iv 1, iv 1, iv 1] [(.int 0), (.ref a_GAP), (.ref a_NEXT_KEY)])) := fun t q => by
          refine k_245 t ?_
          refine st246 _ ?_
          show Steps _ _ _ (T246.setTop (mkF m 120 #[iv q1, iv q2, iv q3, iv 0, iv 1, iv 0, iv 1, iv 1, iv 1] [(.ref a_GAP), (.ref a_NEXT_KEY)])) _
          refine XS.iload X246.here hx rfl (hb hby at_120) rfl ?_
          show Steps _ _ _ (T246.setTop (mkF m 122 #[iv q1, iv q2, iv q3, iv 0, iv 1, iv 0, iv 1, iv 1, iv 1] [(.int 0), (.ref a_GAP), (.ref a_NEXT_KEY)])) _
          exact q
        obtain ⟨cq250, kq250, q250a, q250b, q250c⟩ := isOf hZ (rfl : T246.heap = _) (Exa.ext O_247.2 E_NEXT_KEY)
        obtain ⟨_, _, ⟨T250, L250, k250, n250⟩, -, X250, ⟨Lc250, hQ250, l250, y250, z250⟩, st250⟩ := X246.virtualBack hx (y := y_3) (z := y_3) hown (mvT hZ (hw _ (wd 16 rfl))) (mvT hZ (hw _ (wd 17 rfl))) (notFace_of_selects (args := #[]) (mvT hZ (hw _ (wd 19 rfl)))) (mvT hZ (hw _ (wd 19 rfl))) (mvT hZ (hw _ (wd 18 rfl))) (by decide) (backOf (W := 0) (cv_0_1_0 l Z a0 hw [] a_NEXT_KEY a_GAP a_RECORD a_INSERT_INTENTION G  T246.heap n0 O_247 ) hZ (hw _ (wd 20 rfl)) (hw _ (wd 7 rfl)) (by decide) (by decide)) q250a q250c (g := (mkF m 122 #[iv q1, iv q2, iv q3, iv 0, iv 1, iv 0, iv 1, iv 1, iv 1] [(.int 0), (.ref a_GAP), (.ref a_NEXT_KEY)])) rfl (by rw [hml]; rfl) (Steps.refl _) (argsL := [(.ref a_GAP), (.int 0)]) (rest := []) (lenOf pd_2 rfl) rfl (by show 2 * 0 + _ ≤ _; exact Nat.le_of_eq rfl) (hb hby at_122) (fun _ _ => ⟨rfl, (rfl : T246.heap = _), (by decide : 2 + 0 ≤ _), (by decide : 8 + 0 ≤ _)⟩)
        dsimp only [Pt.U, Pt.locs, Pt.cells, Pt.slots] at X250 l250 y250 z250 st250 hQ250
        subst l250 y250 z250
        obtain ⟨rfl, N250q, e250⟩ := hQ250
        have N250 := Fr.app N246 N250q
        have k_251 : Go p.tables e below (s₁.setTop (entryFrame m #[(.int q1), (.int q2), (.int q3)] maxLocals)) (T250.setTop (mkF m 139 #[iv q1, iv q2, iv q3, iv 0, iv 1, iv 0, iv 1, iv 1, iv 1] [(.int 1)])) := fun t q => by
          refine k_249 t ?_
          refine st250.trans ?_
          show Steps _ _ _ (T250.setTop (mkF m 125 #[iv q1, iv q2, iv q3, iv 0, iv 1, iv 0, iv 1, iv 1, iv 1] [(.int 1)])) _
          refine XS.istore X250.here hx rfl (hb hby at_125) rfl (l' := #[iv q1, iv q2, iv q3, iv 0, iv 1, iv 0, iv 1, iv 1, iv 1]) rfl ?_
          show Steps _ _ _ (T250.setTop (mkF m 127 #[iv q1, iv q2, iv q3, iv 0, iv 1, iv 0, iv 1, iv 1, iv 1] [])) _
          refine XS.iload X250.here hx rfl (hb hby at_127) rfl ?_
          show Steps _ _ _ (T250.setTop (mkF m 129 #[iv q1, iv q2, iv q3, iv 0, iv 1, iv 0, iv 1, iv 1, iv 1] [(.int 1)])) _
          refine XS.iload X250.here hx rfl (hb hby at_129) rfl ?_
          show Steps _ _ _ (T250.setTop (mkF m 131 #[iv q1, iv q2, iv q3, iv 0, iv 1, iv 0, iv 1, iv 1, iv 1] [(.int 1), (.int 1)])) _
          refine XS.icmpNo X250.here hx rfl (hb hby at_131) rfl (by decide) ?_
          show Steps _ _ _ (T250.setTop (mkF m 134 #[iv q1, iv q2, iv q3, iv 0, iv 1, iv 0, iv 1, iv 1, iv 1] [])) _
          refine XS.iconst X250.here hx rfl (hb hby at_134) ?_
          show Steps _ _ _ (T250.setTop (mkF m 135 #[iv q1, iv q2, iv q3, iv 0, iv 1, iv 0, iv 1, iv 1, iv 1] [(.int 1)])) _
          refine XS.goto X250.here hx rfl (pc0 := 135) (pc' := 139) rfl (hb hby at_135) (by decide) (by decide) ?_
          show Steps _ _ _ (T250.setTop (mkF m 139 #[iv q1, iv q2, iv q3, iv 0, iv 1, iv 0, iv 1, iv 1, iv 1] [(.int 1)])) _
          exact q
        obtain ⟨fs, hr, hrun, hended, hW, hsame⟩ := X250.leave (v := some (.int 1)) (fun h => by rw [Bd.returns] at h; cases h)
        refine ⟨_, _, k_251 _ ?_, hrun, hended, _, _, rfl, ?_, ⟨_, rfl⟩, hW, hsame.mono (by decide) (by decide)⟩
        · exact retN X250 hx (t := .boolean) Bd.returns (by simp) (hb hby at_139) hr
        · show Q0 n0 _ T250.heap _
          rw [e250]
          exact ⟨rfl, N250⟩
      · skip
        have k_252 : Go p.tables e below (s₁.setTop (entryFrame m #[(.int q1), (.int q2), (.int q3)] maxLocals)) (s₁.setTop (mkF m 52 #[iv q1, iv q2, iv q3, iv 0, iv 2, iv 0, .unset, .unset, .unset] [(.int 2)])) := fun t q => by
          refine k0 t ?_
          refine XS.iloadN X0.here hx rfl (hb hby at_0) rfl ?_
          show Steps _ _ _ (s₁.setTop (mkF m 1 #[iv q1, iv q2, iv q3, .unset, .unset, .unset, .unset, .unset, .unset] [(.int q1)])) _
          refine XS.iconst X0.here hx rfl (hb hby at_1) ?_
          show Steps _ _ _ (s₁.setTop (mkF m 2 #[iv q1, iv q2, iv q3, .unset, .unset, .unset, .unset, .unset, .unset] [(.int 3), (.int q1)])) _
          refine XS.iand X0.here hx rfl (hb hby at_2) rfl ?_
          show Steps _ _ _ (s₁.setTop (mkF m 3 #[iv q1, iv q2, iv q3, .unset, .unset, .unset, .unset, .unset, .unset] [(.int (q1 &&& (3 : Int32)))])) _
          rw [hi]
          show Steps _ _ _ (s₁.setTop (mkF m 3 #[iv q1, iv q2, iv q3, .unset, .unset, .unset, .unset, .unset, .unset] [(.int 0)])) _
          refine XS.istoreN X0.here hx rfl (hb hby at_3) rfl (l' := #[iv q1, iv q2, iv q3, iv 0, .unset, .unset, .unset, .unset, .unset]) rfl ?_
          show Steps _ _ _ (s₁.setTop (mkF m 4 #[iv q1, iv q2, iv q3, iv 0, .unset, .unset, .unset, .unset, .unset] [])) _
          refine XS.iloadN X0.here hx rfl (hb hby at_4) rfl ?_
          show Steps _ _ _ (s₁.setTop (mkF m 5 #[iv q1, iv q2, iv q3, iv 0, .unset, .unset, .unset, .unset, .unset] [(.int q2)])) _
          refine XS.iconst X0.here hx rfl (hb hby at_5) ?_
          show Steps _ _ _ (s₁.setTop (mkF m 6 #[iv q1, iv q2, iv q3, iv 0, .unset, .unset, .unset, .unset, .unset] [(.int 3), (.int q2)])) _
          refine XS.iand X0.here hx rfl (hb hby at_6) rfl ?_
          show Steps _ _ _ (s₁.setTop (mkF m 7 #[iv q1, iv q2, iv q3, iv 0, .unset, .unset, .unset, .unset, .unset] [(.int (q2 &&& (3 : Int32)))])) _
          rw [hj]
          show Steps _ _ _ (s₁.setTop (mkF m 7 #[iv q1, iv q2, iv q3, iv 0, .unset, .unset, .unset, .unset, .unset] [(.int 2)])) _
          refine XS.istore X0.here hx rfl (hb hby at_7) rfl (l' := #[iv q1, iv q2, iv q3, iv 0, iv 2, .unset, .unset, .unset, .unset]) rfl ?_
          show Steps _ _ _ (s₁.setTop (mkF m 9 #[iv q1, iv q2, iv q3, iv 0, iv 2, .unset, .unset, .unset, .unset] [])) _
          refine XS.iloadN X0.here hx rfl (hb hby at_9) rfl ?_
          show Steps _ _ _ (s₁.setTop (mkF m 10 #[iv q1, iv q2, iv q3, iv 0, iv 2, .unset, .unset, .unset, .unset] [(.int q3)])) _
          refine XS.iconst X0.here hx rfl (hb hby at_10) ?_
          show Steps _ _ _ (s₁.setTop (mkF m 11 #[iv q1, iv q2, iv q3, iv 0, iv 2, .unset, .unset, .unset, .unset] [(.int 1), (.int q3)])) _
          refine XS.iand X0.here hx rfl (hb hby at_11) rfl ?_
          show Steps _ _ _ (s₁.setTop (mkF m 12 #[iv q1, iv q2, iv q3, iv 0, iv 2, .unset, .unset, .unset, .unset] [(.int (q3 &&& (1 : Int32)))])) _
          rw [hs]
          show Steps _ _ _ (s₁.setTop (mkF m 12 #[iv q1, iv q2, iv q3, iv 0, iv 2, .unset, .unset, .unset, .unset] [(.int 0)])) _
          refine XS.ifYes X0.here hx rfl (pc0 := 12) (pc' := 19) rfl (hb hby at_12) rfl (by decide) (by decide) (by decide) ?_
          show Steps _ _ _ (s₁.setTop (mkF m 19 #[iv q1, iv q2, iv q3, iv 0, iv 2, .unset, .unset, .unset, .unset] [])) _
          refine XS.iconst X0.here hx rfl (hb hby at_19) ?_
          show Steps _ _ _ (s₁.setTop (mkF m 20 #[iv q1, iv q2, iv q3, iv 0, iv 2, .unset, .unset, .unset, .unset] [(.int 0)])) _
          refine XS.istore X0.here hx rfl (hb hby at_20) rfl (l' := #[iv q1, iv q2, iv q3, iv 0, iv 2, iv 0, .unset, .unset, .unset]) rfl ?_
          show Steps _ _ _ (s₁.setTop (mkF m 22 #[iv q1, iv q2, iv q3, iv 0, iv 2, iv 0, .unset, .unset, .unset] [])) _
          refine XS.iloadN X0.here hx rfl (hb hby at_22) rfl ?_
          show Steps _ _ _ (s₁.setTop (mkF m 23 #[iv q1, iv q2, iv q3, iv 0, iv 2, iv 0, .unset, .unset, .unset] [(.int 0)])) _
          refine XS.iconst X0.here hx rfl (hb hby at_23) ?_
          show Steps _ _ _ (s₁.setTop (mkF m 24 #[iv q1, iv q2, iv q3, iv 0, iv 2, iv 0, .unset, .unset, .unset] [(.int 3), (.int 0)])) _
          refine XS.icmpNo X0.here hx rfl (hb hby at_24) rfl (by decide) ?_
          show Steps _ _ _ (s₁.setTop (mkF m 27 #[iv q1, iv q2, iv q3, iv 0, iv 2, iv 0, .unset, .unset, .unset] [])) _
          refine XS.iload X0.here hx rfl (hb hby at_27) rfl ?_
          show Steps _ _ _ (s₁.setTop (mkF m 29 #[iv q1, iv q2, iv q3, iv 0, iv 2, iv 0, .unset, .unset, .unset] [(.int 2)])) _
          refine XS.iconst X0.here hx rfl (hb hby at_29) ?_
          show Steps _ _ _ (s₁.setTop (mkF m 30 #[iv q1, iv q2, iv q3, iv 0, iv 2, iv 0, .unset, .unset, .unset] [(.int 3), (.int 2)])) _
          refine XS.icmpYes X0.here hx rfl (pc0 := 30) (pc' := 39) rfl (hb hby at_30) rfl (by decide) (by decide) (by decide) ?_
          show Steps _ _ _ (s₁.setTop (mkF m 39 #[iv q1, iv q2, iv q3, iv 0, iv 2, iv 0, .unset, .unset, .unset] [])) _
          refine XS.iload X0.here hx rfl (hb hby at_39) rfl ?_
          show Steps _ _ _ (s₁.setTop (mkF m 41 #[iv q1, iv q2, iv q3, iv 0, iv 2, iv 0, .unset, .unset, .unset] [(.int 0)])) _
          refine XS.ifYes X0.here hx rfl (pc0 := 41) (pc' := 50) rfl (hb hby at_41) rfl (by decide) (by decide) (by decide) ?_
          show Steps _ _ _ (s₁.setTop (mkF m 50 #[iv q1, iv q2, iv q3, iv 0, iv 2, iv 0, .unset, .unset, .unset] [])) _
          refine XS.iload X0.here hx rfl (hb hby at_50) rfl ?_
          show Steps _ _ _ (s₁.setTop (mkF m 52 #[iv q1, iv q2, iv q3, iv 0, iv 2, iv 0, .unset, .unset, .unset] [(.int 2)])) _
          exact q
        obtain ⟨_, _, ⟨T253, L253, k253, n253⟩, -, X253, ⟨Lc253, hQ253, l253, y253, z253⟩, st253⟩ := Jvm.LawKit.callS X0 hx (y := y_0) hown (mvT hZ (hw _ (wd 22 rfl))) (mvT hZ (hw _ (wd 23 rfl))) (mvT hZ (hw _ (wd 2 rfl))) (mvT hZ (hw _ (wd 24 rfl))) (by decide) (backOf (W := 0) (hr_2 l Z a0 hw [] a_NEXT_KEY a_GAP a_RECORD a_INSERT_INTENTION G  h0 n0 O0 ) hZ (hw _ (wd 24 rfl)) (hw _ (wd 2 rfl)) (by decide) (by decide)) (g := (mkF m 52 #[iv q1, iv q2, iv q3, iv 0, iv 2, iv 0, .unset, .unset, .unset] [(.int 2)])) rfl (by rw [hml]; rfl) (argsL := [(.int 2)]) (rest := []) (lenOf pd_0 rfl) rfl (by show 2 * 0 + _ ≤ _; exact Nat.le_of_eq rfl) (hb hby at_52) (fun _ _ => ⟨rfl, e0, (by decide : 0 + 0 ≤ _), (by decide : 0 + 0 ≤ _)⟩)
        dsimp only [Pt.U, Pt.locs, Pt.cells, Pt.slots] at X253 l253 y253 z253 st253 hQ253
        subst l253 y253 z253
        obtain ⟨rfl, N253q, e253⟩ := hQ253
        have N253 := Fr.app N0 N253q
        have k_254 : Go p.tables e below (s₁.setTop (entryFrame m #[(.int q1), (.int q2), (.int q3)] maxLocals)) (T253.setTop (mkF m 59 #[iv q1, iv q2, iv q3, iv 0, iv 2, iv 0, .unset, .unset, .unset] [(.int 0)])) := fun t q => by
          refine k_252 t ?_
          refine st253 _ ?_
          show Steps _ _ _ (T253.setTop (mkF m 55 #[iv q1, iv q2, iv q3, iv 0, iv 2, iv 0, .unset, .unset, .unset] [(.int 1)])) _
          refine XS.ifNo X253.here hx rfl (hb hby at_55) rfl (by decide) ?_
          show Steps _ _ _ (T253.setTop (mkF m 58 #[iv q1, iv q2, iv q3, iv 0, iv 2, iv 0, .unset, .unset, .unset] [])) _
          refine XS.iloadN X253.here hx rfl (hb hby at_58) rfl ?_
          show Steps _ _ _ (T253.setTop (mkF m 59 #[iv q1, iv q2, iv q3, iv 0, iv 2, iv 0, .unset, .unset, .unset] [(.int 0)])) _
          exact q
        obtain ⟨_, _, ⟨T255, L255, k255, n255⟩, -, X255, ⟨Lc255, hQ255, l255, y255, z255⟩, st255⟩ := Jvm.LawKit.callS X253 hx (y := y_0) hown (mvT hZ (hw _ (wd 22 rfl))) (mvT hZ (hw _ (wd 23 rfl))) (mvT hZ (hw _ (wd 2 rfl))) (mvT hZ (hw _ (wd 24 rfl))) (by decide) (backOf (W := 0) (hr_0 l Z a0 hw [] a_NEXT_KEY a_GAP a_RECORD a_INSERT_INTENTION G  h0 n0 O0 ) hZ (hw _ (wd 24 rfl)) (hw _ (wd 2 rfl)) (by decide) (by decide)) (g := (mkF m 59 #[iv q1, iv q2, iv q3, iv 0, iv 2, iv 0, .unset, .unset, .unset] [(.int 0)])) rfl (by rw [hml]; rfl) (argsL := [(.int 0)]) (rest := []) (lenOf pd_0 rfl) rfl (by show 2 * 0 + _ ≤ _; exact Nat.le_of_eq rfl) (hb hby at_59) (fun _ _ => ⟨rfl, e253, (by decide : 0 + 0 ≤ _), (by decide : 0 + 0 ≤ _)⟩)
        dsimp only [Pt.U, Pt.locs, Pt.cells, Pt.slots] at X255 l255 y255 z255 st255 hQ255
        subst l255 y255 z255
        obtain ⟨rfl, N255q, e255⟩ := hQ255
        have N255 := Fr.app N253 N255q
        have k_256 : Go p.tables e below (s₁.setTop (entryFrame m #[(.int q1), (.int q2), (.int q3)] maxLocals)) (T255.setTop (mkF m 74 #[iv q1, iv q2, iv q3, iv 0, iv 2, iv 0, .unset, iv 1, .unset] [(.int 2)])) := fun t q => by
          refine k_254 t ?_
          refine st255 _ ?_
          show Steps _ _ _ (T255.setTop (mkF m 62 #[iv q1, iv q2, iv q3, iv 0, iv 2, iv 0, .unset, .unset, .unset] [(.int 1)])) _
          refine XS.ifNo X255.here hx rfl (hb hby at_62) rfl (by decide) ?_
          show Steps _ _ _ (T255.setTop (mkF m 65 #[iv q1, iv q2, iv q3, iv 0, iv 2, iv 0, .unset, .unset, .unset] [])) _
          refine XS.iconst X255.here hx rfl (hb hby at_65) ?_
          show Steps _ _ _ (T255.setTop (mkF m 66 #[iv q1, iv q2, iv q3, iv 0, iv 2, iv 0, .unset, .unset, .unset] [(.int 1)])) _
          refine XS.goto X255.here hx rfl (pc0 := 66) (pc' := 70) rfl (hb hby at_66) (by decide) (by decide) ?_
          show Steps _ _ _ (T255.setTop (mkF m 70 #[iv q1, iv q2, iv q3, iv 0, iv 2, iv 0, .unset, .unset, .unset] [(.int 1)])) _
          refine XS.istore X255.here hx rfl (hb hby at_70) rfl (l' := #[iv q1, iv q2, iv q3, iv 0, iv 2, iv 0, .unset, iv 1, .unset]) rfl ?_
          show Steps _ _ _ (T255.setTop (mkF m 72 #[iv q1, iv q2, iv q3, iv 0, iv 2, iv 0, .unset, iv 1, .unset] [])) _
          refine XS.iload X255.here hx rfl (hb hby at_72) rfl ?_
          show Steps _ _ _ (T255.setTop (mkF m 74 #[iv q1, iv q2, iv q3, iv 0, iv 2, iv 0, .unset, iv 1, .unset] [(.int 2)])) _
          exact q
        obtain ⟨_, _, ⟨T257, L257, k257, n257⟩, -, X257, ⟨Lc257, hQ257, l257, y257, z257⟩, st257⟩ := Jvm.LawKit.callS X255 hx (y := y_1) hown (mvT hZ (hw _ (wd 25 rfl))) (mvT hZ (hw _ (wd 26 rfl))) (mvT hZ (hw _ (wd 2 rfl))) (mvT hZ (hw _ (wd 27 rfl))) (by decide) (backOf (W := 0) (hg_2 l Z a0 hw [] a_NEXT_KEY a_GAP a_RECORD a_INSERT_INTENTION G  h0 n0 O0 ) hZ (hw _ (wd 27 rfl)) (hw _ (wd 2 rfl)) (by decide) (by decide)) (g := (mkF m 74 #[iv q1, iv q2, iv q3, iv 0, iv 2, iv 0, .unset, iv 1, .unset] [(.int 2)])) rfl (by rw [hml]; rfl) (argsL := [(.int 2)]) (rest := []) (lenOf pd_0 rfl) rfl (by show 2 * 0 + _ ≤ _; exact Nat.le_of_eq rfl) (hb hby at_74) (fun _ _ => ⟨rfl, e255, (by decide : 0 + 0 ≤ _), (by decide : 0 + 0 ≤ _)⟩)
        dsimp only [Pt.U, Pt.locs, Pt.cells, Pt.slots] at X257 l257 y257 z257 st257 hQ257
        subst l257 y257 z257
        obtain ⟨rfl, N257q, e257⟩ := hQ257
        have N257 := Fr.app N255 N257q
        have k_258 : Go p.tables e below (s₁.setTop (entryFrame m #[(.int q1), (.int q2), (.int q3)] maxLocals)) (T257.setTop (mkF m 112 #[iv q1, iv q2, iv q3, iv 0, iv 2, iv 0, iv 1, iv 1, iv 1] [(.int 0)])) := fun t q => by
          refine k_256 t ?_
          refine st257 _ ?_
          show Steps _ _ _ (T257.setTop (mkF m 77 #[iv q1, iv q2, iv q3, iv 0, iv 2, iv 0, .unset, iv 1, .unset] [(.int 0)])) _
          refine XS.ifYes X257.here hx rfl (pc0 := 77) (pc' := 87) rfl (hb hby at_77) rfl (by decide) (by decide) (by decide) ?_
          show Steps _ _ _ (T257.setTop (mkF m 87 #[iv q1, iv q2, iv q3, iv 0, iv 2, iv 0, .unset, iv 1, .unset] [])) _
          refine XS.iconst X257.here hx rfl (hb hby at_87) ?_
          show Steps _ _ _ (T257.setTop (mkF m 88 #[iv q1, iv q2, iv q3, iv 0, iv 2, iv 0, .unset, iv 1, .unset] [(.int 1)])) _
          refine XS.goto X257.here hx rfl (pc0 := 88) (pc' := 92) rfl (hb hby at_88) (by decide) (by decide) ?_
          show Steps _ _ _ (T257.setTop (mkF m 92 #[iv q1, iv q2, iv q3, iv 0, iv 2, iv 0, .unset, iv 1, .unset] [(.int 1)])) _
          refine XS.istore X257.here hx rfl (hb hby at_92) rfl (l' := #[iv q1, iv q2, iv q3, iv 0, iv 2, iv 0, .unset, iv 1, iv 1]) rfl ?_
          show Steps _ _ _ (T257.setTop (mkF m 94 #[iv q1, iv q2, iv q3, iv 0, iv 2, iv 0, .unset, iv 1, iv 1] [])) _
          refine XS.iload X257.here hx rfl (hb hby at_94) rfl ?_
          show Steps _ _ _ (T257.setTop (mkF m 96 #[iv q1, iv q2, iv q3, iv 0, iv 2, iv 0, .unset, iv 1, iv 1] [(.int 1)])) _
          refine XS.ifNo X257.here hx rfl (hb hby at_96) rfl (by decide) ?_
          show Steps _ _ _ (T257.setTop (mkF m 99 #[iv q1, iv q2, iv q3, iv 0, iv 2, iv 0, .unset, iv 1, iv 1] [])) _
          refine XS.iload X257.here hx rfl (hb hby at_99) rfl ?_
          show Steps _ _ _ (T257.setTop (mkF m 101 #[iv q1, iv q2, iv q3, iv 0, iv 2, iv 0, .unset, iv 1, iv 1] [(.int 1)])) _
          refine XS.ifNo X257.here hx rfl (hb hby at_101) rfl (by decide) ?_
          show Steps _ _ _ (T257.setTop (mkF m 104 #[iv q1, iv q2, iv q3, iv 0, iv 2, iv 0, .unset, iv 1, iv 1] [])) _
          refine XS.iconst X257.here hx rfl (hb hby at_104) ?_
          show Steps _ _ _ (T257.setTop (mkF m 105 #[iv q1, iv q2, iv q3, iv 0, iv 2, iv 0, .unset, iv 1, iv 1] [(.int 1)])) _
          refine XS.goto X257.here hx rfl (pc0 := 105) (pc' := 109) rfl (hb hby at_105) (by decide) (by decide) ?_
          show Steps _ _ _ (T257.setTop (mkF m 109 #[iv q1, iv q2, iv q3, iv 0, iv 2, iv 0, .unset, iv 1, iv 1] [(.int 1)])) _
          refine XS.istore X257.here hx rfl (hb hby at_109) rfl (l' := #[iv q1, iv q2, iv q3, iv 0, iv 2, iv 0, iv 1, iv 1, iv 1]) rfl ?_
          show Steps _ _ _ (T257.setTop (mkF m 111 #[iv q1, iv q2, iv q3, iv 0, iv 2, iv 0, iv 1, iv 1, iv 1] [])) _
          refine XS.iloadN X257.here hx rfl (hb hby at_111) rfl ?_
          show Steps _ _ _ (T257.setTop (mkF m 112 #[iv q1, iv q2, iv q3, iv 0, iv 2, iv 0, iv 1, iv 1, iv 1] [(.int 0)])) _
          exact q
        obtain ⟨_, _, ⟨T259, L259, k259, n259⟩, -, X259, ⟨Lc259, hQ259, l259, y259, z259⟩, st259⟩ := Jvm.LawKit.callS X257 hx (y := y_2) hown (mvT hZ (hw _ (wd 0 rfl))) (mvT hZ (hw _ (wd 1 rfl))) (mvT hZ (hw _ (wd 2 rfl))) (mvT hZ (hw _ (wd 3 rfl))) (by decide) (backOf (W := 0) (kd l Z a0 hw [] a_NEXT_KEY a_GAP a_RECORD a_INSERT_INTENTION G (0 : Int32) 0 h0 n0 O0 (Or.inl ⟨by decide, rfl⟩)) hZ (hw _ (wd 3 rfl)) (hw _ (wd 2 rfl)) (by decide) (by decide)) (g := (mkF m 112 #[iv q1, iv q2, iv q3, iv 0, iv 2, iv 0, iv 1, iv 1, iv 1] [(.int 0)])) rfl (by rw [hml]; rfl) (argsL := [(.int 0)]) (rest := []) (lenOf pd_1 rfl) rfl (by show 2 * 0 + _ ≤ _; exact Nat.le_of_eq rfl) (hb hby at_112) (fun _ _ => ⟨rfl, e257, (by decide : 0 + 1 ≤ _), (by decide : 0 + 4 ≤ _)⟩)
        dsimp only [Pt.U, Pt.locs, Pt.cells, Pt.slots] at X259 l259 y259 z259 st259 hQ259
        subst l259 y259 z259
        obtain ⟨rfl, N259q, K259⟩ := hQ259
        have N259 := Fr.app N257 N259q
        have O_260 := O0.keep K259 all0
        have K_261 := K0.trans K259 all0
        have k_262 : Go p.tables e below (s₁.setTop (entryFrame m #[(.int q1), (.int q2), (.int q3)] maxLocals)) (T259.setTop (mkF m 117 #[iv q1, iv q2, iv q3, iv 0, iv 2, iv 0, iv 1, iv 1, iv 1] [(.int 2), (.ref a_NEXT_KEY)])) := fun t q => by
          refine k_258 t ?_
          refine st259 _ ?_
          show Steps _ _ _ (T259.setTop (mkF m 115 #[iv q1, iv q2, iv q3, iv 0, iv 2, iv 0, iv 1, iv 1, iv 1] [(.ref a_NEXT_KEY)])) _
          refine XS.iload X259.here hx rfl (hb hby at_115) rfl ?_
          show Steps _ _ _ (T259.setTop (mkF m 117 #[iv q1, iv q2, iv q3, iv 0, iv 2, iv 0, iv 1, iv 1, iv 1] [(.int 2), (.ref a_NEXT_KEY)])) _
          exact q
        obtain ⟨_, _, ⟨T263, L263, k263, n263⟩, -, X263, ⟨Lc263, hQ263, l263, y263, z263⟩, st263⟩ := Jvm.LawKit.callS X259 hx (y := y_2) hown (mvT hZ (hw _ (wd 0 rfl))) (mvT hZ (hw _ (wd 1 rfl))) (mvT hZ (hw _ (wd 2 rfl))) (mvT hZ (hw _ (wd 3 rfl))) (by decide) (backOf (W := 1) (kd l Z a0 hw [] a_NEXT_KEY a_GAP a_RECORD a_INSERT_INTENTION G (2 : Int32) 2 T259.heap n0 O_260 (Or.inr (Or.inr (Or.inl ⟨by decide, rfl⟩)))) hZ (hw _ (wd 3 rfl)) (hw _ (wd 2 rfl)) (by decide) (by decide)) (g := (mkF m 117 #[iv q1, iv q2, iv q3, iv 0, iv 2, iv 0, iv 1, iv 1, iv 1] [(.int 2), (.ref a_NEXT_KEY)])) rfl (by rw [hml]; rfl) (argsL := [(.int 2)]) (rest := [(.ref a_NEXT_KEY)]) (lenOf pd_1 rfl) rfl (by show 2 * 0 + _ ≤ _; exact Nat.le_of_eq rfl) (hb hby at_117) (fun _ _ => ⟨rfl, (rfl : T259.heap = _), (by decide : 1 + 1 ≤ _), (by decide : 4 + 4 ≤ _)⟩)
        dsimp only [Pt.U, Pt.locs, Pt.cells, Pt.slots] at X263 l263 y263 z263 st263 hQ263
        subst l263 y263 z263
        obtain ⟨rfl, N263q, K263⟩ := hQ263
        have N263 := Fr.app N259 N263q
        have O_264 := O_260.keep K263 all0
        have K_265 := K_261.trans K263 all0
        have k_266 : Go p.tables e below (s₁.setTop (entryFrame m #[(.int q1), (.int q2), (.int q3)] maxLocals)) (T263.setTop (mkF m 122 #[iv q1, iv q2, iv q3, iv 0, iv 2, iv 0, iv 1, iv 1, iv 1] [(.int 0), (.ref a_RECORD), (.ref a_NEXT_KEY)])) := fun t q => by
          refine k_262 t ?_
          refine st263 _ ?_
          show Steps _ _ _ (T263.setTop (mkF m 120 #[iv q1, iv q2, iv q3, iv 0, iv 2, iv 0, iv 1, iv 1, iv 1] [(.ref a_RECORD), (.ref a_NEXT_KEY)])) _
          refine XS.iload X263.here hx rfl (hb hby at_120) rfl ?_
          show Steps _ _ _ (T263.setTop (mkF m 122 #[iv q1, iv q2, iv q3, iv 0, iv 2, iv 0, iv 1, iv 1, iv 1] [(.int 0), (.ref a_RECORD), (.ref a_NEXT_KEY)])) _
          exact q
        obtain ⟨cq267, kq267, q267a, q267b, q267c⟩ := isOf hZ (rfl : T263.heap = _) (Exa.ext O_264.2 E_NEXT_KEY)
        obtain ⟨_, _, ⟨T267, L267, k267, n267⟩, -, X267, ⟨Lc267, hQ267, l267, y267, z267⟩, st267⟩ := X263.virtualBack hx (y := y_3) (z := y_3) hown (mvT hZ (hw _ (wd 16 rfl))) (mvT hZ (hw _ (wd 17 rfl))) (notFace_of_selects (args := #[]) (mvT hZ (hw _ (wd 19 rfl)))) (mvT hZ (hw _ (wd 19 rfl))) (mvT hZ (hw _ (wd 18 rfl))) (by decide) (backOf (W := 0) (cv_0_2_0 l Z a0 hw [] a_NEXT_KEY a_GAP a_RECORD a_INSERT_INTENTION G  T263.heap n0 O_264 ) hZ (hw _ (wd 20 rfl)) (hw _ (wd 7 rfl)) (by decide) (by decide)) q267a q267c (g := (mkF m 122 #[iv q1, iv q2, iv q3, iv 0, iv 2, iv 0, iv 1, iv 1, iv 1] [(.int 0), (.ref a_RECORD), (.ref a_NEXT_KEY)])) rfl (by rw [hml]; rfl) (Steps.refl _) (argsL := [(.ref a_RECORD), (.int 0)]) (rest := []) (lenOf pd_2 rfl) rfl (by show 2 * 0 + _ ≤ _; exact Nat.le_of_eq rfl) (hb hby at_122) (fun _ _ => ⟨rfl, (rfl : T263.heap = _), (by decide : 2 + 0 ≤ _), (by decide : 8 + 0 ≤ _)⟩)
        dsimp only [Pt.U, Pt.locs, Pt.cells, Pt.slots] at X267 l267 y267 z267 st267 hQ267
        subst l267 y267 z267
        obtain ⟨rfl, N267q, e267⟩ := hQ267
        have N267 := Fr.app N263 N267q
        have k_268 : Go p.tables e below (s₁.setTop (entryFrame m #[(.int q1), (.int q2), (.int q3)] maxLocals)) (T267.setTop (mkF m 139 #[iv q1, iv q2, iv q3, iv 0, iv 2, iv 0, iv 1, iv 1, iv 1] [(.int 1)])) := fun t q => by
          refine k_266 t ?_
          refine st267.trans ?_
          show Steps _ _ _ (T267.setTop (mkF m 125 #[iv q1, iv q2, iv q3, iv 0, iv 2, iv 0, iv 1, iv 1, iv 1] [(.int 1)])) _
          refine XS.istore X267.here hx rfl (hb hby at_125) rfl (l' := #[iv q1, iv q2, iv q3, iv 0, iv 2, iv 0, iv 1, iv 1, iv 1]) rfl ?_
          show Steps _ _ _ (T267.setTop (mkF m 127 #[iv q1, iv q2, iv q3, iv 0, iv 2, iv 0, iv 1, iv 1, iv 1] [])) _
          refine XS.iload X267.here hx rfl (hb hby at_127) rfl ?_
          show Steps _ _ _ (T267.setTop (mkF m 129 #[iv q1, iv q2, iv q3, iv 0, iv 2, iv 0, iv 1, iv 1, iv 1] [(.int 1)])) _
          refine XS.iload X267.here hx rfl (hb hby at_129) rfl ?_
          show Steps _ _ _ (T267.setTop (mkF m 131 #[iv q1, iv q2, iv q3, iv 0, iv 2, iv 0, iv 1, iv 1, iv 1] [(.int 1), (.int 1)])) _
          refine XS.icmpNo X267.here hx rfl (hb hby at_131) rfl (by decide) ?_
          show Steps _ _ _ (T267.setTop (mkF m 134 #[iv q1, iv q2, iv q3, iv 0, iv 2, iv 0, iv 1, iv 1, iv 1] [])) _
          refine XS.iconst X267.here hx rfl (hb hby at_134) ?_
          show Steps _ _ _ (T267.setTop (mkF m 135 #[iv q1, iv q2, iv q3, iv 0, iv 2, iv 0, iv 1, iv 1, iv 1] [(.int 1)])) _
          refine XS.goto X267.here hx rfl (pc0 := 135) (pc' := 139) rfl (hb hby at_135) (by decide) (by decide) ?_
          show Steps _ _ _ (T267.setTop (mkF m 139 #[iv q1, iv q2, iv q3, iv 0, iv 2, iv 0, iv 1, iv 1, iv 1] [(.int 1)])) _
          exact q
        obtain ⟨fs, hr, hrun, hended, hW, hsame⟩ := X267.leave (v := some (.int 1)) (fun h => by rw [Bd.returns] at h; cases h)
        refine ⟨_, _, k_268 _ ?_, hrun, hended, _, _, rfl, ?_, ⟨_, rfl⟩, hW, hsame.mono (by decide) (by decide)⟩
        · exact retN X267 hx (t := .boolean) Bd.returns (by simp) (hb hby at_139) hr
        · show Q0 n0 _ T267.heap _
          rw [e267]
          exact ⟨rfl, N267⟩
      · skip
        have k_269 : Go p.tables e below (s₁.setTop (entryFrame m #[(.int q1), (.int q2), (.int q3)] maxLocals)) (s₁.setTop (mkF m 112 #[iv q1, iv q2, iv q3, iv 0, iv 3, iv 0, iv 0, .unset, .unset] [(.int 0)])) := fun t q => by
          refine k0 t ?_
          refine XS.iloadN X0.here hx rfl (hb hby at_0) rfl ?_
          show Steps _ _ _ (s₁.setTop (mkF m 1 #[iv q1, iv q2, iv q3, .unset, .unset, .unset, .unset, .unset, .unset] [(.int q1)])) _
          refine XS.iconst X0.here hx rfl (hb hby at_1) ?_
          show Steps _ _ _ (s₁.setTop (mkF m 2 #[iv q1, iv q2, iv q3, .unset, .unset, .unset, .unset, .unset, .unset] [(.int 3), (.int q1)])) _
          refine XS.iand X0.here hx rfl (hb hby at_2) rfl ?_
          show Steps _ _ _ (s₁.setTop (mkF m 3 #[iv q1, iv q2, iv q3, .unset, .unset, .unset, .unset, .unset, .unset] [(.int (q1 &&& (3 : Int32)))])) _
          rw [hi]
          show Steps _ _ _ (s₁.setTop (mkF m 3 #[iv q1, iv q2, iv q3, .unset, .unset, .unset, .unset, .unset, .unset] [(.int 0)])) _
          refine XS.istoreN X0.here hx rfl (hb hby at_3) rfl (l' := #[iv q1, iv q2, iv q3, iv 0, .unset, .unset, .unset, .unset, .unset]) rfl ?_
          show Steps _ _ _ (s₁.setTop (mkF m 4 #[iv q1, iv q2, iv q3, iv 0, .unset, .unset, .unset, .unset, .unset] [])) _
          refine XS.iloadN X0.here hx rfl (hb hby at_4) rfl ?_
          show Steps _ _ _ (s₁.setTop (mkF m 5 #[iv q1, iv q2, iv q3, iv 0, .unset, .unset, .unset, .unset, .unset] [(.int q2)])) _
          refine XS.iconst X0.here hx rfl (hb hby at_5) ?_
          show Steps _ _ _ (s₁.setTop (mkF m 6 #[iv q1, iv q2, iv q3, iv 0, .unset, .unset, .unset, .unset, .unset] [(.int 3), (.int q2)])) _
          refine XS.iand X0.here hx rfl (hb hby at_6) rfl ?_
          show Steps _ _ _ (s₁.setTop (mkF m 7 #[iv q1, iv q2, iv q3, iv 0, .unset, .unset, .unset, .unset, .unset] [(.int (q2 &&& (3 : Int32)))])) _
          rw [hj]
          show Steps _ _ _ (s₁.setTop (mkF m 7 #[iv q1, iv q2, iv q3, iv 0, .unset, .unset, .unset, .unset, .unset] [(.int 3)])) _
          refine XS.istore X0.here hx rfl (hb hby at_7) rfl (l' := #[iv q1, iv q2, iv q3, iv 0, iv 3, .unset, .unset, .unset, .unset]) rfl ?_
          show Steps _ _ _ (s₁.setTop (mkF m 9 #[iv q1, iv q2, iv q3, iv 0, iv 3, .unset, .unset, .unset, .unset] [])) _
          refine XS.iloadN X0.here hx rfl (hb hby at_9) rfl ?_
          show Steps _ _ _ (s₁.setTop (mkF m 10 #[iv q1, iv q2, iv q3, iv 0, iv 3, .unset, .unset, .unset, .unset] [(.int q3)])) _
          refine XS.iconst X0.here hx rfl (hb hby at_10) ?_
          show Steps _ _ _ (s₁.setTop (mkF m 11 #[iv q1, iv q2, iv q3, iv 0, iv 3, .unset, .unset, .unset, .unset] [(.int 1), (.int q3)])) _
          refine XS.iand X0.here hx rfl (hb hby at_11) rfl ?_
          show Steps _ _ _ (s₁.setTop (mkF m 12 #[iv q1, iv q2, iv q3, iv 0, iv 3, .unset, .unset, .unset, .unset] [(.int (q3 &&& (1 : Int32)))])) _
          rw [hs]
          show Steps _ _ _ (s₁.setTop (mkF m 12 #[iv q1, iv q2, iv q3, iv 0, iv 3, .unset, .unset, .unset, .unset] [(.int 0)])) _
          refine XS.ifYes X0.here hx rfl (pc0 := 12) (pc' := 19) rfl (hb hby at_12) rfl (by decide) (by decide) (by decide) ?_
          show Steps _ _ _ (s₁.setTop (mkF m 19 #[iv q1, iv q2, iv q3, iv 0, iv 3, .unset, .unset, .unset, .unset] [])) _
          refine XS.iconst X0.here hx rfl (hb hby at_19) ?_
          show Steps _ _ _ (s₁.setTop (mkF m 20 #[iv q1, iv q2, iv q3, iv 0, iv 3, .unset, .unset, .unset, .unset] [(.int 0)])) _
          refine XS.istore X0.here hx rfl (hb hby at_20) rfl (l' := #[iv q1, iv q2, iv q3, iv 0, iv 3, iv 0, .unset, .unset, .unset]) rfl ?_
          show Steps _ _ _ (s₁.setTop (mkF m 22 #[iv q1, iv q2, iv q3, iv 0, iv 3, iv 0, .unset, .unset, .unset] [])) _
          refine XS.iloadN X0.here hx rfl (hb hby at_22) rfl ?_
          show Steps _ _ _ (s₁.setTop (mkF m 23 #[iv q1, iv q2, iv q3, iv 0, iv 3, iv 0, .unset, .unset, .unset] [(.int 0)])) _
          refine XS.iconst X0.here hx rfl (hb hby at_23) ?_
          show Steps _ _ _ (s₁.setTop (mkF m 24 #[iv q1, iv q2, iv q3, iv 0, iv 3, iv 0, .unset, .unset, .unset] [(.int 3), (.int 0)])) _
          refine XS.icmpNo X0.here hx rfl (hb hby at_24) rfl (by decide) ?_
          show Steps _ _ _ (s₁.setTop (mkF m 27 #[iv q1, iv q2, iv q3, iv 0, iv 3, iv 0, .unset, .unset, .unset] [])) _
          refine XS.iload X0.here hx rfl (hb hby at_27) rfl ?_
          show Steps _ _ _ (s₁.setTop (mkF m 29 #[iv q1, iv q2, iv q3, iv 0, iv 3, iv 0, .unset, .unset, .unset] [(.int 3)])) _
          refine XS.iconst X0.here hx rfl (hb hby at_29) ?_
          show Steps _ _ _ (s₁.setTop (mkF m 30 #[iv q1, iv q2, iv q3, iv 0, iv 3, iv 0, .unset, .unset, .unset] [(.int 3), (.int 3)])) _
          refine XS.icmpNo X0.here hx rfl (hb hby at_30) rfl (by decide) ?_
          show Steps _ _ _ (s₁.setTop (mkF m 33 #[iv q1, iv q2, iv q3, iv 0, iv 3, iv 0, .unset, .unset, .unset] [])) _
          refine XS.iconst X0.here hx rfl (hb hby at_33) ?_
          show Steps _ _ _ (s₁.setTop (mkF m 34 #[iv q1, iv q2, iv q3, iv 0, iv 3, iv 0, .unset, .unset, .unset] [(.int 0)])) _
          refine XS.istore X0.here hx rfl (hb hby at_34) rfl (l' := #[iv q1, iv q2, iv q3, iv 0, iv 3, iv 0, iv 0, .unset, .unset]) rfl ?_
          show Steps _ _ _ (s₁.setTop (mkF m 36 #[iv q1, iv q2, iv q3, iv 0, iv 3, iv 0, iv 0, .unset, .unset] [])) _
          refine XS.goto X0.here hx rfl (pc0 := 36) (pc' := 111) rfl (hb hby at_36) (by decide) (by decide) ?_
          show Steps _ _ _ (s₁.setTop (mkF m 111 #[iv q1, iv q2, iv q3, iv 0, iv 3, iv 0, iv 0, .unset, .unset] [])) _
          refine XS.iloadN X0.here hx rfl (hb hby at_111) rfl ?_
          show Steps _ _ _ (s₁.setTop (mkF m 112 #[iv q1, iv q2, iv q3, iv 0, iv 3, iv 0, iv 0, .unset, .unset] [(.int 0)])) _
          exact q
        obtain ⟨_, _, ⟨T270, L270, k270, n270⟩, -, X270, ⟨Lc270, hQ270, l270, y270, z270⟩, st270⟩ := Jvm.LawKit.callS X0 hx (y := y_2) hown (mvT hZ (hw _ (wd 0 rfl))) (mvT hZ (hw _ (wd 1 rfl))) (mvT hZ (hw _ (wd 2 rfl))) (mvT hZ (hw _ (wd 3 rfl))) (by decide) (backOf (W := 0) (kd l Z a0 hw [] a_NEXT_KEY a_GAP a_RECORD a_INSERT_INTENTION G (0 : Int32) 0 h0 n0 O0 (Or.inl ⟨by decide, rfl⟩)) hZ (hw _ (wd 3 rfl)) (hw _ (wd 2 rfl)) (by decide) (by decide)) (g := (mkF m 112 #[iv q1, iv q2, iv q3, iv 0, iv 3, iv 0, iv 0, .unset, .unset] [(.int 0)])) rfl (by rw [hml]; rfl) (argsL := [(.int 0)]) (rest := []) (lenOf pd_1 rfl) rfl (by show 2 * 0 + _ ≤ _; exact Nat.le_of_eq rfl) (hb hby at_112) (fun _ _ => ⟨rfl, e0, (by decide : 0 + 1 ≤ _), (by decide : 0 + 4 ≤ _)⟩)
        dsimp only [Pt.U, Pt.locs, Pt.cells, Pt.slots] at X270 l270 y270 z270 st270 hQ270
        subst l270 y270 z270
        obtain ⟨rfl, N270q, K270⟩ := hQ270
        have N270 := Fr.app N0 N270q
        have O_271 := O0.keep K270 all0
        have K_272 := K0.trans K270 all0
        have k_273 : Go p.tables e below (s₁.setTop (entryFrame m #[(.int q1), (.int q2), (.int q3)] maxLocals)) (T270.setTop (mkF m 117 #[iv q1, iv q2, iv q3, iv 0, iv 3, iv 0, iv 0, .unset, .unset] [(.int 3), (.ref a_NEXT_KEY)])) := fun t q => by
          refine k_269 t ?_
          refine st270 _ ?_
          show Steps _ _ _ (T270.setTop (mkF m 115 #[iv q1, iv q2, iv q3, iv 0, iv 3, iv 0, iv 0, .unset, .unset] [(.ref a_NEXT_KEY)])) _
          refine XS.iload X270.here hx rfl (hb hby at_115) rfl ?_
          show Steps _ _ _ (T270.setTop (mkF m 117 #[iv q1, iv q2, iv q3, iv 0, iv 3, iv 0, iv 0, .unset, .unset] [(.int 3), (.ref a_NEXT_KEY)])) _
          exact q
        obtain ⟨_, _, ⟨T274, L274, k274, n274⟩, -, X274, ⟨Lc274, hQ274, l274, y274, z274⟩, st274⟩ := Jvm.LawKit.callS X270 hx (y := y_2) hown (mvT hZ (hw _ (wd 0 rfl))) (mvT hZ (hw _ (wd 1 rfl))) (mvT hZ (hw _ (wd 2 rfl))) (mvT hZ (hw _ (wd 3 rfl))) (by decide) (backOf (W := 1) (kd l Z a0 hw [] a_NEXT_KEY a_GAP a_RECORD a_INSERT_INTENTION G (3 : Int32) 3 T270.heap n0 O_271 (Or.inr (Or.inr (Or.inr ⟨by decide, rfl⟩)))) hZ (hw _ (wd 3 rfl)) (hw _ (wd 2 rfl)) (by decide) (by decide)) (g := (mkF m 117 #[iv q1, iv q2, iv q3, iv 0, iv 3, iv 0, iv 0, .unset, .unset] [(.int 3), (.ref a_NEXT_KEY)])) rfl (by rw [hml]; rfl) (argsL := [(.int 3)]) (rest := [(.ref a_NEXT_KEY)]) (lenOf pd_1 rfl) rfl (by show 2 * 0 + _ ≤ _; exact Nat.le_of_eq rfl) (hb hby at_117) (fun _ _ => ⟨rfl, (rfl : T270.heap = _), (by decide : 1 + 1 ≤ _), (by decide : 4 + 4 ≤ _)⟩)
        dsimp only [Pt.U, Pt.locs, Pt.cells, Pt.slots] at X274 l274 y274 z274 st274 hQ274
        subst l274 y274 z274
        obtain ⟨rfl, N274q, K274⟩ := hQ274
        have N274 := Fr.app N270 N274q
        have O_275 := O_271.keep K274 all0
        have K_276 := K_272.trans K274 all0
        have k_277 : Go p.tables e below (s₁.setTop (entryFrame m #[(.int q1), (.int q2), (.int q3)] maxLocals)) (T274.setTop (mkF m 122 #[iv q1, iv q2, iv q3, iv 0, iv 3, iv 0, iv 0, .unset, .unset] [(.int 0), (.ref a_INSERT_INTENTION), (.ref a_NEXT_KEY)])) := fun t q => by
          refine k_273 t ?_
          refine st274 _ ?_
          show Steps _ _ _ (T274.setTop (mkF m 120 #[iv q1, iv q2, iv q3, iv 0, iv 3, iv 0, iv 0, .unset, .unset] [(.ref a_INSERT_INTENTION), (.ref a_NEXT_KEY)])) _
          refine XS.iload X274.here hx rfl (hb hby at_120) rfl ?_
          show Steps _ _ _ (T274.setTop (mkF m 122 #[iv q1, iv q2, iv q3, iv 0, iv 3, iv 0, iv 0, .unset, .unset] [(.int 0), (.ref a_INSERT_INTENTION), (.ref a_NEXT_KEY)])) _
          exact q
        obtain ⟨cq278, kq278, q278a, q278b, q278c⟩ := isOf hZ (rfl : T274.heap = _) (Exa.ext O_275.2 E_NEXT_KEY)
        obtain ⟨_, _, ⟨T278, L278, k278, n278⟩, -, X278, ⟨Lc278, hQ278, l278, y278, z278⟩, st278⟩ := X274.virtualBack hx (y := y_3) (z := y_3) hown (mvT hZ (hw _ (wd 16 rfl))) (mvT hZ (hw _ (wd 17 rfl))) (notFace_of_selects (args := #[]) (mvT hZ (hw _ (wd 19 rfl)))) (mvT hZ (hw _ (wd 19 rfl))) (mvT hZ (hw _ (wd 18 rfl))) (by decide) (backOf (W := 0) (cv_0_3_0 l Z a0 hw [] a_NEXT_KEY a_GAP a_RECORD a_INSERT_INTENTION G  T274.heap n0 O_275 ) hZ (hw _ (wd 20 rfl)) (hw _ (wd 7 rfl)) (by decide) (by decide)) q278a q278c (g := (mkF m 122 #[iv q1, iv q2, iv q3, iv 0, iv 3, iv 0, iv 0, .unset, .unset] [(.int 0), (.ref a_INSERT_INTENTION), (.ref a_NEXT_KEY)])) rfl (by rw [hml]; rfl) (Steps.refl _) (argsL := [(.ref a_INSERT_INTENTION), (.int 0)]) (rest := []) (lenOf pd_2 rfl) rfl (by show 2 * 0 + _ ≤ _; exact Nat.le_of_eq rfl) (hb hby at_122) (fun _ _ => ⟨rfl, (rfl : T274.heap = _), (by decide : 2 + 0 ≤ _), (by decide : 8 + 0 ≤ _)⟩)
        dsimp only [Pt.U, Pt.locs, Pt.cells, Pt.slots] at X278 l278 y278 z278 st278 hQ278
        subst l278 y278 z278
        obtain ⟨rfl, N278q, e278⟩ := hQ278
        have N278 := Fr.app N274 N278q
        have k_279 : Go p.tables e below (s₁.setTop (entryFrame m #[(.int q1), (.int q2), (.int q3)] maxLocals)) (T278.setTop (mkF m 139 #[iv q1, iv q2, iv q3, iv 0, iv 3, iv 0, iv 0, iv 0, .unset] [(.int 1)])) := fun t q => by
          refine k_277 t ?_
          refine st278.trans ?_
          show Steps _ _ _ (T278.setTop (mkF m 125 #[iv q1, iv q2, iv q3, iv 0, iv 3, iv 0, iv 0, .unset, .unset] [(.int 0)])) _
          refine XS.istore X278.here hx rfl (hb hby at_125) rfl (l' := #[iv q1, iv q2, iv q3, iv 0, iv 3, iv 0, iv 0, iv 0, .unset]) rfl ?_
          show Steps _ _ _ (T278.setTop (mkF m 127 #[iv q1, iv q2, iv q3, iv 0, iv 3, iv 0, iv 0, iv 0, .unset] [])) _
          refine XS.iload X278.here hx rfl (hb hby at_127) rfl ?_
          show Steps _ _ _ (T278.setTop (mkF m 129 #[iv q1, iv q2, iv q3, iv 0, iv 3, iv 0, iv 0, iv 0, .unset] [(.int 0)])) _
          refine XS.iload X278.here hx rfl (hb hby at_129) rfl ?_
          show Steps _ _ _ (T278.setTop (mkF m 131 #[iv q1, iv q2, iv q3, iv 0, iv 3, iv 0, iv 0, iv 0, .unset] [(.int 0), (.int 0)])) _
          refine XS.icmpNo X278.here hx rfl (hb hby at_131) rfl (by decide) ?_
          show Steps _ _ _ (T278.setTop (mkF m 134 #[iv q1, iv q2, iv q3, iv 0, iv 3, iv 0, iv 0, iv 0, .unset] [])) _
          refine XS.iconst X278.here hx rfl (hb hby at_134) ?_
          show Steps _ _ _ (T278.setTop (mkF m 135 #[iv q1, iv q2, iv q3, iv 0, iv 3, iv 0, iv 0, iv 0, .unset] [(.int 1)])) _
          refine XS.goto X278.here hx rfl (pc0 := 135) (pc' := 139) rfl (hb hby at_135) (by decide) (by decide) ?_
          show Steps _ _ _ (T278.setTop (mkF m 139 #[iv q1, iv q2, iv q3, iv 0, iv 3, iv 0, iv 0, iv 0, .unset] [(.int 1)])) _
          exact q
        obtain ⟨fs, hr, hrun, hended, hW, hsame⟩ := X278.leave (v := some (.int 1)) (fun h => by rw [Bd.returns] at h; cases h)
        refine ⟨_, _, k_279 _ ?_, hrun, hended, _, _, rfl, ?_, ⟨_, rfl⟩, hW, hsame.mono (by decide) (by decide)⟩
        · exact retN X278 hx (t := .boolean) Bd.returns (by simp) (hb hby at_139) hr
        · show Q0 n0 _ T278.heap _
          rw [e278]
          exact ⟨rfl, N278⟩
    · skip
      rcases own_mask_4 q2 with hj | hj | hj | hj
      · skip
        have k_280 : Go p.tables e below (s₁.setTop (entryFrame m #[(.int q1), (.int q2), (.int q3)] maxLocals)) (s₁.setTop (mkF m 52 #[iv q1, iv q2, iv q3, iv 1, iv 0, iv 0, .unset, .unset, .unset] [(.int 0)])) := fun t q => by
          refine k0 t ?_
          refine XS.iloadN X0.here hx rfl (hb hby at_0) rfl ?_
          show Steps _ _ _ (s₁.setTop (mkF m 1 #[iv q1, iv q2, iv q3, .unset, .unset, .unset, .unset, .unset, .unset] [(.int q1)])) _
          refine XS.iconst X0.here hx rfl (hb hby at_1) ?_
          show Steps _ _ _ (s₁.setTop (mkF m 2 #[iv q1, iv q2, iv q3, .unset, .unset, .unset, .unset, .unset, .unset] [(.int 3), (.int q1)])) _
          refine XS.iand X0.here hx rfl (hb hby at_2) rfl ?_
          show Steps _ _ _ (s₁.setTop (mkF m 3 #[iv q1, iv q2, iv q3, .unset, .unset, .unset, .unset, .unset, .unset] [(.int (q1 &&& (3 : Int32)))])) _
          rw [hi]
          show Steps _ _ _ (s₁.setTop (mkF m 3 #[iv q1, iv q2, iv q3, .unset, .unset, .unset, .unset, .unset, .unset] [(.int 1)])) _
          refine XS.istoreN X0.here hx rfl (hb hby at_3) rfl (l' := #[iv q1, iv q2, iv q3, iv 1, .unset, .unset, .unset, .unset, .unset]) rfl ?_
          show Steps _ _ _ (s₁.setTop (mkF m 4 #[iv q1, iv q2, iv q3, iv 1, .unset, .unset, .unset, .unset, .unset] [])) _
          refine XS.iloadN X0.here hx rfl (hb hby at_4) rfl ?_
          show Steps _ _ _ (s₁.setTop (mkF m 5 #[iv q1, iv q2, iv q3, iv 1, .unset, .unset, .unset, .unset, .unset] [(.int q2)])) _
          refine XS.iconst X0.here hx rfl (hb hby at_5) ?_
          show Steps _ _ _ (s₁.setTop (mkF m 6 #[iv q1, iv q2, iv q3, iv 1, .unset, .unset, .unset, .unset, .unset] [(.int 3), (.int q2)])) _
          refine XS.iand X0.here hx rfl (hb hby at_6) rfl ?_
          show Steps _ _ _ (s₁.setTop (mkF m 7 #[iv q1, iv q2, iv q3, iv 1, .unset, .unset, .unset, .unset, .unset] [(.int (q2 &&& (3 : Int32)))])) _
          rw [hj]
          show Steps _ _ _ (s₁.setTop (mkF m 7 #[iv q1, iv q2, iv q3, iv 1, .unset, .unset, .unset, .unset, .unset] [(.int 0)])) _
          refine XS.istore X0.here hx rfl (hb hby at_7) rfl (l' := #[iv q1, iv q2, iv q3, iv 1, iv 0, .unset, .unset, .unset, .unset]) rfl ?_
          show Steps _ _ _ (s₁.setTop (mkF m 9 #[iv q1, iv q2, iv q3, iv 1, iv 0, .unset, .unset, .unset, .unset] [])) _
          refine XS.iloadN X0.here hx rfl (hb hby at_9) rfl ?_
          show Steps _ _ _ (s₁.setTop (mkF m 10 #[iv q1, iv q2, iv q3, iv 1, iv 0, .unset, .unset, .unset, .unset] [(.int q3)])) _
          refine XS.iconst X0.here hx rfl (hb hby at_10) ?_
          show Steps _ _ _ (s₁.setTop (mkF m 11 #[iv q1, iv q2, iv q3, iv 1, iv 0, .unset, .unset, .unset, .unset] [(.int 1), (.int q3)])) _
          refine XS.iand X0.here hx rfl (hb hby at_11) rfl ?_
          show Steps _ _ _ (s₁.setTop (mkF m 12 #[iv q1, iv q2, iv q3, iv 1, iv 0, .unset, .unset, .unset, .unset] [(.int (q3 &&& (1 : Int32)))])) _
          rw [hs]
          show Steps _ _ _ (s₁.setTop (mkF m 12 #[iv q1, iv q2, iv q3, iv 1, iv 0, .unset, .unset, .unset, .unset] [(.int 0)])) _
          refine XS.ifYes X0.here hx rfl (pc0 := 12) (pc' := 19) rfl (hb hby at_12) rfl (by decide) (by decide) (by decide) ?_
          show Steps _ _ _ (s₁.setTop (mkF m 19 #[iv q1, iv q2, iv q3, iv 1, iv 0, .unset, .unset, .unset, .unset] [])) _
          refine XS.iconst X0.here hx rfl (hb hby at_19) ?_
          show Steps _ _ _ (s₁.setTop (mkF m 20 #[iv q1, iv q2, iv q3, iv 1, iv 0, .unset, .unset, .unset, .unset] [(.int 0)])) _
          refine XS.istore X0.here hx rfl (hb hby at_20) rfl (l' := #[iv q1, iv q2, iv q3, iv 1, iv 0, iv 0, .unset, .unset, .unset]) rfl ?_
          show Steps _ _ _ (s₁.setTop (mkF m 22 #[iv q1, iv q2, iv q3, iv 1, iv 0, iv 0, .unset, .unset, .unset] [])) _
          refine XS.iloadN X0.here hx rfl (hb hby at_22) rfl ?_
          show Steps _ _ _ (s₁.setTop (mkF m 23 #[iv q1, iv q2, iv q3, iv 1, iv 0, iv 0, .unset, .unset, .unset] [(.int 1)])) _
          refine XS.iconst X0.here hx rfl (hb hby at_23) ?_
          show Steps _ _ _ (s₁.setTop (mkF m 24 #[iv q1, iv q2, iv q3, iv 1, iv 0, iv 0, .unset, .unset, .unset] [(.int 3), (.int 1)])) _
          refine XS.icmpNo X0.here hx rfl (hb hby at_24) rfl (by decide) ?_
          show Steps _ _ _ (s₁.setTop (mkF m 27 #[iv q1, iv q2, iv q3, iv 1, iv 0, iv 0, .unset, .unset, .unset] [])) _
          refine XS.iload X0.here hx rfl (hb hby at_27) rfl ?_
          show Steps _ _ _ (s₁.setTop (mkF m 29 #[iv q1, iv q2, iv q3, iv 1, iv 0, iv 0, .unset, .unset, .unset] [(.int 0)])) _
          refine XS.iconst X0.here hx rfl (hb hby at_29) ?_
          show Steps _ _ _ (s₁.setTop (mkF m 30 #[iv q1, iv q2, iv q3, iv 1, iv 0, iv 0, .unset, .unset, .unset] [(.int 3), (.int 0)])) _
          refine XS.icmpYes X0.here hx rfl (pc0 := 30) (pc' := 39) rfl (hb hby at_30) rfl (by decide) (by decide) (by decide) ?_
          show Steps _ _ _ (s₁.setTop (mkF m 39 #[iv q1, iv q2, iv q3, iv 1, iv 0, iv 0, .unset, .unset, .unset] [])) _
          refine XS.iload X0.here hx rfl (hb hby at_39) rfl ?_
          show Steps _ _ _ (s₁.setTop (mkF m 41 #[iv q1, iv q2, iv q3, iv 1, iv 0, iv 0, .unset, .unset, .unset] [(.int 0)])) _
          refine XS.ifYes X0.here hx rfl (pc0 := 41) (pc' := 50) rfl (hb hby at_41) rfl (by decide) (by decide) (by decide) ?_
          show Steps _ _ _ (s₁.setTop (mkF m 50 #[iv q1, iv q2, iv q3, iv 1, iv 0, iv 0, .unset, .unset, .unset] [])) _
          refine XS.iload X0.here hx rfl (hb hby at_50) rfl ?_
          show Steps _ _ _ (s₁.setTop (mkF m 52 #[iv q1, iv q2, iv q3, iv 1, iv 0, iv 0, .unset, .unset, .unset] [(.int 0)])) _
          exact q
        obtain ⟨_, _, ⟨T281, L281, k281, n281⟩, -, X281, ⟨Lc281, hQ281, l281, y281, z281⟩, st281⟩ := Jvm.LawKit.callS X0 hx (y := y_0) hown (mvT hZ (hw _ (wd 22 rfl))) (mvT hZ (hw _ (wd 23 rfl))) (mvT hZ (hw _ (wd 2 rfl))) (mvT hZ (hw _ (wd 24 rfl))) (by decide) (backOf (W := 0) (hr_0 l Z a0 hw [] a_NEXT_KEY a_GAP a_RECORD a_INSERT_INTENTION G  h0 n0 O0 ) hZ (hw _ (wd 24 rfl)) (hw _ (wd 2 rfl)) (by decide) (by decide)) (g := (mkF m 52 #[iv q1, iv q2, iv q3, iv 1, iv 0, iv 0, .unset, .unset, .unset] [(.int 0)])) rfl (by rw [hml]; rfl) (argsL := [(.int 0)]) (rest := []) (lenOf pd_0 rfl) rfl (by show 2 * 0 + _ ≤ _; exact Nat.le_of_eq rfl) (hb hby at_52) (fun _ _ => ⟨rfl, e0, (by decide : 0 + 0 ≤ _), (by decide : 0 + 0 ≤ _)⟩)
        dsimp only [Pt.U, Pt.locs, Pt.cells, Pt.slots] at X281 l281 y281 z281 st281 hQ281
        subst l281 y281 z281
        obtain ⟨rfl, N281q, e281⟩ := hQ281
        have N281 := Fr.app N0 N281q
        have k_282 : Go p.tables e below (s₁.setTop (entryFrame m #[(.int q1), (.int q2), (.int q3)] maxLocals)) (T281.setTop (mkF m 59 #[iv q1, iv q2, iv q3, iv 1, iv 0, iv 0, .unset, .unset, .unset] [(.int 1)])) := fun t q => by
          refine k_280 t ?_
          refine st281 _ ?_
          show Steps _ _ _ (T281.setTop (mkF m 55 #[iv q1, iv q2, iv q3, iv 1, iv 0, iv 0, .unset, .unset, .unset] [(.int 1)])) _
          refine XS.ifNo X281.here hx rfl (hb hby at_55) rfl (by decide) ?_
          show Steps _ _ _ (T281.setTop (mkF m 58 #[iv q1, iv q2, iv q3, iv 1, iv 0, iv 0, .unset, .unset, .unset] [])) _
          refine XS.iloadN X281.here hx rfl (hb hby at_58) rfl ?_
          show Steps _ _ _ (T281.setTop (mkF m 59 #[iv q1, iv q2, iv q3, iv 1, iv 0, iv 0, .unset, .unset, .unset] [(.int 1)])) _
          exact q
        obtain ⟨_, _, ⟨T283, L283, k283, n283⟩, -, X283, ⟨Lc283, hQ283, l283, y283, z283⟩, st283⟩ := Jvm.LawKit.callS X281 hx (y := y_0) hown (mvT hZ (hw _ (wd 22 rfl))) (mvT hZ (hw _ (wd 23 rfl))) (mvT hZ (hw _ (wd 2 rfl))) (mvT hZ (hw _ (wd 24 rfl))) (by decide) (backOf (W := 0) (hr_1 l Z a0 hw [] a_NEXT_KEY a_GAP a_RECORD a_INSERT_INTENTION G  h0 n0 O0 ) hZ (hw _ (wd 24 rfl)) (hw _ (wd 2 rfl)) (by decide) (by decide)) (g := (mkF m 59 #[iv q1, iv q2, iv q3, iv 1, iv 0, iv 0, .unset, .unset, .unset] [(.int 1)])) rfl (by rw [hml]; rfl) (argsL := [(.int 1)]) (rest := []) (lenOf pd_0 rfl) rfl (by show 2 * 0 + _ ≤ _; exact Nat.le_of_eq rfl) (hb hby at_59) (fun _ _ => ⟨rfl, e281, (by decide : 0 + 0 ≤ _), (by decide : 0 + 0 ≤ _)⟩)
        dsimp only [Pt.U, Pt.locs, Pt.cells, Pt.slots] at X283 l283 y283 z283 st283 hQ283
        subst l283 y283 z283
        obtain ⟨rfl, N283q, e283⟩ := hQ283
        have N283 := Fr.app N281 N283q
        have k_284 : Go p.tables e below (s₁.setTop (entryFrame m #[(.int q1), (.int q2), (.int q3)] maxLocals)) (T283.setTop (mkF m 74 #[iv q1, iv q2, iv q3, iv 1, iv 0, iv 0, .unset, iv 0, .unset] [(.int 0)])) := fun t q => by
          refine k_282 t ?_
          refine st283 _ ?_
          show Steps _ _ _ (T283.setTop (mkF m 62 #[iv q1, iv q2, iv q3, iv 1, iv 0, iv 0, .unset, .unset, .unset] [(.int 0)])) _
          refine XS.ifYes X283.here hx rfl (pc0 := 62) (pc' := 69) rfl (hb hby at_62) rfl (by decide) (by decide) (by decide) ?_
          show Steps _ _ _ (T283.setTop (mkF m 69 #[iv q1, iv q2, iv q3, iv 1, iv 0, iv 0, .unset, .unset, .unset] [])) _
          refine XS.iconst X283.here hx rfl (hb hby at_69) ?_
          show Steps _ _ _ (T283.setTop (mkF m 70 #[iv q1, iv q2, iv q3, iv 1, iv 0, iv 0, .unset, .unset, .unset] [(.int 0)])) _
          refine XS.istore X283.here hx rfl (hb hby at_70) rfl (l' := #[iv q1, iv q2, iv q3, iv 1, iv 0, iv 0, .unset, iv 0, .unset]) rfl ?_
          show Steps _ _ _ (T283.setTop (mkF m 72 #[iv q1, iv q2, iv q3, iv 1, iv 0, iv 0, .unset, iv 0, .unset] [])) _
          refine XS.iload X283.here hx rfl (hb hby at_72) rfl ?_
          show Steps _ _ _ (T283.setTop (mkF m 74 #[iv q1, iv q2, iv q3, iv 1, iv 0, iv 0, .unset, iv 0, .unset] [(.int 0)])) _
          exact q
        obtain ⟨_, _, ⟨T285, L285, k285, n285⟩, -, X285, ⟨Lc285, hQ285, l285, y285, z285⟩, st285⟩ := Jvm.LawKit.callS X283 hx (y := y_1) hown (mvT hZ (hw _ (wd 25 rfl))) (mvT hZ (hw _ (wd 26 rfl))) (mvT hZ (hw _ (wd 2 rfl))) (mvT hZ (hw _ (wd 27 rfl))) (by decide) (backOf (W := 0) (hg_0 l Z a0 hw [] a_NEXT_KEY a_GAP a_RECORD a_INSERT_INTENTION G  h0 n0 O0 ) hZ (hw _ (wd 27 rfl)) (hw _ (wd 2 rfl)) (by decide) (by decide)) (g := (mkF m 74 #[iv q1, iv q2, iv q3, iv 1, iv 0, iv 0, .unset, iv 0, .unset] [(.int 0)])) rfl (by rw [hml]; rfl) (argsL := [(.int 0)]) (rest := []) (lenOf pd_0 rfl) rfl (by show 2 * 0 + _ ≤ _; exact Nat.le_of_eq rfl) (hb hby at_74) (fun _ _ => ⟨rfl, e283, (by decide : 0 + 0 ≤ _), (by decide : 0 + 0 ≤ _)⟩)
        dsimp only [Pt.U, Pt.locs, Pt.cells, Pt.slots] at X285 l285 y285 z285 st285 hQ285
        subst l285 y285 z285
        obtain ⟨rfl, N285q, e285⟩ := hQ285
        have N285 := Fr.app N283 N285q
        have k_286 : Go p.tables e below (s₁.setTop (entryFrame m #[(.int q1), (.int q2), (.int q3)] maxLocals)) (T285.setTop (mkF m 81 #[iv q1, iv q2, iv q3, iv 1, iv 0, iv 0, .unset, iv 0, .unset] [(.int 1)])) := fun t q => by
          refine k_284 t ?_
          refine st285 _ ?_
          show Steps _ _ _ (T285.setTop (mkF m 77 #[iv q1, iv q2, iv q3, iv 1, iv 0, iv 0, .unset, iv 0, .unset] [(.int 1)])) _
          refine XS.ifNo X285.here hx rfl (hb hby at_77) rfl (by decide) ?_
          show Steps _ _ _ (T285.setTop (mkF m 80 #[iv q1, iv q2, iv q3, iv 1, iv 0, iv 0, .unset, iv 0, .unset] [])) _
          refine XS.iloadN X285.here hx rfl (hb hby at_80) rfl ?_
          show Steps _ _ _ (T285.setTop (mkF m 81 #[iv q1, iv q2, iv q3, iv 1, iv 0, iv 0, .unset, iv 0, .unset] [(.int 1)])) _
          exact q
        obtain ⟨_, _, ⟨T287, L287, k287, n287⟩, -, X287, ⟨Lc287, hQ287, l287, y287, z287⟩, st287⟩ := Jvm.LawKit.callS X285 hx (y := y_1) hown (mvT hZ (hw _ (wd 25 rfl))) (mvT hZ (hw _ (wd 26 rfl))) (mvT hZ (hw _ (wd 2 rfl))) (mvT hZ (hw _ (wd 27 rfl))) (by decide) (backOf (W := 0) (hg_1 l Z a0 hw [] a_NEXT_KEY a_GAP a_RECORD a_INSERT_INTENTION G  h0 n0 O0 ) hZ (hw _ (wd 27 rfl)) (hw _ (wd 2 rfl)) (by decide) (by decide)) (g := (mkF m 81 #[iv q1, iv q2, iv q3, iv 1, iv 0, iv 0, .unset, iv 0, .unset] [(.int 1)])) rfl (by rw [hml]; rfl) (argsL := [(.int 1)]) (rest := []) (lenOf pd_0 rfl) rfl (by show 2 * 0 + _ ≤ _; exact Nat.le_of_eq rfl) (hb hby at_81) (fun _ _ => ⟨rfl, e285, (by decide : 0 + 0 ≤ _), (by decide : 0 + 0 ≤ _)⟩)
        dsimp only [Pt.U, Pt.locs, Pt.cells, Pt.slots] at X287 l287 y287 z287 st287 hQ287
        subst l287 y287 z287
        obtain ⟨rfl, N287q, e287⟩ := hQ287
        have N287 := Fr.app N285 N287q
        have k_288 : Go p.tables e below (s₁.setTop (entryFrame m #[(.int q1), (.int q2), (.int q3)] maxLocals)) (T287.setTop (mkF m 112 #[iv q1, iv q2, iv q3, iv 1, iv 0, iv 0, iv 0, iv 0, iv 1] [(.int 1)])) := fun t q => by
          refine k_286 t ?_
          refine st287 _ ?_
          show Steps _ _ _ (T287.setTop (mkF m 84 #[iv q1, iv q2, iv q3, iv 1, iv 0, iv 0, .unset, iv 0, .unset] [(.int 1)])) _
          refine XS.ifNo X287.here hx rfl (hb hby at_84) rfl (by decide) ?_
          show Steps _ _ _ (T287.setTop (mkF m 87 #[iv q1, iv q2, iv q3, iv 1, iv 0, iv 0, .unset, iv 0, .unset] [])) _
          refine XS.iconst X287.here hx rfl (hb hby at_87) ?_
          show Steps _ _ _ (T287.setTop (mkF m 88 #[iv q1, iv q2, iv q3, iv 1, iv 0, iv 0, .unset, iv 0, .unset] [(.int 1)])) _
          refine XS.goto X287.here hx rfl (pc0 := 88) (pc' := 92) rfl (hb hby at_88) (by decide) (by decide) ?_
          show Steps _ _ _ (T287.setTop (mkF m 92 #[iv q1, iv q2, iv q3, iv 1, iv 0, iv 0, .unset, iv 0, .unset] [(.int 1)])) _
          refine XS.istore X287.here hx rfl (hb hby at_92) rfl (l' := #[iv q1, iv q2, iv q3, iv 1, iv 0, iv 0, .unset, iv 0, iv 1]) rfl ?_
          show Steps _ _ _ (T287.setTop (mkF m 94 #[iv q1, iv q2, iv q3, iv 1, iv 0, iv 0, .unset, iv 0, iv 1] [])) _
          refine XS.iload X287.here hx rfl (hb hby at_94) rfl ?_
          show Steps _ _ _ (T287.setTop (mkF m 96 #[iv q1, iv q2, iv q3, iv 1, iv 0, iv 0, .unset, iv 0, iv 1] [(.int 0)])) _
          refine XS.ifYes X287.here hx rfl (pc0 := 96) (pc' := 108) rfl (hb hby at_96) rfl (by decide) (by decide) (by decide) ?_
          show Steps _ _ _ (T287.setTop (mkF m 108 #[iv q1, iv q2, iv q3, iv 1, iv 0, iv 0, .unset, iv 0, iv 1] [])) _
          refine XS.iconst X287.here hx rfl (hb hby at_108) ?_
          show Steps _ _ _ (T287.setTop (mkF m 109 #[iv q1, iv q2, iv q3, iv 1, iv 0, iv 0, .unset, iv 0, iv 1] [(.int 0)])) _
          refine XS.istore X287.here hx rfl (hb hby at_109) rfl (l' := #[iv q1, iv q2, iv q3, iv 1, iv 0, iv 0, iv 0, iv 0, iv 1]) rfl ?_
          show Steps _ _ _ (T287.setTop (mkF m 111 #[iv q1, iv q2, iv q3, iv 1, iv 0, iv 0, iv 0, iv 0, iv 1] [])) _
          refine XS.iloadN X287.here hx rfl (hb hby at_111) rfl ?_
          show Steps _ _ _ (T287.setTop (mkF m 112 #[iv q1, iv q2, iv q3, iv 1, iv 0, iv 0, iv 0, iv 0, iv 1] [(.int 1)])) _
          exact q
        obtain ⟨_, _, ⟨T289, L289, k289, n289⟩, -, X289, ⟨Lc289, hQ289, l289, y289, z289⟩, st289⟩ := Jvm.LawKit.callS X287 hx (y := y_2) hown (mvT hZ (hw _ (wd 0 rfl))) (mvT hZ (hw _ (wd 1 rfl))) (mvT hZ (hw _ (wd 2 rfl))) (mvT hZ (hw _ (wd 3 rfl))) (by decide) (backOf (W := 0) (kd l Z a0 hw [] a_NEXT_KEY a_GAP a_RECORD a_INSERT_INTENTION G (1 : Int32) 1 h0 n0 O0 (Or.inr (Or.inl ⟨by decide, rfl⟩))) hZ (hw _ (wd 3 rfl)) (hw _ (wd 2 rfl)) (by decide) (by decide)) (g := (mkF m 112 #[iv q1, iv q2, iv q3, iv 1, iv 0, iv 0, iv 0, iv 0, iv 1] [(.int 1)])) rfl (by rw [hml]; rfl) (argsL := [(.int 1)]) (rest := []) (lenOf pd_1 rfl) rfl (by show 2 * 0 + _ ≤ _; exact Nat.le_of_eq rfl) (hb hby at_112) (fun _ _ => ⟨rfl, e287, (by decide : 0 + 1 ≤ _), (by decide : 0 + 4 ≤ _)⟩)
        dsimp only [Pt.U, Pt.locs, Pt.cells, Pt.slots] at X289 l289 y289 z289 st289 hQ289
        subst l289 y289 z289
        obtain ⟨rfl, N289q, K289⟩ := hQ289
        have N289 := Fr.app N287 N289q
        have O_290 := O0.keep K289 all0
        have K_291 := K0.trans K289 all0
        have k_292 : Go p.tables e below (s₁.setTop (entryFrame m #[(.int q1), (.int q2), (.int q3)] maxLocals)) (T289.setTop (mkF m 117 #[iv q1, iv q2, iv q3, iv 1, iv 0, iv 0, iv 0, iv 0, iv 1] [(.int 0), (.ref a_GAP)])) := fun t q => by
          refine k_288 t ?_
          refine st289 _ ?_
          show Steps _ _ _ (T289.setTop (mkF m 115 #[iv q1, iv q2, iv q3, iv 1, iv 0, iv 0, iv 0, iv 0, iv 1] [(.ref a_GAP)])) _
          refine XS.iload X289.here hx rfl (hb hby at_115) rfl ?_
          show Steps _ _ _ (T289.setTop (mkF m 117 #[iv q1, iv q2, iv q3, iv 1, iv 0, iv 0, iv 0, iv 0, iv 1] [(.int 0), (.ref a_GAP)])) _
          exact q
        obtain ⟨_, _, ⟨T293, L293, k293, n293⟩, -, X293, ⟨Lc293, hQ293, l293, y293, z293⟩, st293⟩ := Jvm.LawKit.callS X289 hx (y := y_2) hown (mvT hZ (hw _ (wd 0 rfl))) (mvT hZ (hw _ (wd 1 rfl))) (mvT hZ (hw _ (wd 2 rfl))) (mvT hZ (hw _ (wd 3 rfl))) (by decide) (backOf (W := 1) (kd l Z a0 hw [] a_NEXT_KEY a_GAP a_RECORD a_INSERT_INTENTION G (0 : Int32) 0 T289.heap n0 O_290 (Or.inl ⟨by decide, rfl⟩)) hZ (hw _ (wd 3 rfl)) (hw _ (wd 2 rfl)) (by decide) (by decide)) (g := (mkF m 117 #[iv q1, iv q2, iv q3, iv 1, iv 0, iv 0, iv 0, iv 0, iv 1] [(.int 0), (.ref a_GAP)])) rfl (by rw [hml]; rfl) (argsL := [(.int 0)]) (rest := [(.ref a_GAP)]) (lenOf pd_1 rfl) rfl (by show 2 * 0 + _ ≤ _; exact Nat.le_of_eq rfl) (hb hby at_117) (fun _ _ => ⟨rfl, (rfl : T289.heap = _), (by decide : 1 + 1 ≤ _), (by decide : 4 + 4 ≤ _)⟩)
        dsimp only [Pt.U, Pt.locs, Pt.cells, Pt.slots] at X293 l293 y293 z293 st293 hQ293
        subst l293 y293 z293
        obtain ⟨rfl, N293q, K293⟩ := hQ293
        have N293 := Fr.app N289 N293q
        have O_294 := O_290.keep K293 all0
        have K_295 := K_291.trans K293 all0
        have k_296 : Go p.tables e below (s₁.setTop (entryFrame m #[(.int q1), (.int q2), (.int q3)] maxLocals)) (T293.setTop (mkF m 122 #[iv q1, iv q2, iv q3, iv 1, iv 0, iv 0, iv 0, iv 0, iv 1] [(.int 0), (.ref a_NEXT_KEY), (.ref a_GAP)])) := fun t q => by
          refine k_292 t ?_
          refine st293 _ ?_
          show Steps _ _ _ (T293.setTop (mkF m 120 #[iv q1, iv q2, iv q3, iv 1, iv 0, iv 0, iv 0, iv 0, iv 1] [(.ref a_NEXT_KEY), (.ref a_GAP)])) _
          refine XS.iload X293.here hx rfl (hb hby at_120) rfl ?_
          show Steps _ _ _ (T293.setTop (mkF m 122 #[iv q1, iv q2, iv q3, iv 1, iv 0, iv 0, iv 0, iv 0, iv 1] [(.int 0), (.ref a_NEXT_KEY), (.ref a_GAP)])) _
          exact q
        obtain ⟨cq297, kq297, q297a, q297b, q297c⟩ := isOf hZ (rfl : T293.heap = _) (Exa.ext O_294.2 E_GAP)
        obtain ⟨_, _, ⟨T297, L297, k297, n297⟩, -, X297, ⟨Lc297, hQ297, l297, y297, z297⟩, st297⟩ := X293.virtualBack hx (y := y_3) (z := y_3) hown (mvT hZ (hw _ (wd 16 rfl))) (mvT hZ (hw _ (wd 17 rfl))) (notFace_of_selects (args := #[]) (mvT hZ (hw _ (wd 19 rfl)))) (mvT hZ (hw _ (wd 19 rfl))) (mvT hZ (hw _ (wd 18 rfl))) (by decide) (backOf (W := 0) (cv_1_0_0 l Z a0 hw [] a_NEXT_KEY a_GAP a_RECORD a_INSERT_INTENTION G  T293.heap n0 O_294 ) hZ (hw _ (wd 20 rfl)) (hw _ (wd 7 rfl)) (by decide) (by decide)) q297a q297c (g := (mkF m 122 #[iv q1, iv q2, iv q3, iv 1, iv 0, iv 0, iv 0, iv 0, iv 1] [(.int 0), (.ref a_NEXT_KEY), (.ref a_GAP)])) rfl (by rw [hml]; rfl) (Steps.refl _) (argsL := [(.ref a_NEXT_KEY), (.int 0)]) (rest := []) (lenOf pd_2 rfl) rfl (by show 2 * 0 + _ ≤ _; exact Nat.le_of_eq rfl) (hb hby at_122) (fun _ _ => ⟨rfl, (rfl : T293.heap = _), (by decide : 2 + 0 ≤ _), (by decide : 8 + 0 ≤ _)⟩)
        dsimp only [Pt.U, Pt.locs, Pt.cells, Pt.slots] at X297 l297 y297 z297 st297 hQ297
        subst l297 y297 z297
        obtain ⟨rfl, N297q, e297⟩ := hQ297
        have N297 := Fr.app N293 N297q
        have k_298 : Go p.tables e below (s₁.setTop (entryFrame m #[(.int q1), (.int q2), (.int q3)] maxLocals)) (T297.setTop (mkF m 139 #[iv q1, iv q2, iv q3, iv 1, iv 0, iv 0, iv 0, iv 0, iv 1] [(.int 1)])) := fun t q => by
          refine k_296 t ?_
          refine st297.trans ?_
          show Steps _ _ _ (T297.setTop (mkF m 125 #[iv q1, iv q2, iv q3, iv 1, iv 0, iv 0, iv 0, iv 0, iv 1] [(.int 0)])) _
          refine XS.istore X297.here hx rfl (hb hby at_125) rfl (l' := #[iv q1, iv q2, iv q3, iv 1, iv 0, iv 0, iv 0, iv 0, iv 1]) rfl ?_
          show Steps _ _ _ (T297.setTop (mkF m 127 #[iv q1, iv q2, iv q3, iv 1, iv 0, iv 0, iv 0, iv 0, iv 1] [])) _
          refine XS.iload X297.here hx rfl (hb hby at_127) rfl ?_
          show Steps _ _ _ (T297.setTop (mkF m 129 #[iv q1, iv q2, iv q3, iv 1, iv 0, iv 0, iv 0, iv 0, iv 1] [(.int 0)])) _
          refine XS.iload X297.here hx rfl (hb hby at_129) rfl ?_
          show Steps _ _ _ (T297.setTop (mkF m 131 #[iv q1, iv q2, iv q3, iv 1, iv 0, iv 0, iv 0, iv 0, iv 1] [(.int 0), (.int 0)])) _
          refine XS.icmpNo X297.here hx rfl (hb hby at_131) rfl (by decide) ?_
          show Steps _ _ _ (T297.setTop (mkF m 134 #[iv q1, iv q2, iv q3, iv 1, iv 0, iv 0, iv 0, iv 0, iv 1] [])) _
          refine XS.iconst X297.here hx rfl (hb hby at_134) ?_
          show Steps _ _ _ (T297.setTop (mkF m 135 #[iv q1, iv q2, iv q3, iv 1, iv 0, iv 0, iv 0, iv 0, iv 1] [(.int 1)])) _
          refine XS.goto X297.here hx rfl (pc0 := 135) (pc' := 139) rfl (hb hby at_135) (by decide) (by decide) ?_
          show Steps _ _ _ (T297.setTop (mkF m 139 #[iv q1, iv q2, iv q3, iv 1, iv 0, iv 0, iv 0, iv 0, iv 1] [(.int 1)])) _
          exact q
        obtain ⟨fs, hr, hrun, hended, hW, hsame⟩ := X297.leave (v := some (.int 1)) (fun h => by rw [Bd.returns] at h; cases h)
        refine ⟨_, _, k_298 _ ?_, hrun, hended, _, _, rfl, ?_, ⟨_, rfl⟩, hW, hsame.mono (by decide) (by decide)⟩
        · exact retN X297 hx (t := .boolean) Bd.returns (by simp) (hb hby at_139) hr
        · show Q0 n0 _ T297.heap _
          rw [e297]
          exact ⟨rfl, N297⟩
      · skip
        have k_299 : Go p.tables e below (s₁.setTop (entryFrame m #[(.int q1), (.int q2), (.int q3)] maxLocals)) (s₁.setTop (mkF m 52 #[iv q1, iv q2, iv q3, iv 1, iv 1, iv 0, .unset, .unset, .unset] [(.int 1)])) := fun t q => by
          refine k0 t ?_
          refine XS.iloadN X0.here hx rfl (hb hby at_0) rfl ?_
          show Steps _ _ _ (s₁.setTop (mkF m 1 #[iv q1, iv q2, iv q3, .unset, .unset, .unset, .unset, .unset, .unset] [(.int q1)])) _
          refine XS.iconst X0.here hx rfl (hb hby at_1) ?_
          show Steps _ _ _ (s₁.setTop (mkF m 2 #[iv q1, iv q2, iv q3, .unset, .unset, .unset, .unset, .unset, .unset] [(.int 3), (.int q1)])) _
          refine XS.iand X0.here hx rfl (hb hby at_2) rfl ?_
          show Steps _ _ _ (s₁.setTop (mkF m 3 #[iv q1, iv q2, iv q3, .unset, .unset, .unset, .unset, .unset, .unset] [(.int (q1 &&& (3 : Int32)))])) _
          rw [hi]
          show Steps _ _ _ (s₁.setTop (mkF m 3 #[iv q1, iv q2, iv q3, .unset, .unset, .unset, .unset, .unset, .unset] [(.int 1)])) _
          refine XS.istoreN X0.here hx rfl (hb hby at_3) rfl (l' := #[iv q1, iv q2, iv q3, iv 1, .unset, .unset, .unset, .unset, .unset]) rfl ?_
          show Steps _ _ _ (s₁.setTop (mkF m 4 #[iv q1, iv q2, iv q3, iv 1, .unset, .unset, .unset, .unset, .unset] [])) _
          refine XS.iloadN X0.here hx rfl (hb hby at_4) rfl ?_
          show Steps _ _ _ (s₁.setTop (mkF m 5 #[iv q1, iv q2, iv q3, iv 1, .unset, .unset, .unset, .unset, .unset] [(.int q2)])) _
          refine XS.iconst X0.here hx rfl (hb hby at_5) ?_
          show Steps _ _ _ (s₁.setTop (mkF m 6 #[iv q1, iv q2, iv q3, iv 1, .unset, .unset, .unset, .unset, .unset] [(.int 3), (.int q2)])) _
          refine XS.iand X0.here hx rfl (hb hby at_6) rfl ?_
          show Steps _ _ _ (s₁.setTop (mkF m 7 #[iv q1, iv q2, iv q3, iv 1, .unset, .unset, .unset, .unset, .unset] [(.int (q2 &&& (3 : Int32)))])) _
          rw [hj]
          show Steps _ _ _ (s₁.setTop (mkF m 7 #[iv q1, iv q2, iv q3, iv 1, .unset, .unset, .unset, .unset, .unset] [(.int 1)])) _
          refine XS.istore X0.here hx rfl (hb hby at_7) rfl (l' := #[iv q1, iv q2, iv q3, iv 1, iv 1, .unset, .unset, .unset, .unset]) rfl ?_
          show Steps _ _ _ (s₁.setTop (mkF m 9 #[iv q1, iv q2, iv q3, iv 1, iv 1, .unset, .unset, .unset, .unset] [])) _
          refine XS.iloadN X0.here hx rfl (hb hby at_9) rfl ?_
          show Steps _ _ _ (s₁.setTop (mkF m 10 #[iv q1, iv q2, iv q3, iv 1, iv 1, .unset, .unset, .unset, .unset] [(.int q3)])) _
          refine XS.iconst X0.here hx rfl (hb hby at_10) ?_
          show Steps _ _ _ (s₁.setTop (mkF m 11 #[iv q1, iv q2, iv q3, iv 1, iv 1, .unset, .unset, .unset, .unset] [(.int 1), (.int q3)])) _
          refine XS.iand X0.here hx rfl (hb hby at_11) rfl ?_
          show Steps _ _ _ (s₁.setTop (mkF m 12 #[iv q1, iv q2, iv q3, iv 1, iv 1, .unset, .unset, .unset, .unset] [(.int (q3 &&& (1 : Int32)))])) _
          rw [hs]
          show Steps _ _ _ (s₁.setTop (mkF m 12 #[iv q1, iv q2, iv q3, iv 1, iv 1, .unset, .unset, .unset, .unset] [(.int 0)])) _
          refine XS.ifYes X0.here hx rfl (pc0 := 12) (pc' := 19) rfl (hb hby at_12) rfl (by decide) (by decide) (by decide) ?_
          show Steps _ _ _ (s₁.setTop (mkF m 19 #[iv q1, iv q2, iv q3, iv 1, iv 1, .unset, .unset, .unset, .unset] [])) _
          refine XS.iconst X0.here hx rfl (hb hby at_19) ?_
          show Steps _ _ _ (s₁.setTop (mkF m 20 #[iv q1, iv q2, iv q3, iv 1, iv 1, .unset, .unset, .unset, .unset] [(.int 0)])) _
          refine XS.istore X0.here hx rfl (hb hby at_20) rfl (l' := #[iv q1, iv q2, iv q3, iv 1, iv 1, iv 0, .unset, .unset, .unset]) rfl ?_
          show Steps _ _ _ (s₁.setTop (mkF m 22 #[iv q1, iv q2, iv q3, iv 1, iv 1, iv 0, .unset, .unset, .unset] [])) _
          refine XS.iloadN X0.here hx rfl (hb hby at_22) rfl ?_
          show Steps _ _ _ (s₁.setTop (mkF m 23 #[iv q1, iv q2, iv q3, iv 1, iv 1, iv 0, .unset, .unset, .unset] [(.int 1)])) _
          refine XS.iconst X0.here hx rfl (hb hby at_23) ?_
          show Steps _ _ _ (s₁.setTop (mkF m 24 #[iv q1, iv q2, iv q3, iv 1, iv 1, iv 0, .unset, .unset, .unset] [(.int 3), (.int 1)])) _
          refine XS.icmpNo X0.here hx rfl (hb hby at_24) rfl (by decide) ?_
          show Steps _ _ _ (s₁.setTop (mkF m 27 #[iv q1, iv q2, iv q3, iv 1, iv 1, iv 0, .unset, .unset, .unset] [])) _
          refine XS.iload X0.here hx rfl (hb hby at_27) rfl ?_
          show Steps _ _ _ (s₁.setTop (mkF m 29 #[iv q1, iv q2, iv q3, iv 1, iv 1, iv 0, .unset, .unset, .unset] [(.int 1)])) _
          refine XS.iconst X0.here hx rfl (hb hby at_29) ?_
          show Steps _ _ _ (s₁.setTop (mkF m 30 #[iv q1, iv q2, iv q3, iv 1, iv 1, iv 0, .unset, .unset, .unset] [(.int 3), (.int 1)])) _
          refine XS.icmpYes X0.here hx rfl (pc0 := 30) (pc' := 39) rfl (hb hby at_30) rfl (by decide) (by decide) (by decide) ?_
          show Steps _ _ _ (s₁.setTop (mkF m 39 #[iv q1, iv q2, iv q3, iv 1, iv 1, iv 0, .unset, .unset, .unset] [])) _
          refine XS.iload X0.here hx rfl (hb hby at_39) rfl ?_
          show Steps _ _ _ (s₁.setTop (mkF m 41 #[iv q1, iv q2, iv q3, iv 1, iv 1, iv 0, .unset, .unset, .unset] [(.int 0)])) _
          refine XS.ifYes X0.here hx rfl (pc0 := 41) (pc' := 50) rfl (hb hby at_41) rfl (by decide) (by decide) (by decide) ?_
          show Steps _ _ _ (s₁.setTop (mkF m 50 #[iv q1, iv q2, iv q3, iv 1, iv 1, iv 0, .unset, .unset, .unset] [])) _
          refine XS.iload X0.here hx rfl (hb hby at_50) rfl ?_
          show Steps _ _ _ (s₁.setTop (mkF m 52 #[iv q1, iv q2, iv q3, iv 1, iv 1, iv 0, .unset, .unset, .unset] [(.int 1)])) _
          exact q
        obtain ⟨_, _, ⟨T300, L300, k300, n300⟩, -, X300, ⟨Lc300, hQ300, l300, y300, z300⟩, st300⟩ := Jvm.LawKit.callS X0 hx (y := y_0) hown (mvT hZ (hw _ (wd 22 rfl))) (mvT hZ (hw _ (wd 23 rfl))) (mvT hZ (hw _ (wd 2 rfl))) (mvT hZ (hw _ (wd 24 rfl))) (by decide) (backOf (W := 0) (hr_1 l Z a0 hw [] a_NEXT_KEY a_GAP a_RECORD a_INSERT_INTENTION G  h0 n0 O0 ) hZ (hw _ (wd 24 rfl)) (hw _ (wd 2 rfl)) (by decide) (by decide)) (g := (mkF m 52 #[iv q1, iv q2, iv q3, iv 1, iv 1, iv 0, .unset, .unset, .unset] [(.int 1)])) rfl (by rw [hml]; rfl) (argsL := [(.int 1)]) (rest := []) (lenOf pd_0 rfl) rfl (by show 2 * 0 + _ ≤ _; exact Nat.le_of_eq rfl) (hb hby at_52) (fun _ _ => ⟨rfl, e0, (by decide : 0 + 0 ≤ _), (by decide : 0 + 0 ≤ _)⟩)
        dsimp only [Pt.U, Pt.locs, Pt.cells, Pt.slots] at X300 l300 y300 z300 st300 hQ300
        subst l300 y300 z300
        obtain ⟨rfl, N300q, e300⟩ := hQ300
        have N300 := Fr.app N0 N300q
        have k_301 : Go p.tables e below (s₁.setTop (entryFrame m #[(.int q1), (.int q2), (.int q3)] maxLocals)) (T300.setTop (mkF m 74 #[iv q1, iv q2, iv q3, iv 1, iv 1, iv 0, .unset, iv 1, .unset] [(.int 1)])) := fun t q => by
          refine k_299 t ?_
          refine st300 _ ?_
          show Steps _ _ _ (T300.setTop (mkF m 55 #[iv q1, iv q2, iv q3, iv 1, iv 1, iv 0, .unset, .unset, .unset] [(.int 0)])) _
          refine XS.ifYes X300.here hx rfl (pc0 := 55) (pc' := 65) rfl (hb hby at_55) rfl (by decide) (by decide) (by decide) ?_
          show Steps _ _ _ (T300.setTop (mkF m 65 #[iv q1, iv q2, iv q3, iv 1, iv 1, iv 0, .unset, .unset, .unset] [])) _
          refine XS.iconst X300.here hx rfl (hb hby at_65) ?_
          show Steps _ _ _ (T300.setTop (mkF m 66 #[iv q1, iv q2, iv q3, iv 1, iv 1, iv 0, .unset, .unset, .unset] [(.int 1)])) _
          refine XS.goto X300.here hx rfl (pc0 := 66) (pc' := 70) rfl (hb hby at_66) (by decide) (by decide) ?_
          show Steps _ _ _ (T300.setTop (mkF m 70 #[iv q1, iv q2, iv q3, iv 1, iv 1, iv 0, .unset, .unset, .unset] [(.int 1)])) _
          refine XS.istore X300.here hx rfl (hb hby at_70) rfl (l' := #[iv q1, iv q2, iv q3, iv 1, iv 1, iv 0, .unset, iv 1, .unset]) rfl ?_
          show Steps _ _ _ (T300.setTop (mkF m 72 #[iv q1, iv q2, iv q3, iv 1, iv 1, iv 0, .unset, iv 1, .unset] [])) _
          refine XS.iload X300.here hx rfl (hb hby at_72) rfl ?_
          show Steps _ _ _ (T300.setTop (mkF m 74 #[iv q1, iv q2, iv q3, iv 1, iv 1, iv 0, .unset, iv 1, .unset] [(.int 1)])) _
          exact q
        obtain ⟨_, _, ⟨T302, L302, k302, n302⟩, -, X302, ⟨Lc302, hQ302, l302, y302, z302⟩, st302⟩ := Jvm.LawKit.callS X300 hx (y := y_1) hown (mvT hZ (hw _ (wd 25 rfl))) (mvT hZ (hw _ (wd 26 rfl))) (mvT hZ (hw _ (wd 2 rfl))) (mvT hZ (hw _ (wd 27 rfl))) (by decide) (backOf (W := 0) (hg_1 l Z a0 hw [] a_NEXT_KEY a_GAP a_RECORD a_INSERT_INTENTION G  h0 n0 O0 ) hZ (hw _ (wd 27 rfl)) (hw _ (wd 2 rfl)) (by decide) (by decide)) (g := (mkF m 74 #[iv q1, iv q2, iv q3, iv 1, iv 1, iv 0, .unset, iv 1, .unset] [(.int 1)])) rfl (by rw [hml]; rfl) (argsL := [(.int 1)]) (rest := []) (lenOf pd_0 rfl) rfl (by show 2 * 0 + _ ≤ _; exact Nat.le_of_eq rfl) (hb hby at_74) (fun _ _ => ⟨rfl, e300, (by decide : 0 + 0 ≤ _), (by decide : 0 + 0 ≤ _)⟩)
        dsimp only [Pt.U, Pt.locs, Pt.cells, Pt.slots] at X302 l302 y302 z302 st302 hQ302
        subst l302 y302 z302
        obtain ⟨rfl, N302q, e302⟩ := hQ302
        have N302 := Fr.app N300 N302q
        have k_303 : Go p.tables e below (s₁.setTop (entryFrame m #[(.int q1), (.int q2), (.int q3)] maxLocals)) (T302.setTop (mkF m 81 #[iv q1, iv q2, iv q3, iv 1, iv 1, iv 0, .unset, iv 1, .unset] [(.int 1)])) := fun t q => by
          refine k_301 t ?_
          refine st302 _ ?_
          show Steps _ _ _ (T302.setTop (mkF m 77 #[iv q1, iv q2, iv q3, iv 1, iv 1, iv 0, .unset, iv 1, .unset] [(.int 1)])) _
          refine XS.ifNo X302.here hx rfl (hb hby at_77) rfl (by decide) ?_
          show Steps _ _ _ (T302.setTop (mkF m 80 #[iv q1, iv q2, iv q3, iv 1, iv 1, iv 0, .unset, iv 1, .unset] [])) _
          refine XS.iloadN X302.here hx rfl (hb hby at_80) rfl ?_
          show Steps _ _ _ (T302.setTop (mkF m 81 #[iv q1, iv q2, iv q3, iv 1, iv 1, iv 0, .unset, iv 1, .unset] [(.int 1)])) _
          exact q
        obtain ⟨_, _, ⟨T304, L304, k304, n304⟩, -, X304, ⟨Lc304, hQ304, l304, y304, z304⟩, st304⟩ := Jvm.LawKit.callS X302 hx (y := y_1) hown (mvT hZ (hw _ (wd 25 rfl))) (mvT hZ (hw _ (wd 26 rfl))) (mvT hZ (hw _ (wd 2 rfl))) (mvT hZ (hw _ (wd 27 rfl))) (by decide) (backOf (W := 0) (hg_1 l Z a0 hw [] a_NEXT_KEY a_GAP a_RECORD a_INSERT_INTENTION G  h0 n0 O0 ) hZ (hw _ (wd 27 rfl)) (hw _ (wd 2 rfl)) (by decide) (by decide)) (g := (mkF m 81 #[iv q1, iv q2, iv q3, iv 1, iv 1, iv 0, .unset, iv 1, .unset] [(.int 1)])) rfl (by rw [hml]; rfl) (argsL := [(.int 1)]) (rest := []) (lenOf pd_0 rfl) rfl (by show 2 * 0 + _ ≤ _; exact Nat.le_of_eq rfl) (hb hby at_81) (fun _ _ => ⟨rfl, e302, (by decide : 0 + 0 ≤ _), (by decide : 0 + 0 ≤ _)⟩)
        dsimp only [Pt.U, Pt.locs, Pt.cells, Pt.slots] at X304 l304 y304 z304 st304 hQ304
        subst l304 y304 z304
        obtain ⟨rfl, N304q, e304⟩ := hQ304
        have N304 := Fr.app N302 N304q
        have k_305 : Go p.tables e below (s₁.setTop (entryFrame m #[(.int q1), (.int q2), (.int q3)] maxLocals)) (T304.setTop (mkF m 112 #[iv q1, iv q2, iv q3, iv 1, iv 1, iv 0, iv 1, iv 1, iv 1] [(.int 1)])) := fun t q => by
          refine k_303 t ?_
          refine st304 _ ?_
          show Steps _ _ _ (T304.setTop (mkF m 84 #[iv q1, iv q2, iv q3, iv 1, iv 1, iv 0, .unset, iv 1, .unset] [(.int 1)])) _
          refine XS.ifNo X304.here hx rfl (hb hby at_84) rfl (by decide) ?_
          show Steps _ _ _ (T304.setTop (mkF m 87 #[iv q1, iv q2, iv q3, iv 1, iv 1, iv 0, .unset, iv 1, .unset] [])) _
          refine XS.iconst X304.here hx rfl (hb hby at_87) ?_
          show Steps _ _ _ (T304.setTop (mkF m 88 #[iv q1, iv q2, iv q3, iv 1, iv 1, iv 0, .unset, iv 1, .unset] [(.int 1)])) _
          refine XS.goto X304.here hx rfl (pc0 := 88) (pc' := 92) rfl (hb hby at_88) (by decide) (by decide) ?_
          show Steps _ _ _ (T304.setTop (mkF m 92 #[iv q1, iv q2, iv q3, iv 1, iv 1, iv 0, .unset, iv 1, .unset] [(.int 1)])) _
          refine XS.istore X304.here hx rfl (hb hby at_92) rfl (l' := #[iv q1, iv q2, iv q3, iv 1, iv 1, iv 0, .unset, iv 1, iv 1]) rfl ?_
          show Steps _ _ _ (T304.setTop (mkF m 94 #[iv q1, iv q2, iv q3, iv 1, iv 1, iv 0, .unset, iv 1, iv 1] [])) _
          refine XS.iload X304.here hx rfl (hb hby at_94) rfl ?_
          show Steps _ _ _ (T304.setTop (mkF m 96 #[iv q1, iv q2, iv q3, iv 1, iv 1, iv 0, .unset, iv 1, iv 1] [(.int 1)])) _
          refine XS.ifNo X304.here hx rfl (hb hby at_96) rfl (by decide) ?_
          show Steps _ _ _ (T304.setTop (mkF m 99 #[iv q1, iv q2, iv q3, iv 1, iv 1, iv 0, .unset, iv 1, iv 1] [])) _
          refine XS.iload X304.here hx rfl (hb hby at_99) rfl ?_
          show Steps _ _ _ (T304.setTop (mkF m 101 #[iv q1, iv q2, iv q3, iv 1, iv 1, iv 0, .unset, iv 1, iv 1] [(.int 1)])) _
          refine XS.ifNo X304.here hx rfl (hb hby at_101) rfl (by decide) ?_
          show Steps _ _ _ (T304.setTop (mkF m 104 #[iv q1, iv q2, iv q3, iv 1, iv 1, iv 0, .unset, iv 1, iv 1] [])) _
          refine XS.iconst X304.here hx rfl (hb hby at_104) ?_
          show Steps _ _ _ (T304.setTop (mkF m 105 #[iv q1, iv q2, iv q3, iv 1, iv 1, iv 0, .unset, iv 1, iv 1] [(.int 1)])) _
          refine XS.goto X304.here hx rfl (pc0 := 105) (pc' := 109) rfl (hb hby at_105) (by decide) (by decide) ?_
          show Steps _ _ _ (T304.setTop (mkF m 109 #[iv q1, iv q2, iv q3, iv 1, iv 1, iv 0, .unset, iv 1, iv 1] [(.int 1)])) _
          refine XS.istore X304.here hx rfl (hb hby at_109) rfl (l' := #[iv q1, iv q2, iv q3, iv 1, iv 1, iv 0, iv 1, iv 1, iv 1]) rfl ?_
          show Steps _ _ _ (T304.setTop (mkF m 111 #[iv q1, iv q2, iv q3, iv 1, iv 1, iv 0, iv 1, iv 1, iv 1] [])) _
          refine XS.iloadN X304.here hx rfl (hb hby at_111) rfl ?_
          show Steps _ _ _ (T304.setTop (mkF m 112 #[iv q1, iv q2, iv q3, iv 1, iv 1, iv 0, iv 1, iv 1, iv 1] [(.int 1)])) _
          exact q
        obtain ⟨_, _, ⟨T306, L306, k306, n306⟩, -, X306, ⟨Lc306, hQ306, l306, y306, z306⟩, st306⟩ := Jvm.LawKit.callS X304 hx (y := y_2) hown (mvT hZ (hw _ (wd 0 rfl))) (mvT hZ (hw _ (wd 1 rfl))) (mvT hZ (hw _ (wd 2 rfl))) (mvT hZ (hw _ (wd 3 rfl))) (by decide) (backOf (W := 0) (kd l Z a0 hw [] a_NEXT_KEY a_GAP a_RECORD a_INSERT_INTENTION G (1 : Int32) 1 h0 n0 O0 (Or.inr (Or.inl ⟨by decide, rfl⟩))) hZ (hw _ (wd 3 rfl)) (hw _ (wd 2 rfl)) (by decide) (by decide)) (g := (mkF m 112 #[iv q1, iv q2, iv q3, iv 1, iv 1, iv 0, iv 1, iv 1, iv 1] [(.int 1)])) rfl (by rw [hml]; rfl) (argsL := [(.int 1)]) (rest := []) (lenOf pd_1 rfl) rfl (by show 2 * 0 + _ ≤ _; exact Nat.le_of_eq rfl) (hb hby at_112) (fun _ _ => ⟨rfl, e304, (by decide : 0 + 1 ≤ _), (by decide : 0 + 4 ≤ _)⟩)
        dsimp only [Pt.U, Pt.locs, Pt.cells, Pt.slots] at X306 l306 y306 z306 st306 hQ306
        subst l306 y306 z306
        obtain ⟨rfl, N306q, K306⟩ := hQ306
        have N306 := Fr.app N304 N306q
        have O_307 := O0.keep K306 all0
        have K_308 := K0.trans K306 all0
        have k_309 : Go p.tables e below (s₁.setTop (entryFrame m #[(.int q1), (.int q2), (.int q3)] maxLocals)) (T306.setTop (mkF m 117 #[iv q1, iv q2, iv q3, iv 1, iv 1, iv 0, iv 1, iv 1, iv 1] [(.int 1), (.ref a_GAP)])) := fun t q => by
          refine k_305 t ?_
          refine st306 _ ?_
          show Steps _ _ _ (T306.setTop (mkF m 115 #[iv q1, iv q2, iv q3, iv 1, iv 1, iv 0, iv 1, iv 1, iv 1] [(.ref a_GAP)])) _
          refine XS.iload X306.here hx rfl (hb hby at_115) rfl ?_
          show Steps _ _ _ (T306.setTop (mkF m 117 #[iv q1, iv q2, iv q3, iv 1, iv 1, iv 0, iv 1, iv 1, iv 1] [(.int 1), (.ref a_GAP)])) _
          exact q
        obtain ⟨_, _, ⟨T310, L310, k310, n310⟩, -, X310, ⟨Lc310, hQ310, l310, y310, z310⟩, st310⟩ := Jvm.LawKit.callS X306 hx (y := y_2) hown (mvT hZ (hw _ (wd 0 rfl))) (mvT hZ (hw _ (wd 1 rfl))) (mvT hZ (hw _ (wd 2 rfl))) (mvT hZ (hw _ (wd 3 rfl))) (by decide) (backOf (W := 1) (kd l Z a0 hw [] a_NEXT_KEY a_GAP a_RECORD a_INSERT_INTENTION G (1 : Int32) 1 T306.heap n0 O_307 (Or.inr (Or.inl ⟨by decide, rfl⟩))) hZ (hw _ (wd 3 rfl)) (hw _ (wd 2 rfl)) (by decide) (by decide)) (g := (mkF m 117 #[iv q1, iv q2, iv q3, iv 1, iv 1, iv 0, iv 1, iv 1, iv 1] [(.int 1), (.ref a_GAP)])) rfl (by rw [hml]; rfl) (argsL := [(.int 1)]) (rest := [(.ref a_GAP)]) (lenOf pd_1 rfl) rfl (by show 2 * 0 + _ ≤ _; exact Nat.le_of_eq rfl) (hb hby at_117) (fun _ _ => ⟨rfl, (rfl : T306.heap = _), (by decide : 1 + 1 ≤ _), (by decide : 4 + 4 ≤ _)⟩)
        dsimp only [Pt.U, Pt.locs, Pt.cells, Pt.slots] at X310 l310 y310 z310 st310 hQ310
        subst l310 y310 z310
        obtain ⟨rfl, N310q, K310⟩ := hQ310
        have N310 := Fr.app N306 N310q
        have O_311 := O_307.keep K310 all0
        have K_312 := K_308.trans K310 all0
        have k_313 : Go p.tables e below (s₁.setTop (entryFrame m #[(.int q1), (.int q2), (.int q3)] maxLocals)) (T310.setTop (mkF m 122 #[iv q1, iv q2, iv q3, iv 1, iv 1, iv 0, iv 1, iv 1, iv 1] [(.int 0), (.ref a_GAP), (.ref a_GAP)])) := fun t q => by
          refine k_309 t ?_
          refine st310 _ ?_
          show Steps _ _ _ (T310.setTop (mkF m 120 #[iv q1, iv q2, iv q3, iv 1, iv 1, iv 0, iv 1, iv 1, iv 1] [(.ref a_GAP), (.ref a_GAP)])) _
          refine XS.iload X310.here hx rfl (hb hby at_120) rfl ?_
          show Steps _ _ _ (T310.setTop (mkF m 122 #[iv q1, iv q2, iv q3, iv 1, iv 1, iv 0, iv 1, iv 1, iv 1] [(.int 0), (.ref a_GAP), (.ref a_GAP)])) _
          exact q
        obtain ⟨cq314, kq314, q314a, q314b, q314c⟩ := isOf hZ (rfl : T310.heap = _) (Exa.ext O_311.2 E_GAP)
        obtain ⟨_, _, ⟨T314, L314, k314, n314⟩, -, X314, ⟨Lc314, hQ314, l314, y314, z314⟩, st314⟩ := X310.virtualBack hx (y := y_3) (z := y_3) hown (mvT hZ (hw _ (wd 16 rfl))) (mvT hZ (hw _ (wd 17 rfl))) (notFace_of_selects (args := #[]) (mvT hZ (hw _ (wd 19 rfl)))) (mvT hZ (hw _ (wd 19 rfl))) (mvT hZ (hw _ (wd 18 rfl))) (by decide) (backOf (W := 0) (cv_1_1_0 l Z a0 hw [] a_NEXT_KEY a_GAP a_RECORD a_INSERT_INTENTION G  T310.heap n0 O_311 ) hZ (hw _ (wd 20 rfl)) (hw _ (wd 7 rfl)) (by decide) (by decide)) q314a q314c (g := (mkF m 122 #[iv q1, iv q2, iv q3, iv 1, iv 1, iv 0, iv 1, iv 1, iv 1] [(.int 0), (.ref a_GAP), (.ref a_GAP)])) rfl (by rw [hml]; rfl) (Steps.refl _) (argsL := [(.ref a_GAP), (.int 0)]) (rest := []) (lenOf pd_2 rfl) rfl (by show 2 * 0 + _ ≤ _; exact Nat.le_of_eq rfl) (hb hby at_122) (fun _ _ => ⟨rfl, (rfl : T310.heap = _), (by decide : 2 + 0 ≤ _), (by decide : 8 + 0 ≤ _)⟩)
        dsimp only [Pt.U, Pt.locs, Pt.cells, Pt.slots] at X314 l314 y314 z314 st314 hQ314
        subst l314 y314 z314
        obtain ⟨rfl, N314q, e314⟩ := hQ314
        have N314 := Fr.app N310 N314q
        have k_315 : Go p.tables e below (s₁.setTop (entryFrame m #[(.int q1), (.int q2), (.int q3)] maxLocals)) (T314.setTop (mkF m 139 #[iv q1, iv q2, iv q3, iv 1, iv 1, iv 0, iv 1, iv 1, iv 1] [(.int 1)])) := fun t q => by
          refine k_313 t ?_
          refine st314.trans ?_
          show Steps _ _ _ (T314.setTop (mkF m 125 #[iv q1, iv q2, iv q3, iv 1, iv 1, iv 0, iv 1, iv 1, iv 1] [(.int 1)])) _
          refine XS.istore X314.here hx rfl (hb hby at_125) rfl (l' := #[iv q1, iv q2, iv q3, iv 1, iv 1, iv 0, iv 1, iv 1, iv 1]) rfl ?_
          show Steps _ _ _ (T314.setTop (mkF m 127 #[iv q1, iv q2, iv q3, iv 1, iv 1, iv 0, iv 1, iv 1, iv 1] [])) _
          refine XS.iload X314.here hx rfl (hb hby at_127) rfl ?_
          show Steps _ _ _ (T314.setTop (mkF m 129 #[iv q1, iv q2, iv q3, iv 1, iv 1, iv 0, iv 1, iv 1, iv 1] [(.int 1)])) _
          refine XS.iload X314.here hx rfl (hb hby at_129) rfl ?_
          show Steps _ _ _ (T314.setTop (mkF m 131 #[iv q1, iv q2, iv q3, iv 1, iv 1, iv 0, iv 1, iv 1, iv 1] [(.int 1), (.int 1)])) _
          refine XS.icmpNo X314.here hx rfl (hb hby at_131) rfl (by decide) ?_
          show Steps _ _ _ (T314.setTop (mkF m 134 #[iv q1, iv q2, iv q3, iv 1, iv 1, iv 0, iv 1, iv 1, iv 1] [])) _
          refine XS.iconst X314.here hx rfl (hb hby at_134) ?_
          show Steps _ _ _ (T314.setTop (mkF m 135 #[iv q1, iv q2, iv q3, iv 1, iv 1, iv 0, iv 1, iv 1, iv 1] [(.int 1)])) _
          refine XS.goto X314.here hx rfl (pc0 := 135) (pc' := 139) rfl (hb hby at_135) (by decide) (by decide) ?_
          show Steps _ _ _ (T314.setTop (mkF m 139 #[iv q1, iv q2, iv q3, iv 1, iv 1, iv 0, iv 1, iv 1, iv 1] [(.int 1)])) _
          exact q
        obtain ⟨fs, hr, hrun, hended, hW, hsame⟩ := X314.leave (v := some (.int 1)) (fun h => by rw [Bd.returns] at h; cases h)
        refine ⟨_, _, k_315 _ ?_, hrun, hended, _, _, rfl, ?_, ⟨_, rfl⟩, hW, hsame.mono (by decide) (by decide)⟩
        · exact retN X314 hx (t := .boolean) Bd.returns (by simp) (hb hby at_139) hr
        · show Q0 n0 _ T314.heap _
          rw [e314]
          exact ⟨rfl, N314⟩
      · skip
        have k_316 : Go p.tables e below (s₁.setTop (entryFrame m #[(.int q1), (.int q2), (.int q3)] maxLocals)) (s₁.setTop (mkF m 52 #[iv q1, iv q2, iv q3, iv 1, iv 2, iv 0, .unset, .unset, .unset] [(.int 2)])) := fun t q => by
          refine k0 t ?_
          refine XS.iloadN X0.here hx rfl (hb hby at_0) rfl ?_
          show Steps _ _ _ (s₁.setTop (mkF m 1 #[iv q1, iv q2, iv q3, .unset, .unset, .unset, .unset, .unset, .unset] [(.int q1)])) _
          refine XS.iconst X0.here hx rfl (hb hby at_1) ?_
          show Steps _ _ _ (s₁.setTop (mkF m 2 #[iv q1, iv q2, iv q3, .unset, .unset, .unset, .unset, .unset, .unset] [(.int 3), (.int q1)])) _
          refine XS.iand X0.here hx rfl (hb hby at_2) rfl ?_
          show Steps _ _ _ (s₁.setTop (mkF m 3 #[iv q1, iv q2, iv q3, .unset, .unset, .unset, .unset, .unset, .unset] [(.int (q1 &&& (3 : Int32)))])) _
          rw [hi]
          show Steps _ _ _ (s₁.setTop (mkF m 3 #[iv q1, iv q2, iv q3, .unset, .unset, .unset, .unset, .unset, .unset] [(.int 1)])) _
          refine XS.istoreN X0.here hx rfl (hb hby at_3) rfl (l' := #[iv q1, iv q2, iv q3, iv 1, .unset, .unset, .unset, .unset, .unset]) rfl ?_
          show Steps _ _ _ (s₁.setTop (mkF m 4 #[iv q1, iv q2, iv q3, iv 1, .unset, .unset, .unset, .unset, .unset] [])) _
          refine XS.iloadN X0.here hx rfl (hb hby at_4) rfl ?_
          show Steps _ _ _ (s₁.setTop (mkF m 5 #[iv q1, iv q2, iv q3, iv 1, .unset, .unset, .unset, .unset, .unset] [(.int q2)])) _
          refine XS.iconst X0.here hx rfl (hb hby at_5) ?_
          show Steps _ _ _ (s₁.setTop (mkF m 6 #[iv q1, iv q2, iv q3, iv 1, .unset, .unset, .unset, .unset, .unset] [(.int 3), (.int q2)])) _
          refine XS.iand X0.here hx rfl (hb hby at_6) rfl ?_
          show Steps _ _ _ (s₁.setTop (mkF m 7 #[iv q1, iv q2, iv q3, iv 1, .unset, .unset, .unset, .unset, .unset] [(.int (q2 &&& (3 : Int32)))])) _
          rw [hj]
          show Steps _ _ _ (s₁.setTop (mkF m 7 #[iv q1, iv q2, iv q3, iv 1, .unset, .unset, .unset, .unset, .unset] [(.int 2)])) _
          refine XS.istore X0.here hx rfl (hb hby at_7) rfl (l' := #[iv q1, iv q2, iv q3, iv 1, iv 2, .unset, .unset, .unset, .unset]) rfl ?_
          show Steps _ _ _ (s₁.setTop (mkF m 9 #[iv q1, iv q2, iv q3, iv 1, iv 2, .unset, .unset, .unset, .unset] [])) _
          refine XS.iloadN X0.here hx rfl (hb hby at_9) rfl ?_
          show Steps _ _ _ (s₁.setTop (mkF m 10 #[iv q1, iv q2, iv q3, iv 1, iv 2, .unset, .unset, .unset, .unset] [(.int q3)])) _
          refine XS.iconst X0.here hx rfl (hb hby at_10) ?_
          show Steps _ _ _ (s₁.setTop (mkF m 11 #[iv q1, iv q2, iv q3, iv 1, iv 2, .unset, .unset, .unset, .unset] [(.int 1), (.int q3)])) _
          refine XS.iand X0.here hx rfl (hb hby at_11) rfl ?_
          show Steps _ _ _ (s₁.setTop (mkF m 12 #[iv q1, iv q2, iv q3, iv 1, iv 2, .unset, .unset, .unset, .unset] [(.int (q3 &&& (1 : Int32)))])) _
          rw [hs]
          show Steps _ _ _ (s₁.setTop (mkF m 12 #[iv q1, iv q2, iv q3, iv 1, iv 2, .unset, .unset, .unset, .unset] [(.int 0)])) _
          refine XS.ifYes X0.here hx rfl (pc0 := 12) (pc' := 19) rfl (hb hby at_12) rfl (by decide) (by decide) (by decide) ?_
          show Steps _ _ _ (s₁.setTop (mkF m 19 #[iv q1, iv q2, iv q3, iv 1, iv 2, .unset, .unset, .unset, .unset] [])) _
          refine XS.iconst X0.here hx rfl (hb hby at_19) ?_
          show Steps _ _ _ (s₁.setTop (mkF m 20 #[iv q1, iv q2, iv q3, iv 1, iv 2, .unset, .unset, .unset, .unset] [(.int 0)])) _
          refine XS.istore X0.here hx rfl (hb hby at_20) rfl (l' := #[iv q1, iv q2, iv q3, iv 1, iv 2, iv 0, .unset, .unset, .unset]) rfl ?_
          show Steps _ _ _ (s₁.setTop (mkF m 22 #[iv q1, iv q2, iv q3, iv 1, iv 2, iv 0, .unset, .unset, .unset] [])) _
          refine XS.iloadN X0.here hx rfl (hb hby at_22) rfl ?_
          show Steps _ _ _ (s₁.setTop (mkF m 23 #[iv q1, iv q2, iv q3, iv 1, iv 2, iv 0, .unset, .unset, .unset] [(.int 1)])) _
          refine XS.iconst X0.here hx rfl (hb hby at_23) ?_
          show Steps _ _ _ (s₁.setTop (mkF m 24 #[iv q1, iv q2, iv q3, iv 1, iv 2, iv 0, .unset, .unset, .unset] [(.int 3), (.int 1)])) _
          refine XS.icmpNo X0.here hx rfl (hb hby at_24) rfl (by decide) ?_
          show Steps _ _ _ (s₁.setTop (mkF m 27 #[iv q1, iv q2, iv q3, iv 1, iv 2, iv 0, .unset, .unset, .unset] [])) _
          refine XS.iload X0.here hx rfl (hb hby at_27) rfl ?_
          show Steps _ _ _ (s₁.setTop (mkF m 29 #[iv q1, iv q2, iv q3, iv 1, iv 2, iv 0, .unset, .unset, .unset] [(.int 2)])) _
          refine XS.iconst X0.here hx rfl (hb hby at_29) ?_
          show Steps _ _ _ (s₁.setTop (mkF m 30 #[iv q1, iv q2, iv q3, iv 1, iv 2, iv 0, .unset, .unset, .unset] [(.int 3), (.int 2)])) _
          refine XS.icmpYes X0.here hx rfl (pc0 := 30) (pc' := 39) rfl (hb hby at_30) rfl (by decide) (by decide) (by decide) ?_
          show Steps _ _ _ (s₁.setTop (mkF m 39 #[iv q1, iv q2, iv q3, iv 1, iv 2, iv 0, .unset, .unset, .unset] [])) _
          refine XS.iload X0.here hx rfl (hb hby at_39) rfl ?_
          show Steps _ _ _ (s₁.setTop (mkF m 41 #[iv q1, iv q2, iv q3, iv 1, iv 2, iv 0, .unset, .unset, .unset] [(.int 0)])) _
          refine XS.ifYes X0.here hx rfl (pc0 := 41) (pc' := 50) rfl (hb hby at_41) rfl (by decide) (by decide) (by decide) ?_
          show Steps _ _ _ (s₁.setTop (mkF m 50 #[iv q1, iv q2, iv q3, iv 1, iv 2, iv 0, .unset, .unset, .unset] [])) _
          refine XS.iload X0.here hx rfl (hb hby at_50) rfl ?_
          show Steps _ _ _ (s₁.setTop (mkF m 52 #[iv q1, iv q2, iv q3, iv 1, iv 2, iv 0, .unset, .unset, .unset] [(.int 2)])) _
          exact q
        obtain ⟨_, _, ⟨T317, L317, k317, n317⟩, -, X317, ⟨Lc317, hQ317, l317, y317, z317⟩, st317⟩ := Jvm.LawKit.callS X0 hx (y := y_0) hown (mvT hZ (hw _ (wd 22 rfl))) (mvT hZ (hw _ (wd 23 rfl))) (mvT hZ (hw _ (wd 2 rfl))) (mvT hZ (hw _ (wd 24 rfl))) (by decide) (backOf (W := 0) (hr_2 l Z a0 hw [] a_NEXT_KEY a_GAP a_RECORD a_INSERT_INTENTION G  h0 n0 O0 ) hZ (hw _ (wd 24 rfl)) (hw _ (wd 2 rfl)) (by decide) (by decide)) (g := (mkF m 52 #[iv q1, iv q2, iv q3, iv 1, iv 2, iv 0, .unset, .unset, .unset] [(.int 2)])) rfl (by rw [hml]; rfl) (argsL := [(.int 2)]) (rest := []) (lenOf pd_0 rfl) rfl (by show 2 * 0 + _ ≤ _; exact Nat.le_of_eq rfl) (hb hby at_52) (fun _ _ => ⟨rfl, e0, (by decide : 0 + 0 ≤ _), (by decide : 0 + 0 ≤ _)⟩)
        dsimp only [Pt.U, Pt.locs, Pt.cells, Pt.slots] at X317 l317 y317 z317 st317 hQ317
        subst l317 y317 z317
        obtain ⟨rfl, N317q, e317⟩ := hQ317
        have N317 := Fr.app N0 N317q
        have k_318 : Go p.tables e below (s₁.setTop (entryFrame m #[(.int q1), (.int q2), (.int q3)] maxLocals)) (T317.setTop (mkF m 59 #[iv q1, iv q2, iv q3, iv 1, iv 2, iv 0, .unset, .unset, .unset] [(.int 1)])) := fun t q => by
          refine k_316 t ?_
          refine st317 _ ?_
          show Steps _ _ _ (T317.setTop (mkF m 55 #[iv q1, iv q2, iv q3, iv 1, iv 2, iv 0, .unset, .unset, .unset] [(.int 1)])) _
          refine XS.ifNo X317.here hx rfl (hb hby at_55) rfl (by decide) ?_
          show Steps _ _ _ (T317.setTop (mkF m 58 #[iv q1, iv q2, iv q3, iv 1, iv 2, iv 0, .unset, .unset, .unset] [])) _
          refine XS.iloadN X317.here hx rfl (hb hby at_58) rfl ?_
          show Steps _ _ _ (T317.setTop (mkF m 59 #[iv q1, iv q2, iv q3, iv 1, iv 2, iv 0, .unset, .unset, .unset] [(.int 1)])) _
          exact q
        obtain ⟨_, _, ⟨T319, L319, k319, n319⟩, -, X319, ⟨Lc319, hQ319, l319, y319, z319⟩, st319⟩ := Jvm.LawKit.callS X317 hx (y := y_0) hown (mvT hZ (hw _ (wd 22 rfl))) (mvT hZ (hw _ (wd 23 rfl))) (mvT hZ (hw _ (wd 2 rfl))) (mvT hZ (hw _ (wd 24 rfl))) (by decide) (backOf (W := 0) (hr_1 l Z a0 hw [] a_NEXT_KEY a_GAP a_RECORD a_INSERT_INTENTION G  h0 n0 O0 ) hZ (hw _ (wd 24 rfl)) (hw _ (wd 2 rfl)) (by decide) (by decide)) (g := (mkF m 59 #[iv q1, iv q2, iv q3, iv 1, iv 2, iv 0, .unset, .unset, .unset] [(.int 1)])) rfl (by rw [hml]; rfl) (argsL := [(.int 1)]) (rest := []) (lenOf pd_0 rfl) rfl (by show 2 * 0 + _ ≤ _; exact Nat.le_of_eq rfl) (hb hby at_59) (fun _ _ => ⟨rfl, e317, (by decide : 0 + 0 ≤ _), (by decide : 0 + 0 ≤ _)⟩)
        dsimp only [Pt.U, Pt.locs, Pt.cells, Pt.slots] at X319 l319 y319 z319 st319 hQ319
        subst l319 y319 z319
        obtain ⟨rfl, N319q, e319⟩ := hQ319
        have N319 := Fr.app N317 N319q
        have k_320 : Go p.tables e below (s₁.setTop (entryFrame m #[(.int q1), (.int q2), (.int q3)] maxLocals)) (T319.setTop (mkF m 74 #[iv q1, iv q2, iv q3, iv 1, iv 2, iv 0, .unset, iv 0, .unset] [(.int 2)])) := fun t q => by
          refine k_318 t ?_
          refine st319 _ ?_
          show Steps _ _ _ (T319.setTop (mkF m 62 #[iv q1, iv q2, iv q3, iv 1, iv 2, iv 0, .unset, .unset, .unset] [(.int 0)])) _
          refine XS.ifYes X319.here hx rfl (pc0 := 62) (pc' := 69) rfl (hb hby at_62) rfl (by decide) (by decide) (by decide) ?_
          show Steps _ _ _ (T319.setTop (mkF m 69 #[iv q1, iv q2, iv q3, iv 1, iv 2, iv 0, .unset, .unset, .unset] [])) _
          refine XS.iconst X319.here hx rfl (hb hby at_69) ?_
          show Steps _ _ _ (T319.setTop (mkF m 70 #[iv q1, iv q2, iv q3, iv 1, iv 2, iv 0, .unset, .unset, .unset] [(.int 0)])) _
          refine XS.istore X319.here hx rfl (hb hby at_70) rfl (l' := #[iv q1, iv q2, iv q3, iv 1, iv 2, iv 0, .unset, iv 0, .unset]) rfl ?_
          show Steps _ _ _ (T319.setTop (mkF m 72 #[iv q1, iv q2, iv q3, iv 1, iv 2, iv 0, .unset, iv 0, .unset] [])) _
          refine XS.iload X319.here hx rfl (hb hby at_72) rfl ?_
          show Steps _ _ _ (T319.setTop (mkF m 74 #[iv q1, iv q2, iv q3, iv 1, iv 2, iv 0, .unset, iv 0, .unset] [(.int 2)])) _
          exact q
        obtain ⟨_, _, ⟨T321, L321, k321, n321⟩, -, X321, ⟨Lc321, hQ321, l321, y321, z321⟩, st321⟩ := Jvm.LawKit.callS X319 hx (y := y_1) hown (mvT hZ (hw _ (wd 25 rfl))) (mvT hZ (hw _ (wd 26 rfl))) (mvT hZ (hw _ (wd 2 rfl))) (mvT hZ (hw _ (wd 27 rfl))) (by decide) (backOf (W := 0) (hg_2 l Z a0 hw [] a_NEXT_KEY a_GAP a_RECORD a_INSERT_INTENTION G  h0 n0 O0 ) hZ (hw _ (wd 27 rfl)) (hw _ (wd 2 rfl)) (by decide) (by decide)) (g := (mkF m 74 #[iv q1, iv q2, iv q3, iv 1, iv 2, iv 0, .unset, iv 0, .unset] [(.int 2)])) rfl (by rw [hml]; rfl) (argsL := [(.int 2)]) (rest := []) (lenOf pd_0 rfl) rfl (by show 2 * 0 + _ ≤ _; exact Nat.le_of_eq rfl) (hb hby at_74) (fun _ _ => ⟨rfl, e319, (by decide : 0 + 0 ≤ _), (by decide : 0 + 0 ≤ _)⟩)
        dsimp only [Pt.U, Pt.locs, Pt.cells, Pt.slots] at X321 l321 y321 z321 st321 hQ321
        subst l321 y321 z321
        obtain ⟨rfl, N321q, e321⟩ := hQ321
        have N321 := Fr.app N319 N321q
        have k_322 : Go p.tables e below (s₁.setTop (entryFrame m #[(.int q1), (.int q2), (.int q3)] maxLocals)) (T321.setTop (mkF m 112 #[iv q1, iv q2, iv q3, iv 1, iv 2, iv 0, iv 0, iv 0, iv 1] [(.int 1)])) := fun t q => by
          refine k_320 t ?_
          refine st321 _ ?_
          show Steps _ _ _ (T321.setTop (mkF m 77 #[iv q1, iv q2, iv q3, iv 1, iv 2, iv 0, .unset, iv 0, .unset] [(.int 0)])) _
          refine XS.ifYes X321.here hx rfl (pc0 := 77) (pc' := 87) rfl (hb hby at_77) rfl (by decide) (by decide) (by decide) ?_
          show Steps _ _ _ (T321.setTop (mkF m 87 #[iv q1, iv q2, iv q3, iv 1, iv 2, iv 0, .unset, iv 0, .unset] [])) _
          refine XS.iconst X321.here hx rfl (hb hby at_87) ?_
          show Steps _ _ _ (T321.setTop (mkF m 88 #[iv q1, iv q2, iv q3, iv 1, iv 2, iv 0, .unset, iv 0, .unset] [(.int 1)])) _
          refine XS.goto X321.here hx rfl (pc0 := 88) (pc' := 92) rfl (hb hby at_88) (by decide) (by decide) ?_
          show Steps _ _ _ (T321.setTop (mkF m 92 #[iv q1, iv q2, iv q3, iv 1, iv 2, iv 0, .unset, iv 0, .unset] [(.int 1)])) _
          refine XS.istore X321.here hx rfl (hb hby at_92) rfl (l' := #[iv q1, iv q2, iv q3, iv 1, iv 2, iv 0, .unset, iv 0, iv 1]) rfl ?_
          show Steps _ _ _ (T321.setTop (mkF m 94 #[iv q1, iv q2, iv q3, iv 1, iv 2, iv 0, .unset, iv 0, iv 1] [])) _
          refine XS.iload X321.here hx rfl (hb hby at_94) rfl ?_
          show Steps _ _ _ (T321.setTop (mkF m 96 #[iv q1, iv q2, iv q3, iv 1, iv 2, iv 0, .unset, iv 0, iv 1] [(.int 0)])) _
          refine XS.ifYes X321.here hx rfl (pc0 := 96) (pc' := 108) rfl (hb hby at_96) rfl (by decide) (by decide) (by decide) ?_
          show Steps _ _ _ (T321.setTop (mkF m 108 #[iv q1, iv q2, iv q3, iv 1, iv 2, iv 0, .unset, iv 0, iv 1] [])) _
          refine XS.iconst X321.here hx rfl (hb hby at_108) ?_
          show Steps _ _ _ (T321.setTop (mkF m 109 #[iv q1, iv q2, iv q3, iv 1, iv 2, iv 0, .unset, iv 0, iv 1] [(.int 0)])) _
          refine XS.istore X321.here hx rfl (hb hby at_109) rfl (l' := #[iv q1, iv q2, iv q3, iv 1, iv 2, iv 0, iv 0, iv 0, iv 1]) rfl ?_
          show Steps _ _ _ (T321.setTop (mkF m 111 #[iv q1, iv q2, iv q3, iv 1, iv 2, iv 0, iv 0, iv 0, iv 1] [])) _
          refine XS.iloadN X321.here hx rfl (hb hby at_111) rfl ?_
          show Steps _ _ _ (T321.setTop (mkF m 112 #[iv q1, iv q2, iv q3, iv 1, iv 2, iv 0, iv 0, iv 0, iv 1] [(.int 1)])) _
          exact q
        obtain ⟨_, _, ⟨T323, L323, k323, n323⟩, -, X323, ⟨Lc323, hQ323, l323, y323, z323⟩, st323⟩ := Jvm.LawKit.callS X321 hx (y := y_2) hown (mvT hZ (hw _ (wd 0 rfl))) (mvT hZ (hw _ (wd 1 rfl))) (mvT hZ (hw _ (wd 2 rfl))) (mvT hZ (hw _ (wd 3 rfl))) (by decide) (backOf (W := 0) (kd l Z a0 hw [] a_NEXT_KEY a_GAP a_RECORD a_INSERT_INTENTION G (1 : Int32) 1 h0 n0 O0 (Or.inr (Or.inl ⟨by decide, rfl⟩))) hZ (hw _ (wd 3 rfl)) (hw _ (wd 2 rfl)) (by decide) (by decide)) (g := (mkF m 112 #[iv q1, iv q2, iv q3, iv 1, iv 2, iv 0, iv 0, iv 0, iv 1] [(.int 1)])) rfl (by rw [hml]; rfl) (argsL := [(.int 1)]) (rest := []) (lenOf pd_1 rfl) rfl (by show 2 * 0 + _ ≤ _; exact Nat.le_of_eq rfl) (hb hby at_112) (fun _ _ => ⟨rfl, e321, (by decide : 0 + 1 ≤ _), (by decide : 0 + 4 ≤ _)⟩)
        dsimp only [Pt.U, Pt.locs, Pt.cells, Pt.slots] at X323 l323 y323 z323 st323 hQ323
        subst l323 y323 z323
        obtain ⟨rfl, N323q, K323⟩ := hQ323
        have N323 := Fr.app N321 N323q
        have O_324 := O0.keep K323 all0
        have K_325 := K0.trans K323 all0
        have k_326 : Go p.tables e below (s₁.setTop (entryFrame m #[(.int q1), (.int q2), (.int q3)] maxLocals)) (T323.setTop (mkF m 117 #[iv q1, iv q2, iv q3, iv 1, iv 2, iv 0, iv 0, iv 0, iv 1] [(.int 2), (.ref a_GAP)])) := fun t q => by
          refine k_322 t ?_
          refine st323 _ ?_
          show Steps _ _ _ (T323.setTop (mkF m 115 #[iv q1, iv q2, iv q3, iv 1, iv 2, iv 0, iv 0, iv 0, iv 1] [(.ref a_GAP)])) _
          refine XS.iload X323.here hx rfl (hb hby at_115) rfl ?_
          show Steps _ _ _ (T323.setTop (mkF m 117 #[iv q1, iv q2, iv q3, iv 1, iv 2, iv 0, iv 0, iv 0, iv 1] [(.int 2), (.ref a_GAP)])) _
          exact q
        obtain ⟨_, _, ⟨T327, L327, k327, n327⟩, -, X327, ⟨Lc327, hQ327, l327, y327, z327⟩, st327⟩ := Jvm.LawKit.callS X323 hx (y := y_2) hown (mvT hZ (hw _ (wd 0 rfl))) (mvT hZ (hw _ (wd 1 rfl))) (mvT hZ (hw _ (wd 2 rfl))) (mvT hZ (hw _ (wd 3 rfl))) (by decide) (backOf (W := 1) (kd l Z a0 hw [] a_NEXT_KEY a_GAP a_RECORD a_INSERT_INTENTION G (2 : Int32) 2 T323.heap n0 O_324 (Or.inr (Or.inr (Or.inl ⟨by decide, rfl⟩)))) hZ (hw _ (wd 3 rfl)) (hw _ (wd 2 rfl)) (by decide) (by decide)) (g := (mkF m 117 #[iv q1, iv q2, iv q3, iv 1, iv 2, iv 0, iv 0, iv 0, iv 1] [(.int 2), (.ref a_GAP)])) rfl (by rw [hml]; rfl) (argsL := [(.int 2)]) (rest := [(.ref a_GAP)]) (lenOf pd_1 rfl) rfl (by show 2 * 0 + _ ≤ _; exact Nat.le_of_eq rfl) (hb hby at_117) (fun _ _ => ⟨rfl, (rfl : T323.heap = _), (by decide : 1 + 1 ≤ _), (by decide : 4 + 4 ≤ _)⟩)
        dsimp only [Pt.U, Pt.locs, Pt.cells, Pt.slots] at X327 l327 y327 z327 st327 hQ327
        subst l327 y327 z327
        obtain ⟨rfl, N327q, K327⟩ := hQ327
        have N327 := Fr.app N323 N327q
        have O_328 := O_324.keep K327 all0
        have K_329 := K_325.trans K327 all0
        have k_330 : Go p.tables e below (s₁.setTop (entryFrame m #[(.int q1), (.int q2), (.int q3)] maxLocals)) (T327.setTop (mkF m 122 #[iv q1, iv q2, iv q3, iv 1, iv 2, iv 0, iv 0, iv 0, iv 1] [(.int 0), (.ref a_RECORD), (.ref a_GAP)])) := fun t q => by
          refine k_326 t ?_
          refine st327 _ ?_
          show Steps _ _ _ (T327.setTop (mkF m 120 #[iv q1, iv q2, iv q3, iv 1, iv 2, iv 0, iv 0, iv 0, iv 1] [(.ref a_RECORD), (.ref a_GAP)])) _
          refine XS.iload X327.here hx rfl (hb hby at_120) rfl ?_
          show Steps _ _ _ (T327.setTop (mkF m 122 #[iv q1, iv q2, iv q3, iv 1, iv 2, iv 0, iv 0, iv 0, iv 1] [(.int 0), (.ref a_RECORD), (.ref a_GAP)])) _
          exact q
        obtain ⟨cq331, kq331, q331a, q331b, q331c⟩ := isOf hZ (rfl : T327.heap = _) (Exa.ext O_328.2 E_GAP)
        obtain ⟨_, _, ⟨T331, L331, k331, n331⟩, -, X331, ⟨Lc331, hQ331, l331, y331, z331⟩, st331⟩ := X327.virtualBack hx (y := y_3) (z := y_3) hown (mvT hZ (hw _ (wd 16 rfl))) (mvT hZ (hw _ (wd 17 rfl))) (notFace_of_selects (args := #[]) (mvT hZ (hw _ (wd 19 rfl)))) (mvT hZ (hw _ (wd 19 rfl))) (mvT hZ (hw _ (wd 18 rfl))) (by decide) (backOf (W := 0) (cv_1_2_0 l Z a0 hw [] a_NEXT_KEY a_GAP a_RECORD a_INSERT_INTENTION G  T327.heap n0 O_328 ) hZ (hw _ (wd 20 rfl)) (hw _ (wd 7 rfl)) (by decide) (by decide)) q331a q331c (g := (mkF m 122 #[iv q1, iv q2, iv q3, iv 1, iv 2, iv 0, iv 0, iv 0, iv 1] [(.int 0), (.ref a_RECORD), (.ref a_GAP)])) rfl (by rw [hml]; rfl) (Steps.refl _) (argsL := [(.ref a_RECORD), (.int 0)]) (rest := []) (lenOf pd_2 rfl) rfl (by show 2 * 0 + _ ≤ _; exact Nat.le_of_eq rfl) (hb hby at_122) (fun _ _ => ⟨rfl, (rfl : T327.heap = _), (by decide : 2 + 0 ≤ _), (by decide : 8 + 0 ≤ _)⟩)
        dsimp only [Pt.U, Pt.locs, Pt.cells, Pt.slots] at X331 l331 y331 z331 st331 hQ331
        subst l331 y331 z331
        obtain ⟨rfl, N331q, e331⟩ := hQ331
        have N331 := Fr.app N327 N331q
        have k_332 : Go p.tables e below (s₁.setTop (entryFrame m #[(.int q1), (.int q2), (.int q3)] maxLocals)) (T331.setTop (mkF m 139 #[iv q1, iv q2, iv q3, iv 1, iv 2, iv 0, iv 0, iv 0, iv 1] [(.int 1)])) := fun t q => by
          refine k_330 t ?_
          refine st331.trans ?_
          show Steps _ _ _ (T331.setTop (mkF m 125 #[iv q1, iv q2, iv q3, iv 1, iv 2, iv 0, iv 0, iv 0, iv 1] [(.int 0)])) _
          refine XS.istore X331.here hx rfl (hb hby at_125) rfl (l' := #[iv q1, iv q2, iv q3, iv 1, iv 2, iv 0, iv 0, iv 0, iv 1]) rfl ?_
          show Steps _ _ _ (T331.setTop (mkF m 127 #[iv q1, iv q2, iv q3, iv 1, iv 2, iv 0, iv 0, iv 0, iv 1] [])) _
          refine XS.iload X331.here hx rfl (hb hby at_127) rfl ?_
          show Steps _ _ _ (T331.setTop (mkF m 129 #[iv q1, iv q2, iv q3, iv 1, iv 2, iv 0, iv 0, iv 0, iv 1] [(.int 0)])) _
          refine XS.iload X331.here hx rfl (hb hby at_129) rfl ?_
          show Steps _ _ _ (T331.setTop (mkF m 131 #[iv q1, iv q2, iv q3, iv 1, iv 2, iv 0, iv 0, iv 0, iv 1] [(.int 0), (.int 0)])) _
          refine XS.icmpNo X331.here hx rfl (hb hby at_131) rfl (by decide) ?_
          show Steps _ _ _ (T331.setTop (mkF m 134 #[iv q1, iv q2, iv q3, iv 1, iv 2, iv 0, iv 0, iv 0, iv 1] [])) _
          refine XS.iconst X331.here hx rfl (hb hby at_134) ?_
          show Steps _ _ _ (T331.setTop (mkF m 135 #[iv q1, iv q2, iv q3, iv 1, iv 2, iv 0, iv 0, iv 0, iv 1] [(.int 1)])) _
          refine XS.goto X331.here hx rfl (pc0 := 135) (pc' := 139) rfl (hb hby at_135) (by decide) (by decide) ?_
          show Steps _ _ _ (T331.setTop (mkF m 139 #[iv q1, iv q2, iv q3, iv 1, iv 2, iv 0, iv 0, iv 0, iv 1] [(.int 1)])) _
          exact q
        obtain ⟨fs, hr, hrun, hended, hW, hsame⟩ := X331.leave (v := some (.int 1)) (fun h => by rw [Bd.returns] at h; cases h)
        refine ⟨_, _, k_332 _ ?_, hrun, hended, _, _, rfl, ?_, ⟨_, rfl⟩, hW, hsame.mono (by decide) (by decide)⟩
        · exact retN X331 hx (t := .boolean) Bd.returns (by simp) (hb hby at_139) hr
        · show Q0 n0 _ T331.heap _
          rw [e331]
          exact ⟨rfl, N331⟩
      · skip
        have k_333 : Go p.tables e below (s₁.setTop (entryFrame m #[(.int q1), (.int q2), (.int q3)] maxLocals)) (s₁.setTop (mkF m 112 #[iv q1, iv q2, iv q3, iv 1, iv 3, iv 0, iv 0, .unset, .unset] [(.int 1)])) := fun t q => by
          refine k0 t ?_
          refine XS.iloadN X0.here hx rfl (hb hby at_0) rfl ?_
          show Steps _ _ _ (s₁.setTop (mkF m 1 #[iv q1, iv q2, iv q3, .unset, .unset, .unset, .unset, .unset, .unset] [(.int q1)])) _
          refine XS.iconst X0.here hx rfl (hb hby at_1) ?_
          show Steps _ _ _ (s₁.setTop (mkF m 2 #[iv q1, iv q2, iv q3, .unset, .unset, .unset, .unset, .unset, .unset] [(.int 3), (.int q1)])) _
          refine XS.iand X0.here hx rfl (hb hby at_2) rfl ?_
          show Steps _ _ _ (s₁.setTop (mkF m 3 #[iv q1, iv q2, iv q3, .unset, .unset, .unset, .unset, .unset, .unset] [(.int (q1 &&& (3 : Int32)))])) _
          rw [hi]
          show Steps _ _ _ (s₁.setTop (mkF m 3 #[iv q1, iv q2, iv q3, .unset, .unset, .unset, .unset, .unset, .unset] [(.int 1)])) _
          refine XS.istoreN X0.here hx rfl (hb hby at_3) rfl (l' := #[iv q1, iv q2, iv q3, iv 1, .unset, .unset, .unset, .unset, .unset]) rfl ?_
          show Steps _ _ _ (s₁.setTop (mkF m 4 #[iv q1, iv q2, iv q3, iv 1, .unset, .unset, .unset, .unset, .unset] [])) _
          refine XS.iloadN X0.here hx rfl (hb hby at_4) rfl ?_
          show Steps _ _ _ (s₁.setTop (mkF m 5 #[iv q1, iv q2, iv q3, iv 1, .unset, .unset, .unset, .unset, .unset] [(.int q2)])) _
          refine XS.iconst X0.here hx rfl (hb hby at_5) ?_
          show Steps _ _ _ (s₁.setTop (mkF m 6 #[iv q1, iv q2, iv q3, iv 1, .unset, .unset, .unset, .unset, .unset] [(.int 3), (.int q2)])) _
          refine XS.iand X0.here hx rfl (hb hby at_6) rfl ?_
          show Steps _ _ _ (s₁.setTop (mkF m 7 #[iv q1, iv q2, iv q3, iv 1, .unset, .unset, .unset, .unset, .unset] [(.int (q2 &&& (3 : Int32)))])) _
          rw [hj]
          show Steps _ _ _ (s₁.setTop (mkF m 7 #[iv q1, iv q2, iv q3, iv 1, .unset, .unset, .unset, .unset, .unset] [(.int 3)])) _
          refine XS.istore X0.here hx rfl (hb hby at_7) rfl (l' := #[iv q1, iv q2, iv q3, iv 1, iv 3, .unset, .unset, .unset, .unset]) rfl ?_
          show Steps _ _ _ (s₁.setTop (mkF m 9 #[iv q1, iv q2, iv q3, iv 1, iv 3, .unset, .unset, .unset, .unset] [])) _
          refine XS.iloadN X0.here hx rfl (hb hby at_9) rfl ?_
          show Steps _ _ _ (s₁.setTop (mkF m 10 #[iv q1, iv q2, iv q3, iv 1, iv 3, .unset, .unset, .unset, .unset] [(.int q3)])) _
          refine XS.iconst X0.here hx rfl (hb hby at_10) ?_
          show Steps _ _ _ (s₁.setTop (mkF m 11 #[iv q1, iv q2, iv q3, iv 1, iv 3, .unset, .unset, .unset, .unset] [(.int 1), (.int q3)])) _
          refine XS.iand X0.here hx rfl (hb hby at_11) rfl ?_
          show Steps _ _ _ (s₁.setTop (mkF m 12 #[iv q1, iv q2, iv q3, iv 1, iv 3, .unset, .unset, .unset, .unset] [(.int (q3 &&& (1 : Int32)))])) _
          rw [hs]
          show Steps _ _ _ (s₁.setTop (mkF m 12 #[iv q1, iv q2, iv q3, iv 1, iv 3, .unset, .unset, .unset, .unset] [(.int 0)])) _
          refine XS.ifYes X0.here hx rfl (pc0 := 12) (pc' := 19) rfl (hb hby at_12) rfl (by decide) (by decide) (by decide) ?_
          show Steps _ _ _ (s₁.setTop (mkF m 19 #[iv q1, iv q2, iv q3, iv 1, iv 3, .unset, .unset, .unset, .unset] [])) _
          refine XS.iconst X0.here hx rfl (hb hby at_19) ?_
          show Steps _ _ _ (s₁.setTop (mkF m 20 #[iv q1, iv q2, iv q3, iv 1, iv 3, .unset, .unset, .unset, .unset] [(.int 0)])) _
          refine XS.istore X0.here hx rfl (hb hby at_20) rfl (l' := #[iv q1, iv q2, iv q3, iv 1, iv 3, iv 0, .unset, .unset, .unset]) rfl ?_
          show Steps _ _ _ (s₁.setTop (mkF m 22 #[iv q1, iv q2, iv q3, iv 1, iv 3, iv 0, .unset, .unset, .unset] [])) _
          refine XS.iloadN X0.here hx rfl (hb hby at_22) rfl ?_
          show Steps _ _ _ (s₁.setTop (mkF m 23 #[iv q1, iv q2, iv q3, iv 1, iv 3, iv 0, .unset, .unset, .unset] [(.int 1)])) _
          refine XS.iconst X0.here hx rfl (hb hby at_23) ?_
          show Steps _ _ _ (s₁.setTop (mkF m 24 #[iv q1, iv q2, iv q3, iv 1, iv 3, iv 0, .unset, .unset, .unset] [(.int 3), (.int 1)])) _
          refine XS.icmpNo X0.here hx rfl (hb hby at_24) rfl (by decide) ?_
          show Steps _ _ _ (s₁.setTop (mkF m 27 #[iv q1, iv q2, iv q3, iv 1, iv 3, iv 0, .unset, .unset, .unset] [])) _
          refine XS.iload X0.here hx rfl (hb hby at_27) rfl ?_
          show Steps _ _ _ (s₁.setTop (mkF m 29 #[iv q1, iv q2, iv q3, iv 1, iv 3, iv 0, .unset, .unset, .unset] [(.int 3)])) _
          refine XS.iconst X0.here hx rfl (hb hby at_29) ?_
          show Steps _ _ _ (s₁.setTop (mkF m 30 #[iv q1, iv q2, iv q3, iv 1, iv 3, iv 0, .unset, .unset, .unset] [(.int 3), (.int 3)])) _
          refine XS.icmpNo X0.here hx rfl (hb hby at_30) rfl (by decide) ?_
          show Steps _ _ _ (s₁.setTop (mkF m 33 #[iv q1, iv q2, iv q3, iv 1, iv 3, iv 0, .unset, .unset, .unset] [])) _
          refine XS.iconst X0.here hx rfl (hb hby at_33) ?_
          show Steps _ _ _ (s₁.setTop (mkF m 34 #[iv q1, iv q2, iv q3, iv 1, iv 3, iv 0, .unset, .unset, .unset] [(.int 0)])) _
          refine XS.istore X0.here hx rfl (hb hby at_34) rfl (l' := #[iv q1, iv q2, iv q3, iv 1, iv 3, iv 0, iv 0, .unset, .unset]) rfl ?_
          show Steps _ _ _ (s₁.setTop (mkF m 36 #[iv q1, iv q2, iv q3, iv 1, iv 3, iv 0, iv 0, .unset, .unset] [])) _
          refine XS.goto X0.here hx rfl (pc0 := 36) (pc' := 111) rfl (hb hby at_36) (by decide) (by decide) ?_
          show Steps _ _ _ (s₁.setTop (mkF m 111 #[iv q1, iv q2, iv q3, iv 1, iv 3, iv 0, iv 0, .unset, .unset] [])) _
          refine XS.iloadN X0.here hx rfl (hb hby at_111) rfl ?_
          show Steps _ _ _ (s₁.setTop (mkF m 112 #[iv q1, iv q2, iv q3, iv 1, iv 3, iv 0, iv 0, .unset, .unset] [(.int 1)])) _
          exact q
        obtain ⟨_, _, ⟨T334, L334, k334, n334⟩, -, X334, ⟨Lc334, hQ334, l334, y334, z334⟩, st334⟩ := Jvm.LawKit.callS X0 hx (y := y_2) hown (mvT hZ (hw _ (wd 0 rfl))) (mvT hZ (hw _ (wd 1 rfl))) (mvT hZ (hw _ (wd 2 rfl))) (mvT hZ (hw _ (wd 3 rfl))) (by decide) (backOf (W := 0) (kd l Z a0 hw [] a_NEXT_KEY a_GAP a_RECORD a_INSERT_INTENTION G (1 : Int32) 1 h0 n0 O0 (Or.inr (Or.inl ⟨by decide, rfl⟩))) hZ (hw _ (wd 3 rfl)) (hw _ (wd 2 rfl)) (by decide) (by decide)) (g := (mkF m 112 #[iv q1, iv q2, iv q3, iv 1, iv 3, iv 0, iv 0, .unset, .unset] [(.int 1)])) rfl (by rw [hml]; rfl) (argsL := [(.int 1)]) (rest := []) (lenOf pd_1 rfl) rfl (by show 2 * 0 + _ ≤ _; exact Nat.le_of_eq rfl) (hb hby at_112) (fun _ _ => ⟨rfl, e0, (by decide : 0 + 1 ≤ _), (by decide : 0 + 4 ≤ _)⟩)
        dsimp only [Pt.U, Pt.locs, Pt.cells, Pt.slots] at X334 l334 y334 z334 st334 hQ334
        subst l334 y334 z334
        obtain ⟨rfl, N334q, K334⟩ := hQ334
        have N334 := Fr.app N0 N334q
        have O_335 := O0.keep K334 all0
        have K_336 := K0.trans K334 all0
        have k_337 : Go p.tables e below (s₁.setTop (entryFrame m #[(.int q1), (.int q2), (.int q3)] maxLocals)) (T334.setTop (mkF m 117 #[iv q1, iv q2, iv q3, iv 1, iv 3, iv 0, iv 0, .unset, .unset] [(.int 3), (.ref a_GAP)])) := fun t q => by
          refine k_333 t ?_
          refine st334 _ ?_
          show Steps _ _ _ (T334.setTop (mkF m 115 #[iv q1, iv q2, iv q3, iv 1, iv 3, iv 0, iv 0, .unset, .unset] [(.ref a_GAP)])) _
          refine XS.iload X334.here hx rfl (hb hby at_115) rfl ?_
          show Steps _ _ _ (T334.setTop (mkF m 117 #[iv q1, iv q2, iv q3, iv 1, iv 3, iv 0, iv 0, .unset, .unset] [(.int 3), (.ref a_GAP)])) _
          exact q
        obtain ⟨_, _, ⟨T338, L338, k338, n338⟩, -, X338, ⟨Lc338, hQ338, l338, y338, z338⟩, st338⟩ := Jvm.LawKit.callS X334 hx (y := y_2) hown (mvT hZ (hw _ (wd 0 rfl))) (mvT hZ (hw _ (wd 1 rfl))) (mvT hZ (hw _ (wd 2 rfl))) (mvT hZ (hw _ (wd 3 rfl))) (by decide) (backOf (W := 1) (kd l Z a0 hw [] a_NEXT_KEY a_GAP a_RECORD a_INSERT_INTENTION G (3 : Int32) 3 T334.heap n0 O_335 (Or.inr (Or.inr (Or.inr ⟨by decide, rfl⟩)))) hZ (hw _ (wd 3 rfl)) (hw _ (wd 2 rfl)) (by decide) (by decide)) (g := (mkF m 117 #[iv q1, iv q2, iv q3, iv 1, iv 3, iv 0, iv 0, .unset, .unset] [(.int 3), (.ref a_GAP)])) rfl (by rw [hml]; rfl) (argsL := [(.int 3)]) (rest := [(.ref a_GAP)]) (lenOf pd_1 rfl) rfl (by show 2 * 0 + _ ≤ _; exact Nat.le_of_eq rfl) (hb hby at_117) (fun _ _ => ⟨rfl, (rfl : T334.heap = _), (by decide : 1 + 1 ≤ _), (by decide : 4 + 4 ≤ _)⟩)
        dsimp only [Pt.U, Pt.locs, Pt.cells, Pt.slots] at X338 l338 y338 z338 st338 hQ338
        subst l338 y338 z338
        obtain ⟨rfl, N338q, K338⟩ := hQ338
        have N338 := Fr.app N334 N338q
        have O_339 := O_335.keep K338 all0
        have K_340 := K_336.trans K338 all0
        have k_341 : Go p.tables e below (s₁.setTop (entryFrame m #[(.int q1), (.int q2), (.int q3)] maxLocals)) (T338.setTop (mkF m 122 #[iv q1, iv q2, iv q3, iv 1, iv 3, iv 0, iv 0, .unset, .unset] [(.int 0), (.ref a_INSERT_INTENTION), (.ref a_GAP)])) := fun t q => by
          refine k_337 t ?_
          refine st338 _ ?_
          show Steps _ _ _ (T338.setTop (mkF m 120 #[iv q1, iv q2, iv q3, iv 1, iv 3, iv 0, iv 0, .unset, .unset] [(.ref a_INSERT_INTENTION), (.ref a_GAP)])) _
          refine XS.iload X338.here hx rfl (hb hby at_120) rfl ?_
          show Steps _ _ _ (T338.setTop (mkF m 122 #[iv q1, iv q2, iv q3, iv 1, iv 3, iv 0, iv 0, .unset, .unset] [(.int 0), (.ref a_INSERT_INTENTION), (.ref a_GAP)])) _
          exact q
        obtain ⟨cq342, kq342, q342a, q342b, q342c⟩ := isOf hZ (rfl : T338.heap = _) (Exa.ext O_339.2 E_GAP)
        obtain ⟨_, _, ⟨T342, L342, k342, n342⟩, -, X342, ⟨Lc342, hQ342, l342, y342, z342⟩, st342⟩ := X338.virtualBack hx (y := y_3) (z := y_3) hown (mvT hZ (hw _ (wd 16 rfl))) (mvT hZ (hw _ (wd 17 rfl))) (notFace_of_selects (args := #[]) (mvT hZ (hw _ (wd 19 rfl)))) (mvT hZ (hw _ (wd 19 rfl))) (mvT hZ (hw _ (wd 18 rfl))) (by decide) (backOf (W := 0) (cv_1_3_0 l Z a0 hw [] a_NEXT_KEY a_GAP a_RECORD a_INSERT_INTENTION G  T338.heap n0 O_339 ) hZ (hw _ (wd 20 rfl)) (hw _ (wd 7 rfl)) (by decide) (by decide)) q342a q342c (g := (mkF m 122 #[iv q1, iv q2, iv q3, iv 1, iv 3, iv 0, iv 0, .unset, .unset] [(.int 0), (.ref a_INSERT_INTENTION), (.ref a_GAP)])) rfl (by rw [hml]; rfl) (Steps.refl _) (argsL := [(.ref a_INSERT_INTENTION), (.int 0)]) (rest := []) (lenOf pd_2 rfl) rfl (by show 2 * 0 + _ ≤ _; exact Nat.le_of_eq rfl) (hb hby at_122) (fun _ _ => ⟨rfl, (rfl : T338.heap = _), (by decide : 2 + 0 ≤ _), (by decide : 8 + 0 ≤ _)⟩)
        dsimp only [Pt.U, Pt.locs, Pt.cells, Pt.slots] at X342 l342 y342 z342 st342 hQ342
        subst l342 y342 z342
        obtain ⟨rfl, N342q, e342⟩ := hQ342
        have N342 := Fr.app N338 N342q
        have k_343 : Go p.tables e below (s₁.setTop (entryFrame m #[(.int q1), (.int q2), (.int q3)] maxLocals)) (T342.setTop (mkF m 139 #[iv q1, iv q2, iv q3, iv 1, iv 3, iv 0, iv 0, iv 0, .unset] [(.int 1)])) := fun t q => by
          refine k_341 t ?_
          refine st342.trans ?_
          show Steps _ _ _ (T342.setTop (mkF m 125 #[iv q1, iv q2, iv q3, iv 1, iv 3, iv 0, iv 0, .unset, .unset] [(.int 0)])) _
          refine XS.istore X342.here hx rfl (hb hby at_125) rfl (l' := #[iv q1, iv q2, iv q3, iv 1, iv 3, iv 0, iv 0, iv 0, .unset]) rfl ?_
          show Steps _ _ _ (T342.setTop (mkF m 127 #[iv q1, iv q2, iv q3, iv 1, iv 3, iv 0, iv 0, iv 0, .unset] [])) _
          refine XS.iload X342.here hx rfl (hb hby at_127) rfl ?_
          show Steps _ _ _ (T342.setTop (mkF m 129 #[iv q1, iv q2, iv q3, iv 1, iv 3, iv 0, iv 0, iv 0, .unset] [(.int 0)])) _
          refine XS.iload X342.here hx rfl (hb hby at_129) rfl ?_
          show Steps _ _ _ (T342.setTop (mkF m 131 #[iv q1, iv q2, iv q3, iv 1, iv 3, iv 0, iv 0, iv 0, .unset] [(.int 0), (.int 0)])) _
          refine XS.icmpNo X342.here hx rfl (hb hby at_131) rfl (by decide) ?_
          show Steps _ _ _ (T342.setTop (mkF m 134 #[iv q1, iv q2, iv q3, iv 1, iv 3, iv 0, iv 0, iv 0, .unset] [])) _
          refine XS.iconst X342.here hx rfl (hb hby at_134) ?_
          show Steps _ _ _ (T342.setTop (mkF m 135 #[iv q1, iv q2, iv q3, iv 1, iv 3, iv 0, iv 0, iv 0, .unset] [(.int 1)])) _
          refine XS.goto X342.here hx rfl (pc0 := 135) (pc' := 139) rfl (hb hby at_135) (by decide) (by decide) ?_
          show Steps _ _ _ (T342.setTop (mkF m 139 #[iv q1, iv q2, iv q3, iv 1, iv 3, iv 0, iv 0, iv 0, .unset] [(.int 1)])) _
          exact q
        obtain ⟨fs, hr, hrun, hended, hW, hsame⟩ := X342.leave (v := some (.int 1)) (fun h => by rw [Bd.returns] at h; cases h)
        refine ⟨_, _, k_343 _ ?_, hrun, hended, _, _, rfl, ?_, ⟨_, rfl⟩, hW, hsame.mono (by decide) (by decide)⟩
        · exact retN X342 hx (t := .boolean) Bd.returns (by simp) (hb hby at_139) hr
        · show Q0 n0 _ T342.heap _
          rw [e342]
          exact ⟨rfl, N342⟩
    · skip
      rcases own_mask_4 q2 with hj | hj | hj | hj
      · skip
        have k_344 : Go p.tables e below (s₁.setTop (entryFrame m #[(.int q1), (.int q2), (.int q3)] maxLocals)) (s₁.setTop (mkF m 52 #[iv q1, iv q2, iv q3, iv 2, iv 0, iv 0, .unset, .unset, .unset] [(.int 0)])) := fun t q => by
          refine k0 t ?_
          refine XS.iloadN X0.here hx rfl (hb hby at_0) rfl ?_
          show Steps _ _ _ (s₁.setTop (mkF m 1 #[iv q1, iv q2, iv q3, .unset, .unset, .unset, .unset, .unset, .unset] [(.int q1)])) _
          refine XS.iconst X0.here hx rfl (hb hby at_1) ?_
          show Steps _ _ _ (s₁.setTop (mkF m 2 #[iv q1, iv q2, iv q3, .unset, .unset, .unset, .unset, .unset, .unset] [(.int 3), (.int q1)])) _
          refine XS.iand X0.here hx rfl (hb hby at_2) rfl ?_
          show Steps _ _ _ (s₁.setTop (mkF m 3 #[iv q1, iv q2, iv q3, .unset, .unset, .unset, .unset, .unset, .unset] [(.int (q1 &&& (3 : Int32)))])) _
          rw [hi]
          show Steps _ _ _ (s₁.setTop (mkF m 3 #[iv q1, iv q2, iv q3, .unset, .unset, .unset, .unset, .unset, .unset] [(.int 2)])) _
          refine XS.istoreN X0.here hx rfl (hb hby at_3) rfl (l' := #[iv q1, iv q2, iv q3, iv 2, .unset, .unset, .unset, .unset, .unset]) rfl ?_
          show Steps _ _ _ (s₁.setTop (mkF m 4 #[iv q1, iv q2, iv q3, iv 2, .unset, .unset, .unset, .unset, .unset] [])) _
          refine XS.iloadN X0.here hx rfl (hb hby at_4) rfl ?_
          show Steps _ _ _ (s₁.setTop (mkF m 5 #[iv q1, iv q2, iv q3, iv 2, .unset, .unset, .unset, .unset, .unset] [(.int q2)])) _
          refine XS.iconst X0.here hx rfl (hb hby at_5) ?_
          show Steps _ _ _ (s₁.setTop (mkF m 6 #[iv q1, iv q2, iv q3, iv 2, .unset, .unset, .unset, .unset, .unset] [(.int 3), (.int q2)])) _
          refine XS.iand X0.here hx rfl (hb hby at_6) rfl ?_
          show Steps _ _ _ (s₁.setTop (mkF m 7 #[iv q1, iv q2, iv q3, iv 2, .unset, .unset, .unset, .unset, .unset] [(.int (q2 &&& (3 : Int32)))])) _
          rw [hj]
          show Steps _ _ _ (s₁.setTop (mkF m 7 #[iv q1, iv q2, iv q3, iv 2, .unset, .unset, .unset, .unset, .unset] [(.int 0)])) _
          refine XS.istore X0.here hx rfl (hb hby at_7) rfl (l' := #[iv q1, iv q2, iv q3, iv 2, iv 0, .unset, .unset, .unset, .unset]) rfl ?_
          show Steps _ _ _ (s₁.setTop (mkF m 9 #[iv q1, iv q2, iv q3, iv 2, iv 0, .unset, .unset, .unset, .unset] [])) _
          refine XS.iloadN X0.here hx rfl (hb hby at_9) rfl ?_
          show Steps _ _ _ (s₁.setTop (mkF m 10 #[iv q1, iv q2, iv q3, iv 2, iv 0, .unset, .unset, .unset, .unset] [(.int q3)])) _
          refine XS.iconst X0.here hx rfl (hb hby at_10) ?_
          show Steps _ _ _ (s₁.setTop (mkF m 11 #[iv q1, iv q2, iv q3, iv 2, iv 0, .unset, .unset, .unset, .unset] [(.int 1), (.int q3)])) _
          refine XS.iand X0.here hx rfl (hb hby at_11) rfl ?_
          show Steps _ _ _ (s₁.setTop (mkF m 12 #[iv q1, iv q2, iv q3, iv 2, iv 0, .unset, .unset, .unset, .unset] [(.int (q3 &&& (1 : Int32)))])) _
          rw [hs]
          show Steps _ _ _ (s₁.setTop (mkF m 12 #[iv q1, iv q2, iv q3, iv 2, iv 0, .unset, .unset, .unset, .unset] [(.int 0)])) _
          refine XS.ifYes X0.here hx rfl (pc0 := 12) (pc' := 19) rfl (hb hby at_12) rfl (by decide) (by decide) (by decide) ?_
          show Steps _ _ _ (s₁.setTop (mkF m 19 #[iv q1, iv q2, iv q3, iv 2, iv 0, .unset, .unset, .unset, .unset] [])) _
          refine XS.iconst X0.here hx rfl (hb hby at_19) ?_
          show Steps _ _ _ (s₁.setTop (mkF m 20 #[iv q1, iv q2, iv q3, iv 2, iv 0, .unset, .unset, .unset, .unset] [(.int 0)])) _
          refine XS.istore X0.here hx rfl (hb hby at_20) rfl (l' := #[iv q1, iv q2, iv q3, iv 2, iv 0, iv 0, .unset, .unset, .unset]) rfl ?_
          show Steps _ _ _ (s₁.setTop (mkF m 22 #[iv q1, iv q2, iv q3, iv 2, iv 0, iv 0, .unset, .unset, .unset] [])) _
          refine XS.iloadN X0.here hx rfl (hb hby at_22) rfl ?_
          show Steps _ _ _ (s₁.setTop (mkF m 23 #[iv q1, iv q2, iv q3, iv 2, iv 0, iv 0, .unset, .unset, .unset] [(.int 2)])) _
          refine XS.iconst X0.here hx rfl (hb hby at_23) ?_
          show Steps _ _ _ (s₁.setTop (mkF m 24 #[iv q1, iv q2, iv q3, iv 2, iv 0, iv 0, .unset, .unset, .unset] [(.int 3), (.int 2)])) _
          refine XS.icmpNo X0.here hx rfl (hb hby at_24) rfl (by decide) ?_
          show Steps _ _ _ (s₁.setTop (mkF m 27 #[iv q1, iv q2, iv q3, iv 2, iv 0, iv 0, .unset, .unset, .unset] [])) _
          refine XS.iload X0.here hx rfl (hb hby at_27) rfl ?_
          show Steps _ _ _ (s₁.setTop (mkF m 29 #[iv q1, iv q2, iv q3, iv 2, iv 0, iv 0, .unset, .unset, .unset] [(.int 0)])) _
          refine XS.iconst X0.here hx rfl (hb hby at_29) ?_
          show Steps _ _ _ (s₁.setTop (mkF m 30 #[iv q1, iv q2, iv q3, iv 2, iv 0, iv 0, .unset, .unset, .unset] [(.int 3), (.int 0)])) _
          refine XS.icmpYes X0.here hx rfl (pc0 := 30) (pc' := 39) rfl (hb hby at_30) rfl (by decide) (by decide) (by decide) ?_
          show Steps _ _ _ (s₁.setTop (mkF m 39 #[iv q1, iv q2, iv q3, iv 2, iv 0, iv 0, .unset, .unset, .unset] [])) _
          refine XS.iload X0.here hx rfl (hb hby at_39) rfl ?_
          show Steps _ _ _ (s₁.setTop (mkF m 41 #[iv q1, iv q2, iv q3, iv 2, iv 0, iv 0, .unset, .unset, .unset] [(.int 0)])) _
          refine XS.ifYes X0.here hx rfl (pc0 := 41) (pc' := 50) rfl (hb hby at_41) rfl (by decide) (by decide) (by decide) ?_
          show Steps _ _ _ (s₁.setTop (mkF m 50 #[iv q1, iv q2, iv q3, iv 2, iv 0, iv 0, .unset, .unset, .unset] [])) _
          refine XS.iload X0.here hx rfl (hb hby at_50) rfl ?_
          show Steps _ _ _ (s₁.setTop (mkF m 52 #[iv q1, iv q2, iv q3, iv 2, iv 0, iv 0, .unset, .unset, .unset] [(.int 0)])) _
          exact q
        obtain ⟨_, _, ⟨T345, L345, k345, n345⟩, -, X345, ⟨Lc345, hQ345, l345, y345, z345⟩, st345⟩ := Jvm.LawKit.callS X0 hx (y := y_0) hown (mvT hZ (hw _ (wd 22 rfl))) (mvT hZ (hw _ (wd 23 rfl))) (mvT hZ (hw _ (wd 2 rfl))) (mvT hZ (hw _ (wd 24 rfl))) (by decide) (backOf (W := 0) (hr_0 l Z a0 hw [] a_NEXT_KEY a_GAP a_RECORD a_INSERT_INTENTION G  h0 n0 O0 ) hZ (hw _ (wd 24 rfl)) (hw _ (wd 2 rfl)) (by decide) (by decide)) (g := (mkF m 52 #[iv q1, iv q2, iv q3, iv 2, iv 0, iv 0, .unset, .unset, .unset] [(.int 0)])) rfl (by rw [hml]; rfl) (argsL := [(.int 0)]) (rest := []) (lenOf pd_0 rfl) rfl (by show 2 * 0 + _ ≤ _; exact Nat.le_of_eq rfl) (hb hby at_52) (fun _ _ => ⟨rfl, e0, (by decide : 0 + 0 ≤ _), (by decide : 0 + 0 ≤ _)⟩)
        dsimp only [Pt.U, Pt.locs, Pt.cells, Pt.slots] at X345 l345 y345 z345 st345 hQ345
        subst l345 y345 z345
        obtain ⟨rfl, N345q, e345⟩ := hQ345
        have N345 := Fr.app N0 N345q
        have k_346 : Go p.tables e below (s₁.setTop (entryFrame m #[(.int q1), (.int q2), (.int q3)] maxLocals)) (T345.setTop (mkF m 59 #[iv q1, iv q2, iv q3, iv 2, iv 0, iv 0, .unset, .unset, .unset] [(.int 2)])) := fun t q => by
          refine k_344 t ?_
          refine st345 _ ?_
          show Steps _ _ _ (T345.setTop (mkF m 55 #[iv q1, iv q2, iv q3, iv 2, iv 0, iv 0, .unset, .unset, .unset] [(.int 1)])) _
          refine XS.ifNo X345.here hx rfl (hb hby at_55) rfl (by decide) ?_
          show Steps _ _ _ (T345.setTop (mkF m 58 #[iv q1, iv q2, iv q3, iv 2, iv 0, iv 0, .unset, .unset, .unset] [])) _
          refine XS.iloadN X345.here hx rfl (hb hby at_58) rfl ?_
          show Steps _ _ _ (T345.setTop (mkF m 59 #[iv q1, iv q2, iv q3, iv 2, iv 0, iv 0, .unset, .unset, .unset] [(.int 2)])) _
          exact q
        obtain ⟨_, _, ⟨T347, L347, k347, n347⟩, -, X347, ⟨Lc347, hQ347, l347, y347, z347⟩, st347⟩ := Jvm.LawKit.callS X345 hx (y := y_0) hown (mvT hZ (hw _ (wd 22 rfl))) (mvT hZ (hw _ (wd 23 rfl))) (mvT hZ (hw _ (wd 2 rfl))) (mvT hZ (hw _ (wd 24 rfl))) (by decide) (backOf (W := 0) (hr_2 l Z a0 hw [] a_NEXT_KEY a_GAP a_RECORD a_INSERT_INTENTION G  h0 n0 O0 ) hZ (hw _ (wd 24 rfl)) (hw _ (wd 2 rfl)) (by decide) (by decide)) (g := (mkF m 59 #[iv q1, iv q2, iv q3, iv 2, iv 0, iv 0, .unset, .unset, .unset] [(.int 2)])) rfl (by rw [hml]; rfl) (argsL := [(.int 2)]) (rest := []) (lenOf pd_0 rfl) rfl (by show 2 * 0 + _ ≤ _; exact Nat.le_of_eq rfl) (hb hby at_59) (fun _ _ => ⟨rfl, e345, (by decide : 0 + 0 ≤ _), (by decide : 0 + 0 ≤ _)⟩)
        dsimp only [Pt.U, Pt.locs, Pt.cells, Pt.slots] at X347 l347 y347 z347 st347 hQ347
        subst l347 y347 z347
        obtain ⟨rfl, N347q, e347⟩ := hQ347
        have N347 := Fr.app N345 N347q
        have k_348 : Go p.tables e below (s₁.setTop (entryFrame m #[(.int q1), (.int q2), (.int q3)] maxLocals)) (T347.setTop (mkF m 74 #[iv q1, iv q2, iv q3, iv 2, iv 0, iv 0, .unset, iv 1, .unset] [(.int 0)])) := fun t q => by
          refine k_346 t ?_
          refine st347 _ ?_
          show Steps _ _ _ (T347.setTop (mkF m 62 #[iv q1, iv q2, iv q3, iv 2, iv 0, iv 0, .unset, .unset, .unset] [(.int 1)])) _
          refine XS.ifNo X347.here hx rfl (hb hby at_62) rfl (by decide) ?_
          show Steps _ _ _ (T347.setTop (mkF m 65 #[iv q1, iv q2, iv q3, iv 2, iv 0, iv 0, .unset, .unset, .unset] [])) _
          refine XS.iconst X347.here hx rfl (hb hby at_65) ?_
          show Steps _ _ _ (T347.setTop (mkF m 66 #[iv q1, iv q2, iv q3, iv 2, iv 0, iv 0, .unset, .unset, .unset] [(.int 1)])) _
          refine XS.goto X347.here hx rfl (pc0 := 66) (pc' := 70) rfl (hb hby at_66) (by decide) (by decide) ?_
          show Steps _ _ _ (T347.setTop (mkF m 70 #[iv q1, iv q2, iv q3, iv 2, iv 0, iv 0, .unset, .unset, .unset] [(.int 1)])) _
          refine XS.istore X347.here hx rfl (hb hby at_70) rfl (l' := #[iv q1, iv q2, iv q3, iv 2, iv 0, iv 0, .unset, iv 1, .unset]) rfl ?_
          show Steps _ _ _ (T347.setTop (mkF m 72 #[iv q1, iv q2, iv q3, iv 2, iv 0, iv 0, .unset, iv 1, .unset] [])) _
          refine XS.iload X347.here hx rfl (hb hby at_72) rfl ?_
          show Steps _ _ _ (T347.setTop (mkF m 74 #[iv q1, iv q2, iv q3, iv 2, iv 0, iv 0, .unset, iv 1, .unset] [(.int 0)])) _
          exact q
        obtain ⟨_, _, ⟨T349, L349, k349, n349⟩, -, X349, ⟨Lc349, hQ349, l349, y349, z349⟩, st349⟩ := Jvm.LawKit.callS X347 hx (y := y_1) hown (mvT hZ (hw _ (wd 25 rfl))) (mvT hZ (hw _ (wd 26 rfl))) (mvT hZ (hw _ (wd 2 rfl))) (mvT hZ (hw _ (wd 27 rfl))) (by decide) (backOf (W := 0) (hg_0 l Z a0 hw [] a_NEXT_KEY a_GAP a_RECORD a_INSERT_INTENTION G  h0 n0 O0 ) hZ (hw _ (wd 27 rfl)) (hw _ (wd 2 rfl)) (by decide) (by decide)) (g := (mkF m 74 #[iv q1, iv q2, iv q3, iv 2, iv 0, iv 0, .unset, iv 1, .unset] [(.int 0)])) rfl (by rw [hml]; rfl) (argsL := [(.int 0)]) (rest := []) (lenOf pd_0 rfl) rfl (by show 2 * 0 + _ ≤ _; exact Nat.le_of_eq rfl) (hb hby at_74) (fun _ _ => ⟨rfl, e347, (by decide : 0 + 0 ≤ _), (by decide : 0 + 0 ≤ _)⟩)
        dsimp only [Pt.U, Pt.locs, Pt.cells, Pt.slots] at X349 l349 y349 z349 st349 hQ349
        subst l349 y349 z349
        obtain ⟨rfl, N349q, e349⟩ := hQ349
        have N349 := Fr.app N347 N349q
        have k_350 : Go p.tables e below (s₁.setTop (entryFrame m #[(.int q1), (.int q2), (.int q3)] maxLocals)) (T349.setTop (mkF m 81 #[iv q1, iv q2, iv q3, iv 2, iv 0, iv 0, .unset, iv 1, .unset] [(.int 2)])) := fun t q => by
          refine k_348 t ?_
          refine st349 _ ?_
          show Steps _ _ _ (T349.setTop (mkF m 77 #[iv q1, iv q2, iv q3, iv 2, iv 0, iv 0, .unset, iv 1, .unset] [(.int 1)])) _
          refine XS.ifNo X349.here hx rfl (hb hby at_77) rfl (by decide) ?_
          show Steps _ _ _ (T349.setTop (mkF m 80 #[iv q1, iv q2, iv q3, iv 2, iv 0, iv 0, .unset, iv 1, .unset] [])) _
          refine XS.iloadN X349.here hx rfl (hb hby at_80) rfl ?_
          show Steps _ _ _ (T349.setTop (mkF m 81 #[iv q1, iv q2, iv q3, iv 2, iv 0, iv 0, .unset, iv 1, .unset] [(.int 2)])) _
          exact q
        obtain ⟨_, _, ⟨T351, L351, k351, n351⟩, -, X351, ⟨Lc351, hQ351, l351, y351, z351⟩, st351⟩ := Jvm.LawKit.callS X349 hx (y := y_1) hown (mvT hZ (hw _ (wd 25 rfl))) (mvT hZ (hw _ (wd 26 rfl))) (mvT hZ (hw _ (wd 2 rfl))) (mvT hZ (hw _ (wd 27 rfl))) (by decide) (backOf (W := 0) (hg_2 l Z a0 hw [] a_NEXT_KEY a_GAP a_RECORD a_INSERT_INTENTION G  h0 n0 O0 ) hZ (hw _ (wd 27 rfl)) (hw _ (wd 2 rfl)) (by decide) (by decide)) (g := (mkF m 81 #[iv q1, iv q2, iv q3, iv 2, iv 0, iv 0, .unset, iv 1, .unset] [(.int 2)])) rfl (by rw [hml]; rfl) (argsL := [(.int 2)]) (rest := []) (lenOf pd_0 rfl) rfl (by show 2 * 0 + _ ≤ _; exact Nat.le_of_eq rfl) (hb hby at_81) (fun _ _ => ⟨rfl, e349, (by decide : 0 + 0 ≤ _), (by decide : 0 + 0 ≤ _)⟩)
        dsimp only [Pt.U, Pt.locs, Pt.cells, Pt.slots] at X351 l351 y351 z351 st351 hQ351
        subst l351 y351 z351
        obtain ⟨rfl, N351q, e351⟩ := hQ351
        have N351 := Fr.app N349 N351q
        have k_352 : Go p.tables e below (s₁.setTop (entryFrame m #[(.int q1), (.int q2), (.int q3)] maxLocals)) (T351.setTop (mkF m 112 #[iv q1, iv q2, iv q3, iv 2, iv 0, iv 0, iv 0, iv 1, iv 0] [(.int 2)])) := fun t q => by
          refine k_350 t ?_
          refine st351 _ ?_
          show Steps _ _ _ (T351.setTop (mkF m 84 #[iv q1, iv q2, iv q3, iv 2, iv 0, iv 0, .unset, iv 1, .unset] [(.int 0)])) _
          refine XS.ifYes X351.here hx rfl (pc0 := 84) (pc' := 91) rfl (hb hby at_84) rfl (by decide) (by decide) (by decide) ?_
          show Steps _ _ _ (T351.setTop (mkF m 91 #[iv q1, iv q2, iv q3, iv 2, iv 0, iv 0, .unset, iv 1, .unset] [])) _
          refine XS.iconst X351.here hx rfl (hb hby at_91) ?_
          show Steps _ _ _ (T351.setTop (mkF m 92 #[iv q1, iv q2, iv q3, iv 2, iv 0, iv 0, .unset, iv 1, .unset] [(.int 0)])) _
          refine XS.istore X351.here hx rfl (hb hby at_92) rfl (l' := #[iv q1, iv q2, iv q3, iv 2, iv 0, iv 0, .unset, iv 1, iv 0]) rfl ?_
          show Steps _ _ _ (T351.setTop (mkF m 94 #[iv q1, iv q2, iv q3, iv 2, iv 0, iv 0, .unset, iv 1, iv 0] [])) _
          refine XS.iload X351.here hx rfl (hb hby at_94) rfl ?_
          show Steps _ _ _ (T351.setTop (mkF m 96 #[iv q1, iv q2, iv q3, iv 2, iv 0, iv 0, .unset, iv 1, iv 0] [(.int 1)])) _
          refine XS.ifNo X351.here hx rfl (hb hby at_96) rfl (by decide) ?_
          show Steps _ _ _ (T351.setTop (mkF m 99 #[iv q1, iv q2, iv q3, iv 2, iv 0, iv 0, .unset, iv 1, iv 0] [])) _
          refine XS.iload X351.here hx rfl (hb hby at_99) rfl ?_
          show Steps _ _ _ (T351.setTop (mkF m 101 #[iv q1, iv q2, iv q3, iv 2, iv 0, iv 0, .unset, iv 1, iv 0] [(.int 0)])) _
          refine XS.ifYes X351.here hx rfl (pc0 := 101) (pc' := 108) rfl (hb hby at_101) rfl (by decide) (by decide) (by decide) ?_
          show Steps _ _ _ (T351.setTop (mkF m 108 #[iv q1, iv q2, iv q3, iv 2, iv 0, iv 0, .unset, iv 1, iv 0] [])) _
          refine XS.iconst X351.here hx rfl (hb hby at_108) ?_
          show Steps _ _ _ (T351.setTop (mkF m 109 #[iv q1, iv q2, iv q3, iv 2, iv 0, iv 0, .unset, iv 1, iv 0] [(.int 0)])) _
          refine XS.istore X351.here hx rfl (hb hby at_109) rfl (l' := #[iv q1, iv q2, iv q3, iv 2, iv 0, iv 0, iv 0, iv 1, iv 0]) rfl ?_
          show Steps _ _ _ (T351.setTop (mkF m 111 #[iv q1, iv q2, iv q3, iv 2, iv 0, iv 0, iv 0, iv 1, iv 0] [])) _
          refine XS.iloadN X351.here hx rfl (hb hby at_111) rfl ?_
          show Steps _ _ _ (T351.setTop (mkF m 112 #[iv q1, iv q2, iv q3, iv 2, iv 0, iv 0, iv 0, iv 1, iv 0] [(.int 2)])) _
          exact q
        obtain ⟨_, _, ⟨T353, L353, k353, n353⟩, -, X353, ⟨Lc353, hQ353, l353, y353, z353⟩, st353⟩ := Jvm.LawKit.callS X351 hx (y := y_2) hown (mvT hZ (hw _ (wd 0 rfl))) (mvT hZ (hw _ (wd 1 rfl))) (mvT hZ (hw _ (wd 2 rfl))) (mvT hZ (hw _ (wd 3 rfl))) (by decide) (backOf (W := 0) (kd l Z a0 hw [] a_NEXT_KEY a_GAP a_RECORD a_INSERT_INTENTION G (2 : Int32) 2 h0 n0 O0 (Or.inr (Or.inr (Or.inl ⟨by decide, rfl⟩)))) hZ (hw _ (wd 3 rfl)) (hw _ (wd 2 rfl)) (by decide) (by decide)) (g := (mkF m 112 #[iv q1, iv q2, iv q3, iv 2, iv 0, iv 0, iv 0, iv 1, iv 0] [(.int 2)])) rfl (by rw [hml]; rfl) (argsL := [(.int 2)]) (rest := []) (lenOf pd_1 rfl) rfl (by show 2 * 0 + _ ≤ _; exact Nat.le_of_eq rfl) (hb hby at_112) (fun _ _ => ⟨rfl, e351, (by decide : 0 + 1 ≤ _), (by decide : 0 + 4 ≤ _)⟩)
        dsimp only [Pt.U, Pt.locs, Pt.cells, Pt.slots] at X353 l353 y353 z353 st353 hQ353
        subst l353 y353 z353
        obtain ⟨rfl, N353q, K353⟩ := hQ353
        have N353 := Fr.app N351 N353q
        have O_354 := O0.keep K353 all0
        have K_355 := K0.trans K353 all0
        have k_356 : Go p.tables e below (s₁.setTop (entryFrame m #[(.int q1), (.int q2), (.int q3)] maxLocals)) (T353.setTop (mkF m 117 #[iv q1, iv q2, iv q3, iv 2, iv 0, iv 0, iv 0, iv 1, iv 0] [(.int 0), (.ref a_RECORD)])) := fun t q => by
          refine k_352 t ?_
          refine st353 _ ?_
          show Steps _ _ _ (T353.setTop (mkF m 115 #[iv q1, iv q2, iv q3, iv 2, iv 0, iv 0, iv 0, iv 1, iv 0] [(.ref a_RECORD)])) _
          refine XS.iload X353.here hx rfl (hb hby at_115) rfl ?_
          show Steps _ _ _ (T353.setTop (mkF m 117 #[iv q1, iv q2, iv q3, iv 2, iv 0, iv 0, iv 0, iv 1, iv 0] [(.int 0), (.ref a_RECORD)])) _
          exact q
        obtain ⟨_, _, ⟨T357, L357, k357, n357⟩, -, X357, ⟨Lc357, hQ357, l357, y357, z357⟩, st357⟩ := Jvm.LawKit.callS X353 hx (y := y_2) hown (mvT hZ (hw _ (wd 0 rfl))) (mvT hZ (hw _ (wd 1 rfl))) (mvT hZ (hw _ (wd 2 rfl))) (mvT hZ (hw _ (wd 3 rfl))) (by decide) (backOf (W := 1) (kd l Z a0 hw [] a_NEXT_KEY a_GAP a_RECORD a_INSERT_INTENTION G (0 : Int32) 0 T353.heap n0 O_354 (Or.inl ⟨by decide, rfl⟩)) hZ (hw _ (wd 3 rfl)) (hw _ (wd 2 rfl)) (by decide) (by decide)) (g := (mkF m 117 #[iv q1, iv q2, iv q3, iv 2, iv 0, iv 0, iv 0, iv 1, iv 0] [(.int 0), (.ref a_RECORD)])) rfl (by rw [hml]; rfl) (argsL := [(.int 0)]) (rest := [(.ref a_RECORD)]) (lenOf pd_1 rfl) rfl (by show 2 * 0 + _ ≤ _; exact Nat.le_of_eq rfl) (hb hby at_117) (fun _ _ => ⟨rfl, (rfl : T353.heap = _), (by decide : 1 + 1 ≤ _), (by decide : 4 + 4 ≤ _)⟩)
        dsimp only [Pt.U, Pt.locs, Pt.cells, Pt.slots] at X357 l357 y357 z357 st357 hQ357
        subst l357 y357 z357
        obtain ⟨rfl, N357q, K357⟩ := hQ357
        have N357 := Fr.app N353 N357q
        have O_358 := O_354.keep K357 all0
        have K_359 := K_355.trans K357 all0
        have k_360 : Go p.tables e below (s₁.setTop (entryFrame m #[(.int q1), (.int q2), (.int q3)] maxLocals)) (T357.setTop (mkF m 122 #[iv q1, iv q2, iv q3, iv 2, iv 0, iv 0, iv 0, iv 1, iv 0] [(.int 0), (.ref a_NEXT_KEY), (.ref a_RECORD)])) := fun t q => by
          refine k_356 t ?_
          refine st357 _ ?_
          show Steps _ _ _ (T357.setTop (mkF m 120 #[iv q1, iv q2, iv q3, iv 2, iv 0, iv 0, iv 0, iv 1, iv 0] [(.ref a_NEXT_KEY), (.ref a_RECORD)])) _
          refine XS.iload X357.here hx rfl (hb hby at_120) rfl ?_
          show Steps _ _ _ (T357.setTop (mkF m 122 #[iv q1, iv q2, iv q3, iv 2, iv 0, iv 0, iv 0, iv 1, iv 0] [(.int 0), (.ref a_NEXT_KEY), (.ref a_RECORD)])) _
          exact q
        obtain ⟨cq361, kq361, q361a, q361b, q361c⟩ := isOf hZ (rfl : T357.heap = _) (Exa.ext O_358.2 E_RECORD)
        obtain ⟨_, _, ⟨T361, L361, k361, n361⟩, -, X361, ⟨Lc361, hQ361, l361, y361, z361⟩, st361⟩ := X357.virtualBack hx (y := y_3) (z := y_3) hown (mvT hZ (hw _ (wd 16 rfl))) (mvT hZ (hw _ (wd 17 rfl))) (notFace_of_selects (args := #[]) (mvT hZ (hw _ (wd 19 rfl)))) (mvT hZ (hw _ (wd 19 rfl))) (mvT hZ (hw _ (wd 18 rfl))) (by decide) (backOf (W := 0) (cv_2_0_0 l Z a0 hw [] a_NEXT_KEY a_GAP a_RECORD a_INSERT_INTENTION G  T357.heap n0 O_358 ) hZ (hw _ (wd 20 rfl)) (hw _ (wd 7 rfl)) (by decide) (by decide)) q361a q361c (g := (mkF m 122 #[iv q1, iv q2, iv q3, iv 2, iv 0, iv 0, iv 0, iv 1, iv 0] [(.int 0), (.ref a_NEXT_KEY), (.ref a_RECORD)])) rfl (by rw [hml]; rfl) (Steps.refl _) (argsL := [(.ref a_NEXT_KEY), (.int 0)]) (rest := []) (lenOf pd_2 rfl) rfl (by show 2 * 0 + _ ≤ _; exact Nat.le_of_eq rfl) (hb hby at_122) (fun _ _ => ⟨rfl, (rfl : T357.heap = _), (by decide : 2 + 0 ≤ _), (by decide : 8 + 0 ≤ _)⟩)
        dsimp only [Pt.U, Pt.locs, Pt.cells, Pt.slots] at X361 l361 y361 z361 st361 hQ361
        subst l361 y361 z361
        obtain ⟨rfl, N361q, e361⟩ := hQ361
        have N361 := Fr.app N357 N361q
        have k_362 : Go p.tables e below (s₁.setTop (entryFrame m #[(.int q1), (.int q2), (.int q3)] maxLocals)) (T361.setTop (mkF m 139 #[iv q1, iv q2, iv q3, iv 2, iv 0, iv 0, iv 0, iv 0, iv 0] [(.int 1)])) := fun t q => by
          refine k_360 t ?_
          refine st361.trans ?_
          show Steps _ _ _ (T361.setTop (mkF m 125 #[iv q1, iv q2, iv q3, iv 2, iv 0, iv 0, iv 0, iv 1, iv 0] [(.int 0)])) _
          refine XS.istore X361.here hx rfl (hb hby at_125) rfl (l' := #[iv q1, iv q2, iv q3, iv 2, iv 0, iv 0, iv 0, iv 0, iv 0]) rfl ?_
          show Steps _ _ _ (T361.setTop (mkF m 127 #[iv q1, iv q2, iv q3, iv 2, iv 0, iv 0, iv 0, iv 0, iv 0] [])) _
          refine XS.iload X361.here hx rfl (hb hby at_127) rfl ?_
          show Steps _ _ _ (T361.setTop (mkF m 129 #[iv q1, iv q2, iv q3, iv 2, iv 0, iv 0, iv 0, iv 0, iv 0] [(.int 0)])) _
          refine XS.iload X361.here hx rfl (hb hby at_129) rfl ?_
          show Steps _ _ _ (T361.setTop (mkF m 131 #[iv q1, iv q2, iv q3, iv 2, iv 0, iv 0, iv 0, iv 0, iv 0] [(.int 0), (.int 0)])) _
          refine XS.icmpNo X361.here hx rfl (hb hby at_131) rfl (by decide) ?_
          show Steps _ _ _ (T361.setTop (mkF m 134 #[iv q1, iv q2, iv q3, iv 2, iv 0, iv 0, iv 0, iv 0, iv 0] [])) _
          refine XS.iconst X361.here hx rfl (hb hby at_134) ?_
          show Steps _ _ _ (T361.setTop (mkF m 135 #[iv q1, iv q2, iv q3, iv 2, iv 0, iv 0, iv 0, iv 0, iv 0] [(.int 1)])) _
          refine XS.goto X361.here hx rfl (pc0 := 135) (pc' := 139) rfl (hb hby at_135) (by decide) (by decide) ?_
          show Steps _ _ _ (T361.setTop (mkF m 139 #[iv q1, iv q2, iv q3, iv 2, iv 0, iv 0, iv 0, iv 0, iv 0] [(.int 1)])) _
          exact q
        obtain ⟨fs, hr, hrun, hended, hW, hsame⟩ := X361.leave (v := some (.int 1)) (fun h => by rw [Bd.returns] at h; cases h)
        refine ⟨_, _, k_362 _ ?_, hrun, hended, _, _, rfl, ?_, ⟨_, rfl⟩, hW, hsame.mono (by decide) (by decide)⟩
        · exact retN X361 hx (t := .boolean) Bd.returns (by simp) (hb hby at_139) hr
        · show Q0 n0 _ T361.heap _
          rw [e361]
          exact ⟨rfl, N361⟩
      · skip
        have k_363 : Go p.tables e below (s₁.setTop (entryFrame m #[(.int q1), (.int q2), (.int q3)] maxLocals)) (s₁.setTop (mkF m 52 #[iv q1, iv q2, iv q3, iv 2, iv 1, iv 0, .unset, .unset, .unset] [(.int 1)])) := fun t q => by
          refine k0 t ?_
          refine XS.iloadN X0.here hx rfl (hb hby at_0) rfl ?_
          show Steps _ _ _ (s₁.setTop (mkF m 1 #[iv q1, iv q2, iv q3, .unset, .unset, .unset, .unset, .unset, .unset] [(.int q1)])) _
          refine XS.iconst X0.here hx rfl (hb hby at_1) ?_
          show Steps _ _ _ (s₁.setTop (mkF m 2 #[iv q1, iv q2, iv q3, .unset, .unset, .unset, .unset, .unset, .unset] [(.int 3), (.int q1)])) _
          refine XS.iand X0.here hx rfl (hb hby at_2) rfl ?_
          show Steps _ _ _ (s₁.setTop (mkF m 3 #[iv q1, iv q2, iv q3, .unset, .unset, .unset, .unset, .unset, .unset] [(.int (q1 &&& (3 : Int32)))])) _
          rw [hi]
          show Steps _ _ _ (s₁.setTop (mkF m 3 #[iv q1, iv q2, iv q3, .unset, .unset, .unset, .unset, .unset, .unset] [(.int 2)])) _
          refine XS.istoreN X0.here hx rfl (hb hby at_3) rfl (l' := #[iv q1, iv q2, iv q3, iv 2, .unset, .unset, .unset, .unset, .unset]) rfl ?_
          show Steps _ _ _ (s₁.setTop (mkF m 4 #[iv q1, iv q2, iv q3, iv 2, .unset, .unset, .unset, .unset, .unset] [])) _
          refine XS.iloadN X0.here hx rfl (hb hby at_4) rfl ?_
          show Steps _ _ _ (s₁.setTop (mkF m 5 #[iv q1, iv q2, iv q3, iv 2, .unset, .unset, .unset, .unset, .unset] [(.int q2)])) _
          refine XS.iconst X0.here hx rfl (hb hby at_5) ?_
          show Steps _ _ _ (s₁.setTop (mkF m 6 #[iv q1, iv q2, iv q3, iv 2, .unset, .unset, .unset, .unset, .unset] [(.int 3), (.int q2)])) _
          refine XS.iand X0.here hx rfl (hb hby at_6) rfl ?_
          show Steps _ _ _ (s₁.setTop (mkF m 7 #[iv q1, iv q2, iv q3, iv 2, .unset, .unset, .unset, .unset, .unset] [(.int (q2 &&& (3 : Int32)))])) _
          rw [hj]
          show Steps _ _ _ (s₁.setTop (mkF m 7 #[iv q1, iv q2, iv q3, iv 2, .unset, .unset, .unset, .unset, .unset] [(.int 1)])) _
          refine XS.istore X0.here hx rfl (hb hby at_7) rfl (l' := #[iv q1, iv q2, iv q3, iv 2, iv 1, .unset, .unset, .unset, .unset]) rfl ?_
          show Steps _ _ _ (s₁.setTop (mkF m 9 #[iv q1, iv q2, iv q3, iv 2, iv 1, .unset, .unset, .unset, .unset] [])) _
          refine XS.iloadN X0.here hx rfl (hb hby at_9) rfl ?_
          show Steps _ _ _ (s₁.setTop (mkF m 10 #[iv q1, iv q2, iv q3, iv 2, iv 1, .unset, .unset, .unset, .unset] [(.int q3)])) _
          refine XS.iconst X0.here hx rfl (hb hby at_10) ?_
          show Steps _ _ _ (s₁.setTop (mkF m 11 #[iv q1, iv q2, iv q3, iv 2, iv 1, .unset, .unset, .unset, .unset] [(.int 1), (.int q3)])) _
          refine XS.iand X0.here hx rfl (hb hby at_11) rfl ?_
          show Steps _ _ _ (s₁.setTop (mkF m 12 #[iv q1, iv q2, iv q3, iv 2, iv 1, .unset, .unset, .unset, .unset] [(.int (q3 &&& (1 : Int32)))])) _
          rw [hs]
          show Steps _ _ _ (s₁.setTop (mkF m 12 #[iv q1, iv q2, iv q3, iv 2, iv 1, .unset, .unset, .unset, .unset] [(.int 0)])) _
          refine XS.ifYes X0.here hx rfl (pc0 := 12) (pc' := 19) rfl (hb hby at_12) rfl (by decide) (by decide) (by decide) ?_
          show Steps _ _ _ (s₁.setTop (mkF m 19 #[iv q1, iv q2, iv q3, iv 2, iv 1, .unset, .unset, .unset, .unset] [])) _
          refine XS.iconst X0.here hx rfl (hb hby at_19) ?_
          show Steps _ _ _ (s₁.setTop (mkF m 20 #[iv q1, iv q2, iv q3, iv 2, iv 1, .unset, .unset, .unset, .unset] [(.int 0)])) _
          refine XS.istore X0.here hx rfl (hb hby at_20) rfl (l' := #[iv q1, iv q2, iv q3, iv 2, iv 1, iv 0, .unset, .unset, .unset]) rfl ?_
          show Steps _ _ _ (s₁.setTop (mkF m 22 #[iv q1, iv q2, iv q3, iv 2, iv 1, iv 0, .unset, .unset, .unset] [])) _
          refine XS.iloadN X0.here hx rfl (hb hby at_22) rfl ?_
          show Steps _ _ _ (s₁.setTop (mkF m 23 #[iv q1, iv q2, iv q3, iv 2, iv 1, iv 0, .unset, .unset, .unset] [(.int 2)])) _
          refine XS.iconst X0.here hx rfl (hb hby at_23) ?_
          show Steps _ _ _ (s₁.setTop (mkF m 24 #[iv q1, iv q2, iv q3, iv 2, iv 1, iv 0, .unset, .unset, .unset] [(.int 3), (.int 2)])) _
          refine XS.icmpNo X0.here hx rfl (hb hby at_24) rfl (by decide) ?_
          show Steps _ _ _ (s₁.setTop (mkF m 27 #[iv q1, iv q2, iv q3, iv 2, iv 1, iv 0, .unset, .unset, .unset] [])) _
          refine XS.iload X0.here hx rfl (hb hby at_27) rfl ?_
          show Steps _ _ _ (s₁.setTop (mkF m 29 #[iv q1, iv q2, iv q3, iv 2, iv 1, iv 0, .unset, .unset, .unset] [(.int 1)])) _
          refine XS.iconst X0.here hx rfl (hb hby at_29) ?_
          show Steps _ _ _ (s₁.setTop (mkF m 30 #[iv q1, iv q2, iv q3, iv 2, iv 1, iv 0, .unset, .unset, .unset] [(.int 3), (.int 1)])) _
          refine XS.icmpYes X0.here hx rfl (pc0 := 30) (pc' := 39) rfl (hb hby at_30) rfl (by decide) (by decide) (by decide) ?_
          show Steps _ _ _ (s₁.setTop (mkF m 39 #[iv q1, iv q2, iv q3, iv 2, iv 1, iv 0, .unset, .unset, .unset] [])) _
          refine XS.iload X0.here hx rfl (hb hby at_39) rfl ?_
          show Steps _ _ _ (s₁.setTop (mkF m 41 #[iv q1, iv q2, iv q3, iv 2, iv 1, iv 0, .unset, .unset, .unset] [(.int 0)])) _
          refine XS.ifYes X0.here hx rfl (pc0 := 41) (pc' := 50) rfl (hb hby at_41) rfl (by decide) (by decide) (by decide) ?_
          show Steps _ _ _ (s₁.setTop (mkF m 50 #[iv q1, iv q2, iv q3, iv 2, iv 1, iv 0, .unset, .unset, .unset] [])) _
          refine XS.iload X0.here hx rfl (hb hby at_50) rfl ?_
          show Steps _ _ _ (s₁.setTop (mkF m 52 #[iv q1, iv q2, iv q3, iv 2, iv 1, iv 0, .unset, .unset, .unset] [(.int 1)])) _
          exact q
        obtain ⟨_, _, ⟨T364, L364, k364, n364⟩, -, X364, ⟨Lc364, hQ364, l364, y364, z364⟩, st364⟩ := Jvm.LawKit.callS X0 hx (y := y_0) hown (mvT hZ (hw _ (wd 22 rfl))) (mvT hZ (hw _ (wd 23 rfl))) (mvT hZ (hw _ (wd 2 rfl))) (mvT hZ (hw _ (wd 24 rfl))) (by decide) (backOf (W := 0) (hr_1 l Z a0 hw [] a_NEXT_KEY a_GAP a_RECORD a_INSERT_INTENTION G  h0 n0 O0 ) hZ (hw _ (wd 24 rfl)) (hw _ (wd 2 rfl)) (by decide) (by decide)) (g := (mkF m 52 #[iv q1, iv q2, iv q3, iv 2, iv 1, iv 0, .unset, .unset, .unset] [(.int 1)])) rfl (by rw [hml]; rfl) (argsL := [(.int 1)]) (rest := []) (lenOf pd_0 rfl) rfl (by show 2 * 0 + _ ≤ _; exact Nat.le_of_eq rfl) (hb hby at_52) (fun _ _ => ⟨rfl, e0, (by decide : 0 + 0 ≤ _), (by decide : 0 + 0 ≤ _)⟩)
        dsimp only [Pt.U, Pt.locs, Pt.cells, Pt.slots] at X364 l364 y364 z364 st364 hQ364
        subst l364 y364 z364
        obtain ⟨rfl, N364q, e364⟩ := hQ364
        have N364 := Fr.app N0 N364q
        have k_365 : Go p.tables e below (s₁.setTop (entryFrame m #[(.int q1), (.int q2), (.int q3)] maxLocals)) (T364.setTop (mkF m 74 #[iv q1, iv q2, iv q3, iv 2, iv 1, iv 0, .unset, iv 1, .unset] [(.int 1)])) := fun t q => by
          refine k_363 t ?_
          refine st364 _ ?_
          show Steps _ _ _ (T364.setTop (mkF m 55 #[iv q1, iv q2, iv q3, iv 2, iv 1, iv 0, .unset, .unset, .unset] [(.int 0)])) _
          refine XS.ifYes X364.here hx rfl (pc0 := 55) (pc' := 65) rfl (hb hby at_55) rfl (by decide) (by decide) (by decide) ?_
          show Steps _ _ _ (T364.setTop (mkF m 65 #[iv q1, iv q2, iv q3, iv 2, iv 1, iv 0, .unset, .unset, .unset] [])) _
          refine XS.iconst X364.here hx rfl (hb hby at_65) ?_
          show Steps _ _ _ (T364.setTop (mkF m 66 #[iv q1, iv q2, iv q3, iv 2, iv 1, iv 0, .unset, .unset, .unset] [(.int 1)])) _
          refine XS.goto X364.here hx rfl (pc0 := 66) (pc' := 70) rfl (hb hby at_66) (by decide) (by decide) ?_
          show Steps _ _ _ (T364.setTop (mkF m 70 #[iv q1, iv q2, iv q3, iv 2, iv 1, iv 0, .unset, .unset, .unset] [(.int 1)])) _
          refine XS.istore X364.here hx rfl (hb hby at_70) rfl (l' := #[iv q1, iv q2, iv q3, iv 2, iv 1, iv 0, .unset, iv 1, .unset]) rfl ?_
          show Steps _ _ _ (T364.setTop (mkF m 72 #[iv q1, iv q2, iv q3, iv 2, iv 1, iv 0, .unset, iv 1, .unset] [])) _
          refine XS.iload X364.here hx rfl (hb hby at_72) rfl ?_
          show Steps _ _ _ (T364.setTop (mkF m 74 #[iv q1, iv q2, iv q3, iv 2, iv 1, iv 0, .unset, iv 1, .unset] [(.int 1)])) _
          exact q
        obtain ⟨_, _, ⟨T366, L366, k366, n366⟩, -, X366, ⟨Lc366, hQ366, l366, y366, z366⟩, st366⟩ := Jvm.LawKit.callS X364 hx (y := y_1) hown (mvT hZ (hw _ (wd 25 rfl))) (mvT hZ (hw _ (wd 26 rfl))) (mvT hZ (hw _ (wd 2 rfl))) (mvT hZ (hw _ (wd 27 rfl))) (by decide) (backOf (W := 0) (hg_1 l Z a0 hw [] a_NEXT_KEY a_GAP a_RECORD a_INSERT_INTENTION G  h0 n0 O0 ) hZ (hw _ (wd 27 rfl)) (hw _ (wd 2 rfl)) (by decide) (by decide)) (g := (mkF m 74 #[iv q1, iv q2, iv q3, iv 2, iv 1, iv 0, .unset, iv 1, .unset] [(.int 1)])) rfl (by rw [hml]; rfl) (argsL := [(.int 1)]) (rest := []) (lenOf pd_0 rfl) rfl (by show 2 * 0 + _ ≤ _; exact Nat.le_of_eq rfl) (hb hby at_74) (fun _ _ => ⟨rfl, e364, (by decide : 0 + 0 ≤ _), (by decide : 0 + 0 ≤ _)⟩)
        dsimp only [Pt.U, Pt.locs, Pt.cells, Pt.slots] at X366 l366 y366 z366 st366 hQ366
        subst l366 y366 z366
        obtain ⟨rfl, N366q, e366⟩ := hQ366
        have N366 := Fr.app N364 N366q
        have k_367 : Go p.tables e below (s₁.setTop (entryFrame m #[(.int q1), (.int q2), (.int q3)] maxLocals)) (T366.setTop (mkF m 81 #[iv q1, iv q2, iv q3, iv 2, iv 1, iv 0, .unset, iv 1, .unset] [(.int 2)])) := fun t q => by
          refine k_365 t ?_
          refine st366 _ ?_
          show Steps _ _ _ (T366.setTop (mkF m 77 #[iv q1, iv q2, iv q3, iv 2, iv 1, iv 0, .unset, iv 1, .unset] [(.int 1)])) _
          refine XS.ifNo X366.here hx rfl (hb hby at_77) rfl (by decide) ?_
          show Steps _ _ _ (T366.setTop (mkF m 80 #[iv q1, iv q2, iv q3, iv 2, iv 1, iv 0, .unset, iv 1, .unset] [])) _
          refine XS.iloadN X366.here hx rfl (hb hby at_80) rfl ?_
          show Steps _ _ _ (T366.setTop (mkF m 81 #[iv q1, iv q2, iv q3, iv 2, iv 1, iv 0, .unset, iv 1, .unset] [(.int 2)])) _
          exact q
        obtain ⟨_, _, ⟨T368, L368, k368, n368⟩, -, X368, ⟨Lc368, hQ368, l368, y368, z368⟩, st368⟩ := Jvm.LawKit.callS X366 hx (y := y_1) hown (mvT hZ (hw _ (wd 25 rfl))) (mvT hZ (hw _ (wd 26 rfl))) (mvT hZ (hw _ (wd 2 rfl))) (mvT hZ (hw _ (wd 27 rfl))) (by decide) (backOf (W := 0) (hg_2 l Z a0 hw [] a_NEXT_KEY a_GAP a_RECORD a_INSERT_INTENTION G  h0 n0 O0 ) hZ (hw _ (wd 27 rfl)) (hw _ (wd 2 rfl)) (by decide) (by decide)) (g := (mkF m 81 #[iv q1, iv q2, iv q3, iv 2, iv 1, iv 0, .unset, iv 1, .unset] [(.int 2)])) rfl (by rw [hml]; rfl) (argsL := [(.int 2)]) (rest := []) (lenOf pd_0 rfl) rfl (by show 2 * 0 + _ ≤ _; exact Nat.le_of_eq rfl) (hb hby at_81) (fun _ _ => ⟨rfl, e366, (by decide : 0 + 0 ≤ _), (by decide : 0 + 0 ≤ _)⟩)
        dsimp only [Pt.U, Pt.locs, Pt.cells, Pt.slots] at X368 l368 y368 z368 st368 hQ368
        subst l368 y368 z368
        obtain ⟨rfl, N368q, e368⟩ := hQ368
        have N368 := Fr.app N366 N368q
        have k_369 : Go p.tables e below (s₁.setTop (entryFrame m #[(.int q1), (.int q2), (.int q3)] maxLocals)) (T368.setTop (mkF m 112 #[iv q1, iv q2, iv q3, iv 2, iv 1, iv 0, iv 0, iv 1, iv 0] [(.int 2)])) := fun t q => by
          refine k_367 t ?_
          refine st368 _ ?_
          show Steps _ _ _ (T368.setTop (mkF m 84 #[iv q1, iv q2, iv q3, iv 2, iv 1, iv 0, .unset, iv 1, .unset] [(.int 0)])) _
          refine XS.ifYes X368.here hx rfl (pc0 := 84) (pc' := 91) rfl (hb hby at_84) rfl (by decide) (by decide) (by decide) ?_
          show Steps _ _ _ (T368.setTop (mkF m 91 #[iv q1, iv q2, iv q3, iv 2, iv 1, iv 0, .unset, iv 1, .unset] [])) _
          refine XS.iconst X368.here hx rfl (hb hby at_91) ?_
          show Steps _ _ _ (T368.setTop (mkF m 92 #[iv q1, iv q2, iv q3, iv 2, iv 1, iv 0, .unset, iv 1, .unset] [(.int 0)])) _
          refine XS.istore X368.here hx rfl (hb hby at_92) rfl (l' := #[iv q1, iv q2, iv q3, iv 2, iv 1, iv 0, .unset, iv 1, iv 0]) rfl ?_
          show Steps _ _ _ (T368.setTop (mkF m 94 #[iv q1, iv q2, iv q3, iv 2, iv 1, iv 0, .unset, iv 1, iv 0] [])) _
          refine XS.iload X368.here hx rfl (hb hby at_94) rfl ?_
          show Steps _ _ _ (T368.setTop (mkF m 96 #[iv q1, iv q2, iv q3, iv 2, iv 1, iv 0, .unset, iv 1, iv 0] [(.int 1)])) _
          refine XS.ifNo X368.here hx rfl (hb hby at_96) rfl (by decide) ?_
          show Steps _ _ _ (T368.setTop (mkF m 99 #[iv q1, iv q2, iv q3, iv 2, iv 1, iv 0, .unset, iv 1, iv 0] [])) _
          refine XS.iload X368.here hx rfl (hb hby at_99) rfl ?_
          show Steps _ _ _ (T368.setTop (mkF m 101 #[iv q1, iv q2, iv q3, iv 2, iv 1, iv 0, .unset, iv 1, iv 0] [(.int 0)])) _
          refine XS.ifYes X368.here hx rfl (pc0 := 101) (pc' := 108) rfl (hb hby at_101) rfl (by decide) (by decide) (by decide) ?_
          show Steps _ _ _ (T368.setTop (mkF m 108 #[iv q1, iv q2, iv q3, iv 2, iv 1, iv 0, .unset, iv 1, iv 0] [])) _
          refine XS.iconst X368.here hx rfl (hb hby at_108) ?_
          show Steps _ _ _ (T368.setTop (mkF m 109 #[iv q1, iv q2, iv q3, iv 2, iv 1, iv 0, .unset, iv 1, iv 0] [(.int 0)])) _
          refine XS.istore X368.here hx rfl (hb hby at_109) rfl (l' := #[iv q1, iv q2, iv q3, iv 2, iv 1, iv 0, iv 0, iv 1, iv 0]) rfl ?_
          show Steps _ _ _ (T368.setTop (mkF m 111 #[iv q1, iv q2, iv q3, iv 2, iv 1, iv 0, iv 0, iv 1, iv 0] [])) _
          refine XS.iloadN X368.here hx rfl (hb hby at_111) rfl ?_
          show Steps _ _ _ (T368.setTop (mkF m 112 #[iv q1, iv q2, iv q3, iv 2, iv 1, iv 0, iv 0, iv 1, iv 0] [(.int 2)])) _
          exact q
        obtain ⟨_, _, ⟨T370, L370, k370, n370⟩, -, X370, ⟨Lc370, hQ370, l370, y370, z370⟩, st370⟩ := Jvm.LawKit.callS X368 hx (y := y_2) hown (mvT hZ (hw _ (wd 0 rfl))) (mvT hZ (hw _ (wd 1 rfl))) (mvT hZ (hw _ (wd 2 rfl))) (mvT hZ (hw _ (wd 3 rfl))) (by decide) (backOf (W := 0) (kd l Z a0 hw [] a_NEXT_KEY a_GAP a_RECORD a_INSERT_INTENTION G (2 : Int32) 2 h0 n0 O0 (Or.inr (Or.inr (Or.inl ⟨by decide, rfl⟩)))) hZ (hw _ (wd 3 rfl)) (hw _ (wd 2 rfl)) (by decide) (by decide)) (g := (mkF m 112 #[iv q1, iv q2, iv q3, iv 2, iv 1, iv 0, iv 0, iv 1, iv 0] [(.int 2)])) rfl (by rw [hml]; rfl) (argsL := [(.int 2)]) (rest := []) (lenOf pd_1 rfl) rfl (by show 2 * 0 + _ ≤ _; exact Nat.le_of_eq rfl) (hb hby at_112) (fun _ _ => ⟨rfl, e368, (by decide : 0 + 1 ≤ _), (by decide : 0 + 4 ≤ _)⟩)
        dsimp only [Pt.U, Pt.locs, Pt.cells, Pt.slots] at X370 l370 y370 z370 st370 hQ370
        subst l370 y370 z370
        obtain ⟨rfl, N370q, K370⟩ := hQ370
        have N370 := Fr.app N368 N370q
        have O_371 := O0.keep K370 all0
        have K_372 := K0.trans K370 all0
        have k_373 : Go p.tables e below (s₁.setTop (entryFrame m #[(.int q1), (.int q2), (.int q3)] maxLocals)) (T370.setTop (mkF m 117 #[iv q1, iv q2, iv q3, iv 2, iv 1, iv 0, iv 0, iv 1, iv 0] [(.int 1), (.ref a_RECORD)])) := fun t q => by
          refine k_369 t ?_
          refine st370 _ ?_
          show Steps _ _ _ (T370.setTop (mkF m 115 #[iv q1, iv q2, iv q3, iv 2, iv 1, iv 0, iv 0, iv 1, iv 0] [(.ref a_RECORD)])) _
          refine XS.iload X370.here hx rfl (hb hby at_115) rfl ?_
          show Steps _ _ _ (T370.setTop (mkF m 117 #[iv q1, iv q2, iv q3, iv 2, iv 1, iv 0, iv 0, iv 1, iv 0] [(.int 1), (.ref a_RECORD)])) _
          exact q
        obtain ⟨_, _, ⟨T374, L374, k374, n374⟩, -, X374, ⟨Lc374, hQ374, l374, y374, z374⟩, st374⟩ := Jvm.LawKit.callS X370 hx (y := y_2) hown (mvT hZ (hw _ (wd 0 rfl))) (mvT hZ (hw _ (wd 1 rfl))) (mvT hZ (hw _ (wd 2 rfl))) (mvT hZ (hw _ (wd 3 rfl))) (by decide) (backOf (W := 1) (kd l Z a0 hw [] a_NEXT_KEY a_GAP a_RECORD a_INSERT_INTENTION G (1 : Int32) 1 T370.heap n0 O_371 (Or.inr (Or.inl ⟨by decide, rfl⟩))) hZ (hw _ (wd 3 rfl)) (hw _ (wd 2 rfl)) (by decide) (by decide)) (g := (mkF m 117 #[iv q1, iv q2, iv q3, iv 2, iv 1, iv 0, iv 0, iv 1, iv 0] [(.int 1), (.ref a_RECORD)])) rfl (by rw [hml]; rfl) (argsL := [(.int 1)]) (rest := [(.ref a_RECORD)]) (lenOf pd_1 rfl) rfl (by show 2 * 0 + _ ≤ _; exact Nat.le_of_eq rfl) (hb hby at_117) (fun _ _ => ⟨rfl, (rfl : T370.heap = _), (by decide : 1 + 1 ≤ _), (by decide : 4 + 4 ≤ _)⟩)
        dsimp only [Pt.U, Pt.locs, Pt.cells, Pt.slots] at X374 l374 y374 z374 st374 hQ374
        subst l374 y374 z374
        obtain ⟨rfl, N374q, K374⟩ := hQ374
        have N374 := Fr.app N370 N374q
        have O_375 := O_371.keep K374 all0
        have K_376 := K_372.trans K374 all0
        have k_377 : Go p.tables e below (s₁.setTop (entryFrame m #[(.int q1), (.int q2), (.int q3)] maxLocals)) (T374.setTop (mkF m 122 #[iv q1, iv q2, iv q3, iv 2, iv 1, iv 0, iv 0, iv 1, iv 0] [(.int 0), (.ref a_GAP), (.ref a_RECORD)])) := fun t q => by
          refine k_373 t ?_
          refine st374 _ ?_
          show Steps _ _ _ (T374.setTop (mkF m 120 #[iv q1, iv q2, iv q3, iv 2, iv 1, iv 0, iv 0, iv 1, iv 0] [(.ref a_GAP), (.ref a_RECORD)])) _
          refine XS.iload X374.here hx rfl (hb hby at_120) rfl ?_
          show Steps _ _ _ (T374.setTop (mkF m 122 #[iv q1, iv q2, iv q3, iv 2, iv 1, iv 0, iv 0, iv 1, iv 0] [(.int 0), (.ref a_GAP), (.ref a_RECORD)])) _
          exact q
        obtain ⟨cq378, kq378, q378a, q378b, q378c⟩ := isOf hZ (rfl : T374.heap = _) (Exa.ext O_375.2 E_RECORD)
        obtain ⟨_, _, ⟨T378, L378, k378, n378⟩, -, X378, ⟨Lc378, hQ378, l378, y378, z378⟩, st378⟩ := X374.virtualBack hx (y := y_3) (z := y_3) hown (mvT hZ (hw _ (wd 16 rfl))) (mvT hZ (hw _ (wd 17 rfl))) (notFace_of_selects (args := #[]) (mvT hZ (hw _ (wd 19 rfl)))) (mvT hZ (hw _ (wd 19 rfl))) (mvT hZ (hw _ (wd 18 rfl))) (by decide) (backOf (W := 0) (cv_2_1_0 l Z a0 hw [] a_NEXT_KEY a_GAP a_RECORD a_INSERT_INTENTION G  T374.heap n0 O_375 ) hZ (hw _ (wd 20 rfl)) (hw _ (wd 7 rfl)) (by decide) (by decide)) q378a q378c (g := (mkF m 122 #[iv q1, iv q2, iv q3, iv 2, iv 1, iv 0, iv 0, iv 1, iv 0] [(.int 0), (.ref a_GAP), (.ref a_RECORD)])) rfl (by rw [hml]; rfl) (Steps.refl _) (argsL := [(.ref a_GAP), (.int 0)]) (rest := []) (lenOf pd_2 rfl) rfl (by show 2 * 0 + _ ≤ _; exact Nat.le_of_eq rfl) (hb hby at_122) (fun _ _ => ⟨rfl, (rfl : T374.heap = _), (by decide : 2 + 0 ≤ _), (by decide : 8 + 0 ≤ _)⟩)
        dsimp only [Pt.U, Pt.locs, Pt.cells, Pt.slots] at X378 l378 y378 z378 st378 hQ378
        subst l378 y378 z378
        obtain ⟨rfl, N378q, e378⟩ := hQ378
        have N378 := Fr.app N374 N378q
        have k_379 : Go p.tables e below (s₁.setTop (entryFrame m #[(.int q1), (.int q2), (.int q3)] maxLocals)) (T378.setTop (mkF m 139 #[iv q1, iv q2, iv q3, iv 2, iv 1, iv 0, iv 0, iv 0, iv 0] [(.int 1)])) := fun t q => by
          refine k_377 t ?_
          refine st378.trans ?_
          show Steps _ _ _ (T378.setTop (mkF m 125 #[iv q1, iv q2, iv q3, iv 2, iv 1, iv 0, iv 0, iv 1, iv 0] [(.int 0)])) _
          refine XS.istore X378.here hx rfl (hb hby at_125) rfl (l' := #[iv q1, iv q2, iv q3, iv 2, iv 1, iv 0, iv 0, iv 0, iv 0]) rfl ?_
          show Steps _ _ _ (T378.setTop (mkF m 127 #[iv q1, iv q2, iv q3, iv 2, iv 1, iv 0, iv 0, iv 0, iv 0] [])) _
          refine XS.iload X378.here hx rfl (hb hby at_127) rfl ?_
          show Steps _ _ _ (T378.setTop (mkF m 129 #[iv q1, iv q2, iv q3, iv 2, iv 1, iv 0, iv 0, iv 0, iv 0] [(.int 0)])) _
          refine XS.iload X378.here hx rfl (hb hby at_129) rfl ?_
          show Steps _ _ _ (T378.setTop (mkF m 131 #[iv q1, iv q2, iv q3, iv 2, iv 1, iv 0, iv 0, iv 0, iv 0] [(.int 0), (.int 0)])) _
          refine XS.icmpNo X378.here hx rfl (hb hby at_131) rfl (by decide) ?_
          show Steps _ _ _ (T378.setTop (mkF m 134 #[iv q1, iv q2, iv q3, iv 2, iv 1, iv 0, iv 0, iv 0, iv 0] [])) _
          refine XS.iconst X378.here hx rfl (hb hby at_134) ?_
          show Steps _ _ _ (T378.setTop (mkF m 135 #[iv q1, iv q2, iv q3, iv 2, iv 1, iv 0, iv 0, iv 0, iv 0] [(.int 1)])) _
          refine XS.goto X378.here hx rfl (pc0 := 135) (pc' := 139) rfl (hb hby at_135) (by decide) (by decide) ?_
          show Steps _ _ _ (T378.setTop (mkF m 139 #[iv q1, iv q2, iv q3, iv 2, iv 1, iv 0, iv 0, iv 0, iv 0] [(.int 1)])) _
          exact q
        obtain ⟨fs, hr, hrun, hended, hW, hsame⟩ := X378.leave (v := some (.int 1)) (fun h => by rw [Bd.returns] at h; cases h)
        refine ⟨_, _, k_379 _ ?_, hrun, hended, _, _, rfl, ?_, ⟨_, rfl⟩, hW, hsame.mono (by decide) (by decide)⟩
        · exact retN X378 hx (t := .boolean) Bd.returns (by simp) (hb hby at_139) hr
        · show Q0 n0 _ T378.heap _
          rw [e378]
          exact ⟨rfl, N378⟩
      · skip
        have k_380 : Go p.tables e below (s₁.setTop (entryFrame m #[(.int q1), (.int q2), (.int q3)] maxLocals)) (s₁.setTop (mkF m 52 #[iv q1, iv q2, iv q3, iv 2, iv 2, iv 0, .unset, .unset, .unset] [(.int 2)])) := fun t q => by
          refine k0 t ?_
          refine XS.iloadN X0.here hx rfl (hb hby at_0) rfl ?_
          show Steps _ _ _ (s₁.setTop (mkF m 1 #[iv q1, iv q2, iv q3, .unset, .unset, .unset, .unset, .unset, .unset] [(.int q1)])) _
          refine XS.iconst X0.here hx rfl (hb hby at_1) ?_
          show Steps _ _ _ (s₁.setTop (mkF m 2 #[iv q1, iv q2, iv q3, .unset, .unset, .unset, .unset, .unset, .unset] [(.int 3), (.int q1)])) _
          refine XS.iand X0.here hx rfl (hb hby at_2) rfl ?_
          show Steps _ _ _ (s₁.setTop (mkF m 3 #[iv q1, iv q2, iv q3, .unset, .unset, .unset, .unset, .unset, .unset] [(.int (q1 &&& (3 : Int32)))])) _
          rw [hi]
          show Steps _ _ _ (s₁.setTop (mkF m 3 #[iv q1, iv q2, iv q3, .unset, .unset, .unset, .unset, .unset, .unset] [(.int 2)])) _
          refine XS.istoreN X0.here hx rfl (hb hby at_3) rfl (l' := #[iv q1, iv q2, iv q3, iv 2, .unset, .unset, .unset, .unset, .unset]) rfl ?_
          show Steps _ _ _ (s₁.setTop (mkF m 4 #[iv q1, iv q2, iv q3, iv 2, .unset, .unset, .unset, .unset, .unset] [])) _
          refine XS.iloadN X0.here hx rfl (hb hby at_4) rfl ?_
          show Steps _ _ _ (s₁.setTop (mkF m 5 #[iv q1, iv q2, iv q3, iv 2, .unset, .unset, .unset, .unset, .unset] [(.int q2)])) _
          refine XS.iconst X0.here hx rfl (hb hby at_5) ?_
          show Steps _ _ _ (s₁.setTop (mkF m 6 #[iv q1, iv q2, iv q3, iv 2, .unset, .unset, .unset, .unset, .unset] [(.int 3), (.int q2)])) _
          refine XS.iand X0.here hx rfl (hb hby at_6) rfl ?_
          show Steps _ _ _ (s₁.setTop (mkF m 7 #[iv q1, iv q2, iv q3, iv 2, .unset, .unset, .unset, .unset, .unset] [(.int (q2 &&& (3 : Int32)))])) _
          rw [hj]
          show Steps _ _ _ (s₁.setTop (mkF m 7 #[iv q1, iv q2, iv q3, iv 2, .unset, .unset, .unset, .unset, .unset] [(.int 2)])) _
          refine XS.istore X0.here hx rfl (hb hby at_7) rfl (l' := #[iv q1, iv q2, iv q3, iv 2, iv 2, .unset, .unset, .unset, .unset]) rfl ?_
          show Steps _ _ _ (s₁.setTop (mkF m 9 #[iv q1, iv q2, iv q3, iv 2, iv 2, .unset, .unset, .unset, .unset] [])) _
          refine XS.iloadN X0.here hx rfl (hb hby at_9) rfl ?_
          show Steps _ _ _ (s₁.setTop (mkF m 10 #[iv q1, iv q2, iv q3, iv 2, iv 2, .unset, .unset, .unset, .unset] [(.int q3)])) _
          refine XS.iconst X0.here hx rfl (hb hby at_10) ?_
          show Steps _ _ _ (s₁.setTop (mkF m 11 #[iv q1, iv q2, iv q3, iv 2, iv 2, .unset, .unset, .unset, .unset] [(.int 1), (.int q3)])) _
          refine XS.iand X0.here hx rfl (hb hby at_11) rfl ?_
          show Steps _ _ _ (s₁.setTop (mkF m 12 #[iv q1, iv q2, iv q3, iv 2, iv 2, .unset, .unset, .unset, .unset] [(.int (q3 &&& (1 : Int32)))])) _
          rw [hs]
          show Steps _ _ _ (s₁.setTop (mkF m 12 #[iv q1, iv q2, iv q3, iv 2, iv 2, .unset, .unset, .unset, .unset] [(.int 0)])) _
          refine XS.ifYes X0.here hx rfl (pc0 := 12) (pc' := 19) rfl (hb hby at_12) rfl (by decide) (by decide) (by decide) ?_
          show Steps _ _ _ (s₁.setTop (mkF m 19 #[iv q1, iv q2, iv q3, iv 2, iv 2, .unset, .unset, .unset, .unset] [])) _
          refine XS.iconst X0.here hx rfl (hb hby at_19) ?_
          show Steps _ _ _ (s₁.setTop (mkF m 20 #[iv q1, iv q2, iv q3, iv 2, iv 2, .unset, .unset, .unset, .unset] [(.int 0)])) _
          refine XS.istore X0.here hx rfl (hb hby at_20) rfl (l' := #[iv q1, iv q2, iv q3, iv 2, iv 2, iv 0, .unset, .unset, .unset]) rfl ?_
          show Steps _ _ _ (s₁.setTop (mkF m 22 #[iv q1, iv q2, iv q3, iv 2, iv 2, iv 0, .unset, .unset, .unset] [])) _
          refine XS.iloadN X0.here hx rfl (hb hby at_22) rfl ?_
          show Steps _ _ _ (s₁.setTop (mkF m 23 #[iv q1, iv q2, iv q3, iv 2, iv 2, iv 0, .unset, .unset, .unset] [(.int 2)])) _
          refine XS.iconst X0.here hx rfl (hb hby at_23) ?_
          show Steps _ _ _ (s₁.setTop (mkF m 24 #[iv q1, iv q2, iv q3, iv 2, iv 2, iv 0, .unset, .unset, .unset] [(.int 3), (.int 2)])) _
          refine XS.icmpNo X0.here hx rfl (hb hby at_24) rfl (by decide) ?_
          show Steps _ _ _ (s₁.setTop (mkF m 27 #[iv q1, iv q2, iv q3, iv 2, iv 2, iv 0, .unset, .unset, .unset] [])) _
          refine XS.iload X0.here hx rfl (hb hby at_27) rfl ?_
          show Steps _ _ _ (s₁.setTop (mkF m 29 #[iv q1, iv q2, iv q3, iv 2, iv 2, iv 0, .unset, .unset, .unset] [(.int 2)])) _
          refine XS.iconst X0.here hx rfl (hb hby at_29) ?_
          show Steps _ _ _ (s₁.setTop (mkF m 30 #[iv q1, iv q2, iv q3, iv 2, iv 2, iv 0, .unset, .unset, .unset] [(.int 3), (.int 2)])) _
          refine XS.icmpYes X0.here hx rfl (pc0 := 30) (pc' := 39) rfl (hb hby at_30) rfl (by decide) (by decide) (by decide) ?_
          show Steps _ _ _ (s₁.setTop (mkF m 39 #[iv q1, iv q2, iv q3, iv 2, iv 2, iv 0, .unset, .unset, .unset] [])) _
          refine XS.iload X0.here hx rfl (hb hby at_39) rfl ?_
          show Steps _ _ _ (s₁.setTop (mkF m 41 #[iv q1, iv q2, iv q3, iv 2, iv 2, iv 0, .unset, .unset, .unset] [(.int 0)])) _
          refine XS.ifYes X0.here hx rfl (pc0 := 41) (pc' := 50) rfl (hb hby at_41) rfl (by decide) (by decide) (by decide) ?_
          show Steps _ _ _ (s₁.setTop (mkF m 50 #[iv q1, iv q2, iv q3, iv 2, iv 2, iv 0, .unset, .unset, .unset] [])) _
          refine XS.iload X0.here hx rfl (hb hby at_50) rfl ?_
          show Steps _ _ _ (s₁.setTop (mkF m 52 #[iv q1, iv q2, iv q3, iv 2, iv 2, iv 0, .unset, .unset, .unset] [(.int 2)])) _
          exact q
        obtain ⟨_, _, ⟨T381, L381, k381, n381⟩, -, X381, ⟨Lc381, hQ381, l381, y381, z381⟩, st381⟩ := Jvm.LawKit.callS X0 hx (y := y_0) hown (mvT hZ (hw _ (wd 22 rfl))) (mvT hZ (hw _ (wd 23 rfl))) (mvT hZ (hw _ (wd 2 rfl))) (mvT hZ (hw _ (wd 24 rfl))) (by decide) (backOf (W := 0) (hr_2 l Z a0 hw [] a_NEXT_KEY a_GAP a_RECORD a_INSERT_INTENTION G  h0 n0 O0 ) hZ (hw _ (wd 24 rfl)) (hw _ (wd 2 rfl)) (by decide) (by decide)) (g := (mkF m 52 #[iv q1, iv q2, iv q3, iv 2, iv 2, iv 0, .unset, .unset, .unset] [(.int 2)])) rfl (by rw [hml]; rfl) (argsL := [(.int 2)]) (rest := []) (lenOf pd_0 rfl) rfl (by show 2 * 0 + _ ≤ _; exact Nat.le_of_eq rfl) (hb hby at_52) (fun _ _ => ⟨rfl, e0, (by decide : 0 + 0 ≤ _), (by decide : 0 + 0 ≤ _)⟩)
        dsimp only [Pt.U, Pt.locs, Pt.cells, Pt.slots] at X381 l381 y381 z381 st381 hQ381
        subst l381 y381 z381
        obtain ⟨rfl, N381q, e381⟩ := hQ381
        have N381 := Fr.app N0 N381q
        have k_382 : Go p.tables e below (s₁.setTop (entryFrame m #[(.int q1), (.int q2), (.int q3)] maxLocals)) (T381.setTop (mkF m 59 #[iv q1, iv q2, iv q3, iv 2, iv 2, iv 0, .unset, .unset, .unset] [(.int 2)])) := fun t q => by
          refine k_380 t ?_
          refine st381 _ ?_
          show Steps _ _ _ (T381.setTop (mkF m 55 #[iv q1, iv q2, iv q3, iv 2, iv 2, iv 0, .unset, .unset, .unset] [(.int 1)])) _
          refine XS.ifNo X381.here hx rfl (hb hby at_55) rfl (by decide) ?_
          show Steps _ _ _ (T381.setTop (mkF m 58 #[iv q1, iv q2, iv q3, iv 2, iv 2, iv 0, .unset, .unset, .unset] [])) _
          refine XS.iloadN X381.here hx rfl (hb hby at_58) rfl ?_
          show Steps _ _ _ (T381.setTop (mkF m 59 #[iv q1, iv q2, iv q3, iv 2, iv 2, iv 0, .unset, .unset, .unset] [(.int 2)])) _
          exact q
        obtain ⟨_, _, ⟨T383, L383, k383, n383⟩, -, X383, ⟨Lc383, hQ383, l383, y383, z383⟩, st383⟩ := Jvm.LawKit.callS X381 hx (y := y_0) hown (mvT hZ (hw _ (wd 22 rfl))) (mvT hZ (hw _ (wd 23 rfl))) (mvT hZ (hw _ (wd 2 rfl))) (mvT hZ (hw _ (wd 24 rfl))) (by decide) (backOf (W := 0) (hr_2 l Z a0 hw [] a_NEXT_KEY a_GAP a_RECORD a_INSERT_INTENTION G  h0 n0 O0 ) hZ (hw _ (wd 24 rfl)) (hw _ (wd 2 rfl)) (by decide) (by decide)) (g := (mkF m 59 #[iv q1, iv q2, iv q3, iv 2, iv 2, iv 0, .unset, .unset, .unset] [(.int 2)])) rfl (by rw [hml]; rfl) (argsL := [(.int 2)]) (rest := []) (lenOf pd_0 rfl) rfl (by show 2 * 0 + _ ≤ _; exact Nat.le_of_eq rfl) (hb hby at_59) (fun _ _ => ⟨rfl, e381, (by decide : 0 + 0 ≤ _), (by decide : 0 + 0 ≤ _)⟩)
        dsimp only [Pt.U, Pt.locs, Pt.cells, Pt.slots] at X383 l383 y383 z383 st383 hQ383
        subst l383 y383 z383
        obtain ⟨rfl, N383q, e383⟩ := hQ383
        have N383 := Fr.app N381 N383q
        have k_384 : Go p.tables e below (s₁.setTop (entryFrame m #[(.int q1), (.int q2), (.int q3)] maxLocals)) (T383.setTop (mkF m 74 #[iv q1, iv q2, iv q3, iv 2, iv 2, iv 0, .unset, iv 1, .unset] [(.int 2)])) := fun t q => by
          refine k_382 t ?_
          refine st383 _ ?_
          show Steps _ _ _ (T383.setTop (mkF m 62 #[iv q1, iv q2, iv q3, iv 2, iv 2, iv 0, .unset, .unset, .unset] [(.int 1)])) _
          refine XS.ifNo X383.here hx rfl (hb hby at_62) rfl (by decide) ?_
          show Steps _ _ _ (T383.setTop (mkF m 65 #[iv q1, iv q2, iv q3, iv 2, iv 2, iv 0, .unset, .unset, .unset] [])) _
          refine XS.iconst X383.here hx rfl (hb hby at_65) ?_
          show Steps _ _ _ (T383.setTop (mkF m 66 #[iv q1, iv q2, iv q3, iv 2, iv 2, iv 0, .unset, .unset, .unset] [(.int 1)])) _
          refine XS.goto X383.here hx rfl (pc0 := 66) (pc' := 70) rfl (hb hby at_66) (by decide) (by decide) ?_
          show Steps _ _ _ (T383.setTop (mkF m 70 #[iv q1, iv q2, iv q3, iv 2, iv 2, iv 0, .unset, .unset, .unset] [(.int 1)])) _
          refine XS.istore X383.here hx rfl (hb hby at_70) rfl (l' := #[iv q1, iv q2, iv q3, iv 2, iv 2, iv 0, .unset, iv 1, .unset]) rfl ?_
          show Steps _ _ _ (T383.setTop (mkF m 72 #[iv q1, iv q2, iv q3, iv 2, iv 2, iv 0, .unset, iv 1, .unset] [])) _
          refine XS.iload X383.here hx rfl (hb hby at_72) rfl ?_
          show Steps _ _ _ (T383.setTop (mkF m 74 #[iv q1, iv q2, iv q3, iv 2, iv 2, iv 0, .unset, iv 1, .unset] [(.int 2)])) _
          exact q
        obtain ⟨_, _, ⟨T385, L385, k385, n385⟩, -, X385, ⟨Lc385, hQ385, l385, y385, z385⟩, st385⟩ := Jvm.LawKit.callS X383 hx (y := y_1) hown (mvT hZ (hw _ (wd 25 rfl))) (mvT hZ (hw _ (wd 26 rfl))) (mvT hZ (hw _ (wd 2 rfl))) (mvT hZ (hw _ (wd 27 rfl))) (by decide) (backOf (W := 0) (hg_2 l Z a0 hw [] a_NEXT_KEY a_GAP a_RECORD a_INSERT_INTENTION G  h0 n0 O0 ) hZ (hw _ (wd 27 rfl)) (hw _ (wd 2 rfl)) (by decide) (by decide)) (g := (mkF m 74 #[iv q1, iv q2, iv q3, iv 2, iv 2, iv 0, .unset, iv 1, .unset] [(.int 2)])) rfl (by rw [hml]; rfl) (argsL := [(.int 2)]) (rest := []) (lenOf pd_0 rfl) rfl (by show 2 * 0 + _ ≤ _; exact Nat.le_of_eq rfl) (hb hby at_74) (fun _ _ => ⟨rfl, e383, (by decide : 0 + 0 ≤ _), (by decide : 0 + 0 ≤ _)⟩)
        dsimp only [Pt.U, Pt.locs, Pt.cells, Pt.slots] at X385 l385 y385 z385 st385 hQ385
        subst l385 y385 z385
        obtain ⟨rfl, N385q, e385⟩ := hQ385
        have N385 := Fr.app N383 N385q
        have k_386 : Go p.tables e below (s₁.setTop (entryFrame m #[(.int q1), (.int q2), (.int q3)] maxLocals)) (T385.setTop (mkF m 112 #[iv q1, iv q2, iv q3, iv 2, iv 2, iv 0, iv 1, iv 1, iv 1] [(.int 2)])) := fun t q => by
          refine k_384 t ?_
          refine st385 _ ?_
          show Steps _ _ _ (T385.setTop (mkF m 77 #[iv q1, iv q2, iv q3, iv 2, iv 2, iv 0, .unset, iv 1, .unset] [(.int 0)])) _
          refine XS.ifYes X385.here hx rfl (pc0 := 77) (pc' := 87) rfl (hb hby at_77) rfl (by decide) (by decide) (by decide) ?_
          show Steps _ _ _ (T385.setTop (mkF m 87 #[iv q1, iv q2, iv q3, iv 2, iv 2, iv 0, .unset, iv 1, .unset] [])) _
          refine XS.iconst X385.here hx rfl (hb hby at_87) ?_
          show Steps _ _ _ (T385.setTop (mkF m 88 #[iv q1, iv q2, iv q3, iv 2, iv 2, iv 0, .unset, iv 1, .unset] [(.int 1)])) _
          refine XS.goto X385.here hx rfl (pc0 := 88) (pc' := 92) rfl (hb hby at_88) (by decide) (by decide) ?_
          show Steps _ _ _ (T385.setTop (mkF m 92 #[iv q1, iv q2, iv q3, iv 2, iv 2, iv 0, .unset, iv 1, .unset] [(.int 1)])) _
          refine XS.istore X385.here hx rfl (hb hby at_92) rfl (l' := #[iv q1, iv q2, iv q3, iv 2, iv 2, iv 0, .unset, iv 1, iv 1]) rfl ?_
          show Steps _ _ _ (T385.setTop (mkF m 94 #[iv q1, iv q2, iv q3, iv 2, iv 2, iv 0, .unset, iv 1, iv 1] [])) _
          refine XS.iload X385.here hx rfl (hb hby at_94) rfl ?_
          show Steps _ _ _ (T385.setTop (mkF m 96 #[iv q1, iv q2, iv q3, iv 2, iv 2, iv 0, .unset, iv 1, iv 1] [(.int 1)])) _
          refine XS.ifNo X385.here hx rfl (hb hby at_96) rfl (by decide) ?_
          show Steps _ _ _ (T385.setTop (mkF m 99 #[iv q1, iv q2, iv q3, iv 2, iv 2, iv 0, .unset, iv 1, iv 1] [])) _
          refine XS.iload X385.here hx rfl (hb hby at_99) rfl ?_
          show Steps _ _ _ (T385.setTop (mkF m 101 #[iv q1, iv q2, iv q3, iv 2, iv 2, iv 0, .unset, iv 1, iv 1] [(.int 1)])) _
          refine XS.ifNo X385.here hx rfl (hb hby at_101) rfl (by decide) ?_
          show Steps _ _ _ (T385.setTop (mkF m 104 #[iv q1, iv q2, iv q3, iv 2, iv 2, iv 0, .unset, iv 1, iv 1] [])) _
          refine XS.iconst X385.here hx rfl (hb hby at_104) ?_
          show Steps _ _ _ (T385.setTop (mkF m 105 #[iv q1, iv q2, iv q3, iv 2, iv 2, iv 0, .unset, iv 1, iv 1] [(.int 1)])) _
          refine XS.goto X385.here hx rfl (pc0 := 105) (pc' := 109) rfl (hb hby at_105) (by decide) (by decide) ?_
          show Steps _ _ _ (T385.setTop (mkF m 109 #[iv q1, iv q2, iv q3, iv 2, iv 2, iv 0, .unset, iv 1, iv 1] [(.int 1)])) _
          refine XS.istore X385.here hx rfl (hb hby at_109) rfl (l' := #[iv q1, iv q2, iv q3, iv 2, iv 2, iv 0, iv 1, iv 1, iv 1]) rfl ?_
          show Steps _ _ _ (T385.setTop (mkF m 111 #[iv q1, iv q2, iv q3, iv 2, iv 2, iv 0, iv 1, iv 1, iv 1] [])) _
          refine XS.iloadN X385.here hx rfl (hb hby at_111) rfl ?_
          show Steps _ _ _ (T385.setTop (mkF m 112 #[iv q1, iv q2, iv q3, iv 2, iv 2, iv 0, iv 1, iv 1, iv 1] [(.int 2)])) _
          exact q
        obtain ⟨_, _, ⟨T387, L387, k387, n387⟩, -, X387, ⟨Lc387, hQ387, l387, y387, z387⟩, st387⟩ := Jvm.LawKit.callS X385 hx (y := y_2) hown (mvT hZ (hw _ (wd 0 rfl))) (mvT hZ (hw _ (wd 1 rfl))) (mvT hZ (hw _ (wd 2 rfl))) (mvT hZ (hw _ (wd 3 rfl))) (by decide) (backOf (W := 0) (kd l Z a0 hw [] a_NEXT_KEY a_GAP a_RECORD a_INSERT_INTENTION G (2 : Int32) 2 h0 n0 O0 (Or.inr (Or.inr (Or.inl ⟨by decide, rfl⟩)))) hZ (hw _ (wd 3 rfl)) (hw _ (wd 2 rfl)) (by decide) (by decide)) (g := (mkF m 112 #[iv q1, iv q2, iv q3, iv 2, iv 2, iv 0, iv 1, iv 1, iv 1] [(.int 2)])) rfl (by rw [hml]; rfl) (argsL := [(.int 2)]) (rest := []) (lenOf pd_1 rfl) rfl (by show 2 * 0 + _ ≤ _; exact Nat.le_of_eq rfl) (hb hby at_112) (fun _ _ => ⟨rfl, e385, (by decide : 0 + 1 ≤ _), (by decide : 0 + 4 ≤ _)⟩)
        dsimp only [Pt.U, Pt.locs, Pt.cells, Pt.slots] at X387 l387 y387 z387 st387 hQ387
        subst l387 y387 z387
        obtain ⟨rfl, N387q, K387⟩ := hQ387
        have N387 := Fr.app N385 N387q
        have O_388 := O0.keep K387 all0
        have K_389 := K0.trans K387 all0
        have k_390 : Go p.tables e below (s₁.setTop (entryFrame m #[(.int q1), (.int q2), (.int q3)] maxLocals)) (T387.setTop (mkF m 117 #[iv q1, iv q2, iv q3, iv 2, iv 2, iv 0, iv 1, iv 1, iv 1] [(.int 2), (.ref a_RECORD)])) := fun t q => by
          refine k_386 t ?_
          refine st387 _ ?_
          show Steps _ _ _ (T387.setTop (mkF m 115 #[iv q1, iv q2, iv q3, iv 2, iv 2, iv 0, iv 1, iv 1, iv 1] [(.ref a_RECORD)])) _
          refine XS.iload X387.here hx rfl (hb hby at_115) rfl ?_
          show Steps _ _ _ (T387.setTop (mkF m 117 #[iv q1, iv q2, iv q3, iv 2, iv 2, iv 0, iv 1, iv 1, iv 1] [(.int 2), (.ref a_RECORD)])) _
          exact q
        obtain ⟨_, _, ⟨T391, L391, k391, n391⟩, -, X391, ⟨Lc391, hQ391, l391, y391, z391⟩, st391⟩ := Jvm.LawKit.callS X387 hx (y := y_2) hown (mvT hZ (hw _ (wd 0 rfl))) (mvT hZ (hw _ (wd 1 rfl))) (mvT hZ (hw _ (wd 2 rfl))) (mvT hZ (hw _ (wd 3 rfl))) (by decide) (backOf (W := 1) (kd l Z a0 hw [] a_NEXT_KEY a_GAP a_RECORD a_INSERT_INTENTION G (2 : Int32) 2 T387.heap n0 O_388 (Or.inr (Or.inr (Or.inl ⟨by decide, rfl⟩)))) hZ (hw _ (wd 3 rfl)) (hw _ (wd 2 rfl)) (by decide) (by decide)) (g := (mkF m 117 #[iv q1, iv q2, iv q3, iv 2, iv 2, iv 0, iv 1, iv 1, iv 1] [(.int 2), (.ref a_RECORD)])) rfl (by rw [hml]; rfl) (argsL := [(.int 2)]) (rest := [(.ref a_RECORD)]) (lenOf pd_1 rfl) rfl (by show 2 * 0 + _ ≤ _; exact Nat.le_of_eq rfl) (hb hby at_117) (fun _ _ => ⟨rfl, (rfl : T387.heap = _), (by decide : 1 + 1 ≤ _), (by decide : 4 + 4 ≤ _)⟩)
        dsimp only [Pt.U, Pt.locs, Pt.cells, Pt.slots] at X391 l391 y391 z391 st391 hQ391
        subst l391 y391 z391
        obtain ⟨rfl, N391q, K391⟩ := hQ391
        have N391 := Fr.app N387 N391q
        have O_392 := O_388.keep K391 all0
        have K_393 := K_389.trans K391 all0
        have k_394 : Go p.tables e below (s₁.setTop (entryFrame m #[(.int q1), (.int q2), (.int q3)] maxLocals)) (T391.setTop (mkF m 122 #[iv q1, iv q2, iv q3, iv 2, iv 2, iv 0, iv 1, iv 1, iv 1] [(.int 0), (.ref a_RECORD), (.ref a_RECORD)])) := fun t q => by
          refine k_390 t ?_
          refine st391 _ ?_
          show Steps _ _ _ (T391.setTop (mkF m 120 #[iv q1, iv q2, iv q3, iv 2, iv 2, iv 0, iv 1, iv 1, iv 1] [(.ref a_RECORD), (.ref a_RECORD)])) _
          refine XS.iload X391.here hx rfl (hb hby at_120) rfl ?_
          show Steps _ _ _ (T391.setTop (mkF m 122 #[iv q1, iv q2, iv q3, iv 2, iv 2, iv 0, iv 1, iv 1, iv 1] [(.int 0), (.ref a_RECORD), (.ref a_RECORD)])) _
          exact q
        obtain ⟨cq395, kq395, q395a, q395b, q395c⟩ := isOf hZ (rfl : T391.heap = _) (Exa.ext O_392.2 E_RECORD)
        obtain ⟨_, _, ⟨T395, L395, k395, n395⟩, -, X395, ⟨Lc395, hQ395, l395, y395, z395⟩, st395⟩ := X391.virtualBack hx (y := y_3) (z := y_3) hown (mvT hZ (hw _ (wd 16 rfl))) (mvT hZ (hw _ (wd 17 rfl))) (notFace_of_selects (args := #[]) (mvT hZ (hw _ (wd 19 rfl)))) (mvT hZ (hw _ (wd 19 rfl))) (mvT hZ (hw _ (wd 18 rfl))) (by decide) (backOf (W := 0) (cv_2_2_0 l Z a0 hw [] a_NEXT_KEY a_GAP a_RECORD a_INSERT_INTENTION G  T391.heap n0 O_392 ) hZ (hw _ (wd 20 rfl)) (hw _ (wd 7 rfl)) (by decide) (by decide)) q395a q395c (g := (mkF m 122 #[iv q1, iv q2, iv q3, iv 2, iv 2, iv 0, iv 1, iv 1, iv 1] [(.int 0), (.ref a_RECORD), (.ref a_RECORD)])) rfl (by rw [hml]; rfl) (Steps.refl _) (argsL := [(.ref a_RECORD), (.int 0)]) (rest := []) (lenOf pd_2 rfl) rfl (by show 2 * 0 + _ ≤ _; exact Nat.le_of_eq rfl) (hb hby at_122) (fun _ _ => ⟨rfl, (rfl : T391.heap = _), (by decide : 2 + 0 ≤ _), (by decide : 8 + 0 ≤ _)⟩)
        dsimp only [Pt.U, Pt.locs, Pt.cells, Pt.slots] at X395 l395 y395 z395 st395 hQ395
        subst l395 y395 z395
        obtain ⟨rfl, N395q, e395⟩ := hQ395
        have N395 := Fr.app N391 N395q
        have k_396 : Go p.tables e below (s₁.setTop (entryFrame m #[(.int q1), (.int q2), (.int q3)] maxLocals)) (T395.setTop (mkF m 139 #[iv q1, iv q2, iv q3, iv 2, iv 2, iv 0, iv 1, iv 1, iv 1] [(.int 1)])) := fun t q => by
          refine k_394 t ?_
          refine st395.trans ?_
          show Steps _ _ _ (T395.setTop (mkF m 125 #[iv q1, iv q2, iv q3, iv 2, iv 2, iv 0, iv 1, iv 1, iv 1] [(.int 1)])) _
          refine XS.istore X395.here hx rfl (hb hby at_125) rfl (l' := #[iv q1, iv q2, iv q3, iv 2, iv 2, iv 0, iv 1, iv 1, iv 1]) rfl ?_
          show Steps _ _ _ (T395.setTop (mkF m 127 #[iv q1, iv q2, iv q3, iv 2, iv 2, iv 0, iv 1, iv 1, iv 1] [])) _
          refine XS.iload X395.here hx rfl (hb hby at_127) rfl ?_
          show Steps _ _ _ (T395.setTop (mkF m 129 #[iv q1, iv q2, iv q3, iv 2, iv 2, iv 0, iv 1, iv 1, iv 1] [(.int 1)])) _
          refine XS.iload X395.here hx rfl (hb hby at_129) rfl ?_
          show Steps _ _ _ (T395.setTop (mkF m 131 #[iv q1, iv q2, iv q3, iv 2, iv 2, iv 0, iv 1, iv 1, iv 1] [(.int 1), (.int 1)])) _
          refine XS.icmpNo X395.here hx rfl (hb hby at_131) rfl (by decide) ?_
          show Steps _ _ _ (T395.setTop (mkF m 134 #[iv q1, iv q2, iv q3, iv 2, iv 2, iv 0, iv 1, iv 1, iv 1] [])) _
          refine XS.iconst X395.here hx rfl (hb hby at_134) ?_
          show Steps _ _ _ (T395.setTop (mkF m 135 #[iv q1, iv q2, iv q3, iv 2, iv 2, iv 0, iv 1, iv 1, iv 1] [(.int 1)])) _
          refine XS.goto X395.here hx rfl (pc0 := 135) (pc' := 139) rfl (hb hby at_135) (by decide) (by decide) ?_
          show Steps _ _ _ (T395.setTop (mkF m 139 #[iv q1, iv q2, iv q3, iv 2, iv 2, iv 0, iv 1, iv 1, iv 1] [(.int 1)])) _
          exact q
        obtain ⟨fs, hr, hrun, hended, hW, hsame⟩ := X395.leave (v := some (.int 1)) (fun h => by rw [Bd.returns] at h; cases h)
        refine ⟨_, _, k_396 _ ?_, hrun, hended, _, _, rfl, ?_, ⟨_, rfl⟩, hW, hsame.mono (by decide) (by decide)⟩
        · exact retN X395 hx (t := .boolean) Bd.returns (by simp) (hb hby at_139) hr
        · show Q0 n0 _ T395.heap _
          rw [e395]
          exact ⟨rfl, N395⟩
      · skip
        have k_397 : Go p.tables e below (s₁.setTop (entryFrame m #[(.int q1), (.int q2), (.int q3)] maxLocals)) (s₁.setTop (mkF m 112 #[iv q1, iv q2, iv q3, iv 2, iv 3, iv 0, iv 0, .unset, .unset] [(.int 2)])) := fun t q => by
          refine k0 t ?_
          refine XS.iloadN X0.here hx rfl (hb hby at_0) rfl ?_
          show Steps _ _ _ (s₁.setTop (mkF m 1 #[iv q1, iv q2, iv q3, .unset, .unset, .unset, .unset, .unset, .unset] [(.int q1)])) _
          refine XS.iconst X0.here hx rfl (hb hby at_1) ?_
          show Steps _ _ _ (s₁.setTop (mkF m 2 #[iv q1, iv q2, iv q3, .unset, .unset, .unset, .unset, .unset, .unset] [(.int 3), (.int q1)])) _
          refine XS.iand X0.here hx rfl (hb hby at_2) rfl ?_
          show Steps _ _ _ (s₁.setTop (mkF m 3 #[iv q1, iv q2, iv q3, .unset, .unset, .unset, .unset, .unset, .unset] [(.int (q1 &&& (3 : Int32)))])) _
          rw [hi]
          show Steps _ _ _ (s₁.setTop (mkF m 3 #[iv q1, iv q2, iv q3, .unset, .unset, .unset, .unset, .unset, .unset] [(.int 2)])) _
          refine XS.istoreN X0.here hx rfl (hb hby at_3) rfl (l' := #[iv q1, iv q2, iv q3, iv 2, .unset, .unset, .unset, .unset, .unset]) rfl ?_
          show Steps _ _ _ (s₁.setTop (mkF m 4 #[iv q1, iv q2, iv q3, iv 2, .unset, .unset, .unset, .unset, .unset] [])) _
          refine XS.iloadN X0.here hx rfl (hb hby at_4) rfl ?_
          show Steps _ _ _ (s₁.setTop (mkF m 5 #[iv q1, iv q2, iv q3, iv 2, .unset, .unset, .unset, .unset, .unset] [(.int q2)])) _
          refine XS.iconst X0.here hx rfl (hb hby at_5) ?_
          show Steps _ _ _ (s₁.setTop (mkF m 6 #[iv q1, iv q2, iv q3, iv 2, .unset, .unset, .unset, .unset, .unset] [(.int 3), (.int q2)])) _
          refine XS.iand X0.here hx rfl (hb hby at_6) rfl ?_
          show Steps _ _ _ (s₁.setTop (mkF m 7 #[iv q1, iv q2, iv q3, iv 2, .unset, .unset, .unset, .unset, .unset] [(.int (q2 &&& (3 : Int32)))])) _
          rw [hj]
          show Steps _ _ _ (s₁.setTop (mkF m 7 #[iv q1, iv q2, iv q3, iv 2, .unset, .unset, .unset, .unset, .unset] [(.int 3)])) _
          refine XS.istore X0.here hx rfl (hb hby at_7) rfl (l' := #[iv q1, iv q2, iv q3, iv 2, iv 3, .unset, .unset, .unset, .unset]) rfl ?_
          show Steps _ _ _ (s₁.setTop (mkF m 9 #[iv q1, iv q2, iv q3, iv 2, iv 3, .unset, .unset, .unset, .unset] [])) _
          refine XS.iloadN X0.here hx rfl (hb hby at_9) rfl ?_
          show Steps _ _ _ (s₁.setTop (mkF m 10 #[iv q1, iv q2, iv q3, iv 2, iv 3, .unset, .unset, .unset, .unset] [(.int q3)])) _
          refine XS.iconst X0.here hx rfl (hb hby at_10) ?_
          show Steps _ _ _ (s₁.setTop (mkF m 11 #[iv q1, iv q2, iv q3, iv 2, iv 3, .unset, .unset, .unset, .unset] [(.int 1), (.int q3)])) _
          refine XS.iand X0.here hx rfl (hb hby at_11) rfl ?_
          show Steps _ _ _ (s₁.setTop (mkF m 12 #[iv q1, iv q2, iv q3, iv 2, iv 3, .unset, .unset, .unset, .unset] [(.int (q3 &&& (1 : Int32)))])) _
          rw [hs]
          show Steps _ _ _ (s₁.setTop (mkF m 12 #[iv q1, iv q2, iv q3, iv 2, iv 3, .unset, .unset, .unset, .unset] [(.int 0)])) _
          refine XS.ifYes X0.here hx rfl (pc0 := 12) (pc' := 19) rfl (hb hby at_12) rfl (by decide) (by decide) (by decide) ?_
          show Steps _ _ _ (s₁.setTop (mkF m 19 #[iv q1, iv q2, iv q3, iv 2, iv 3, .unset, .unset, .unset, .unset] [])) _
          refine XS.iconst X0.here hx rfl (hb hby at_19) ?_
          show Steps _ _ _ (s₁.setTop (mkF m 20 #[iv q1, iv q2, iv q3, iv 2, iv 3, .unset, .unset, .unset, .unset] [(.int 0)])) _
          refine XS.istore X0.here hx rfl (hb hby at_20) rfl (l' := #[iv q1, iv q2, iv q3, iv 2, iv 3, iv 0, .unset, .unset, .unset]) rfl ?_
          show Steps _ _ _ (s₁.setTop (mkF m 22 #[iv q1, iv q2, iv q3, iv 2, iv 3, iv 0, .unset, .unset, .unset] [])) _
          refine XS.iloadN X0.here hx rfl (hb hby at_22) rfl ?_
          show Steps _ _ _ (s₁.setTop (mkF m 23 #[iv q1, iv q2, iv q3, iv 2, iv 3, iv 0, .unset, .unset, .unset] [(.int 2)])) _
          refine XS.iconst X0.here hx rfl (hb hby at_23) ?_
          show Steps _ _ _ (s₁.setTop (mkF m 24 #[iv q1, iv q2, iv q3, iv 2, iv 3, iv 0, .unset, .unset, .unset] [(.int 3), (.int 2)])) _
          refine XS.icmpNo X0.here hx rfl (hb hby at_24) rfl (by decide) ?_
          show Steps _ _ _ (s₁.setTop (mkF m 27 #[iv q1, iv q2, iv q3, iv 2, iv 3, iv 0, .unset, .unset, .unset] [])) _
          refine XS.iload X0.here hx rfl (hb hby at_27) rfl ?_
          show Steps _ _ _ (s₁.setTop (mkF m 29 #[iv q1, iv q2, iv q3, iv 2, iv 3, iv 0, .unset, .unset, .unset] [(.int 3)])) _
          refine XS.iconst X0.here hx rfl (hb hby at_29) ?_
          show Steps _ _ _ (s₁.setTop (mkF m 30 #[iv q1, iv q2, iv q3, iv 2, iv 3, iv 0, .unset, .unset, .unset] [(.int 3), (.int 3)])) _
          refine XS.icmpNo X0.here hx rfl (hb hby at_30) rfl (by decide) ?_
          show Steps _ _ _ (s₁.setTop (mkF m 33 #[iv q1, iv q2, iv q3, iv 2, iv 3, iv 0, .unset, .unset, .unset] [])) _
          refine XS.iconst X0.here hx rfl (hb hby at_33) ?_
          show Steps _ _ _ (s₁.setTop (mkF m 34 #[iv q1, iv q2, iv q3, iv 2, iv 3, iv 0, .unset, .unset, .unset] [(.int 0)])) _
          refine XS.istore X0.here hx rfl (hb hby at_34) rfl (l' := #[iv q1, iv q2, iv q3, iv 2, iv 3, iv 0, iv 0, .unset, .unset]) rfl ?_
          show Steps _ _ _ (s₁.setTop (mkF m 36 #[iv q1, iv q2, iv q3, iv 2, iv 3, iv 0, iv 0, .unset, .unset] [])) _
          refine XS.goto X0.here hx rfl (pc0 := 36) (pc' := 111) rfl (hb hby at_36) (by decide) (by decide) ?_
          show Steps _ _ _ (s₁.setTop (mkF m 111 #[iv q1, iv q2, iv q3, iv 2, iv 3, iv 0, iv 0, .unset, .unset] [])) _
          refine XS.iloadN X0.here hx rfl (hb hby at_111) rfl ?_
          show Steps _ _ _ (s₁.setTop (mkF m 112 #[iv q1, iv q2, iv q3, iv 2, iv 3, iv 0, iv 0, .unset, .unset] [(.int 2)])) _
          exact q
        obtain ⟨_, _, ⟨T398, L398, k398, n398⟩, -, X398, ⟨Lc398, hQ398, l398, y398, z398⟩, st398⟩ := Jvm.LawKit.callS X0 hx (y := y_2) hown (mvT hZ (hw _ (wd 0 rfl))) (mvT hZ (hw _ (wd 1 rfl))) (mvT hZ (hw _ (wd 2 rfl))) (mvT hZ (hw _ (wd 3 rfl))) (by decide) (backOf (W := 0) (kd l Z a0 hw [] a_NEXT_KEY a_GAP a_RECORD a_INSERT_INTENTION G (2 : Int32) 2 h0 n0 O0 (Or.inr (Or.inr (Or.inl ⟨by decide, rfl⟩)))) hZ (hw _ (wd 3 rfl)) (hw _ (wd 2 rfl)) (by decide) (by decide)) (g := (mkF m 112 #[iv q1, iv q2, iv q3, iv 2, iv 3, iv 0, iv 0, .unset, .unset] [(.int 2)])) rfl (by rw [hml]; rfl) (argsL := [(.int 2)]) (rest := []) (lenOf pd_1 rfl) rfl (by show 2 * 0 + _ ≤ _; exact Nat.le_of_eq rfl) (hb hby at_112) (fun _ _ => ⟨rfl, e0, (by decide : 0 + 1 ≤ _), (by decide : 0 + 4 ≤ _)⟩)
        dsimp only [Pt.U, Pt.locs, Pt.cells, Pt.slots] at X398 l398 y398 z398 st398 hQ398
        subst l398 y398 z398
        obtain ⟨rfl, N398q, K398⟩ := hQ398
        have N398 := Fr.app N0 N398q
        have O_399 := O0.keep K398 all0
        have K_400 := K0.trans K398 all0
        have k_401 : Go p.tables e below (s₁.setTop (entryFrame m #[(.int q1), (.int q2), (.int q3)] maxLocals)) (T398.setTop (mkF m 117 #[iv q1, iv q2, iv q3, iv 2, iv 3, iv 0, iv 0, .unset, .unset] [(.int 3), (.ref a_RECORD)])) := fun t q => by
          refine k_397 t ?_
          refine st398 _ ?_
          show Steps _ _ _ (T398.setTop (mkF m 115 #[iv q1, iv q2, iv q3, iv 2, iv 3, iv 0, iv 0, .unset, .unset] [(.ref a_RECORD)])) _
          refine XS.iload X398.here hx rfl (hb hby at_115) rfl ?_
          show Steps _ _ _ (T398.setTop (mkF m 117 #[iv q1, iv q2, iv q3, iv 2, iv 3, iv 0, iv 0, .unset, .unset] [(.int 3), (.ref a_RECORD)])) _
          exact q
        obtain ⟨_, _, ⟨T402, L402, k402, n402⟩, -, X402, ⟨Lc402, hQ402, l402, y402, z402⟩, st402⟩ := Jvm.LawKit.callS X398 hx (y := y_2) hown (mvT hZ (hw _ (wd 0 rfl))) (mvT hZ (hw _ (wd 1 rfl))) (mvT hZ (hw _ (wd 2 rfl))) (mvT hZ (hw _ (wd 3 rfl))) (by decide) (backOf (W := 1) (kd l Z a0 hw [] a_NEXT_KEY a_GAP a_RECORD a_INSERT_INTENTION G (3 : Int32) 3 T398.heap n0 O_399 (Or.inr (Or.inr (Or.inr ⟨by decide, rfl⟩)))) hZ (hw _ (wd 3 rfl)) (hw _ (wd 2 rfl)) (by decide) (by decide)) (g := (mkF m 117 #[iv q1, iv q2, iv q3, iv 2, iv 3, iv 0, iv 0, .unset, .unset] [(.int 3), (.ref a_RECORD)])) rfl (by rw [hml]; rfl) (argsL := [(.int 3)]) (rest := [(.ref a_RECORD)]) (lenOf pd_1 rfl) rfl (by show 2 * 0 + _ ≤ _; exact Nat.le_of_eq rfl) (hb hby at_117) (fun _ _ => ⟨rfl, (rfl : T398.heap = _), (by decide : 1 + 1 ≤ _), (by decide : 4 + 4 ≤ _)⟩)
        dsimp only [Pt.U, Pt.locs, Pt.cells, Pt.slots] at X402 l402 y402 z402 st402 hQ402
        subst l402 y402 z402
        obtain ⟨rfl, N402q, K402⟩ := hQ402
        have N402 := Fr.app N398 N402q
        have O_403 := O_399.keep K402 all0
        have K_404 := K_400.trans K402 all0
        have k_405 : Go p.tables e below (s₁.setTop (entryFrame m #[(.int q1), (.int q2), (.int q3)] maxLocals)) (T402.setTop (mkF m 122 #[iv q1, iv q2, iv q3, iv 2, iv 3, iv 0, iv 0, .unset, .unset] [(.int 0), (.ref a_INSERT_INTENTION), (.ref a_RECORD)])) := fun t q => by
          refine k_401 t ?_
          refine st402 _ ?_
          show Steps _ _ _ (T402.setTop (mkF m 120 #[iv q1, iv q2, iv q3, iv 2, iv 3, iv 0, iv 0, .unset, .unset] [(.ref a_INSERT_INTENTION), (.ref a_RECORD)])) _
          refine XS.iload X402.here hx rfl (hb hby at_120) rfl ?_
          show Steps _ _ _ (T402.setTop (mkF m 122 #[iv q1, iv q2, iv q3, iv 2, iv 3, iv 0, iv 0, .unset, .unset] [(.int 0), (.ref a_INSERT_INTENTION), (.ref a_RECORD)])) _
          exact q
        obtain ⟨cq406, kq406, q406a, q406b, q406c⟩ := isOf hZ (rfl : T402.heap = _) (Exa.ext O_403.2 E_RECORD)
        obtain ⟨_, _, ⟨T406, L406, k406, n406⟩, -, X406, ⟨Lc406, hQ406, l406, y406, z406⟩, st406⟩ := X402.virtualBack hx (y := y_3) (z := y_3) hown (mvT hZ (hw _ (wd 16 rfl))) (mvT hZ (hw _ (wd 17 rfl))) (notFace_of_selects (args := #[]) (mvT hZ (hw _ (wd 19 rfl)))) (mvT hZ (hw _ (wd 19 rfl))) (mvT hZ (hw _ (wd 18 rfl))) (by decide) (backOf (W := 0) (cv_2_3_0 l Z a0 hw [] a_NEXT_KEY a_GAP a_RECORD a_INSERT_INTENTION G  T402.heap n0 O_403 ) hZ (hw _ (wd 20 rfl)) (hw _ (wd 7 rfl)) (by decide) (by decide)) q406a q406c (g := (mkF m 122 #[iv q1, iv q2, iv q3, iv 2, iv 3, iv 0, iv 0, .unset, .unset] [(.int 0), (.ref a_INSERT_INTENTION), (.ref a_RECORD)])) rfl (by rw [hml]; rfl) (Steps.refl _) (argsL := [(.ref a_INSERT_INTENTION), (.int 0)]) (rest := []) (lenOf pd_2 rfl) rfl (by show 2 * 0 + _ ≤ _; exact Nat.le_of_eq rfl) (hb hby at_122) (fun _ _ => ⟨rfl, (rfl : T402.heap = _), (by decide : 2 + 0 ≤ _), (by decide : 8 + 0 ≤ _)⟩)
        dsimp only [Pt.U, Pt.locs, Pt.cells, Pt.slots] at X406 l406 y406 z406 st406 hQ406
        subst l406 y406 z406
        obtain ⟨rfl, N406q, e406⟩ := hQ406
        have N406 := Fr.app N402 N406q
        have k_407 : Go p.tables e below (s₁.setTop (entryFrame m #[(.int q1), (.int q2), (.int q3)] maxLocals)) (T406.setTop (mkF m 139 #[iv q1, iv q2, iv q3, iv 2, iv 3, iv 0, iv 0, iv 0, .unset] [(.int 1)])) := fun t q => by
          refine k_405 t ?_
          refine st406.trans ?_
          show Steps _ _ _ (T406.setTop (mkF m 125 #[iv q1, iv q2, iv q3, iv 2, iv 3, iv 0, iv 0, .unset, .unset] [(.int 0)])) _
          refine XS.istore X406.here hx rfl (hb hby at_125) rfl (l' := #[iv q1, iv q2, iv q3, iv 2, iv 3, iv 0, iv 0, iv 0, .unset]) rfl ?_
          show Steps _ _ _ (T406.setTop (mkF m 127 #[iv q1, iv q2, iv q3, iv 2, iv 3, iv 0, iv 0, iv 0, .unset] [])) _
          refine XS.iload X406.here hx rfl (hb hby at_127) rfl ?_
          show Steps _ _ _ (T406.setTop (mkF m 129 #[iv q1, iv q2, iv q3, iv 2, iv 3, iv 0, iv 0, iv 0, .unset] [(.int 0)])) _
          refine XS.iload X406.here hx rfl (hb hby at_129) rfl ?_
          show Steps _ _ _ (T406.setTop (mkF m 131 #[iv q1, iv q2, iv q3, iv 2, iv 3, iv 0, iv 0, iv 0, .unset] [(.int 0), (.int 0)])) _
          refine XS.icmpNo X406.here hx rfl (hb hby at_131) rfl (by decide) ?_
          show Steps _ _ _ (T406.setTop (mkF m 134 #[iv q1, iv q2, iv q3, iv 2, iv 3, iv 0, iv 0, iv 0, .unset] [])) _
          refine XS.iconst X406.here hx rfl (hb hby at_134) ?_
          show Steps _ _ _ (T406.setTop (mkF m 135 #[iv q1, iv q2, iv q3, iv 2, iv 3, iv 0, iv 0, iv 0, .unset] [(.int 1)])) _
          refine XS.goto X406.here hx rfl (pc0 := 135) (pc' := 139) rfl (hb hby at_135) (by decide) (by decide) ?_
          show Steps _ _ _ (T406.setTop (mkF m 139 #[iv q1, iv q2, iv q3, iv 2, iv 3, iv 0, iv 0, iv 0, .unset] [(.int 1)])) _
          exact q
        obtain ⟨fs, hr, hrun, hended, hW, hsame⟩ := X406.leave (v := some (.int 1)) (fun h => by rw [Bd.returns] at h; cases h)
        refine ⟨_, _, k_407 _ ?_, hrun, hended, _, _, rfl, ?_, ⟨_, rfl⟩, hW, hsame.mono (by decide) (by decide)⟩
        · exact retN X406 hx (t := .boolean) Bd.returns (by simp) (hb hby at_139) hr
        · show Q0 n0 _ T406.heap _
          rw [e406]
          exact ⟨rfl, N406⟩
    · skip
      rcases own_mask_4 q2 with hj | hj | hj | hj
      · skip
        have k_408 : Go p.tables e below (s₁.setTop (entryFrame m #[(.int q1), (.int q2), (.int q3)] maxLocals)) (s₁.setTop (mkF m 112 #[iv q1, iv q2, iv q3, iv 3, iv 0, iv 0, iv 0, .unset, .unset] [(.int 3)])) := fun t q => by
          refine k0 t ?_
          refine XS.iloadN X0.here hx rfl (hb hby at_0) rfl ?_
          show Steps _ _ _ (s₁.setTop (mkF m 1 #[iv q1, iv q2, iv q3, .unset, .unset, .unset, .unset, .unset, .unset] [(.int q1)])) _
          refine XS.iconst X0.here hx rfl (hb hby at_1) ?_
          show Steps _ _ _ (s₁.setTop (mkF m 2 #[iv q1, iv q2, iv q3, .unset, .unset, .unset, .unset, .unset, .unset] [(.int 3), (.int q1)])) _
          refine XS.iand X0.here hx rfl (hb hby at_2) rfl ?_
          show Steps _ _ _ (s₁.setTop (mkF m 3 #[iv q1, iv q2, iv q3, .unset, .unset, .unset, .unset, .unset, .unset] [(.int (q1 &&& (3 : Int32)))])) _
          rw [hi]
          show Steps _ _ _ (s₁.setTop (mkF m 3 #[iv q1, iv q2, iv q3, .unset, .unset, .unset, .unset, .unset, .unset] [(.int 3)])) _
          refine XS.istoreN X0.here hx rfl (hb hby at_3) rfl (l' := #[iv q1, iv q2, iv q3, iv 3, .unset, .unset, .unset, .unset, .unset]) rfl ?_
          show Steps _ _ _ (s₁.setTop (mkF m 4 #[iv q1, iv q2, iv q3, iv 3, .unset, .unset, .unset, .unset, .unset] [])) _
          refine XS.iloadN X0.here hx rfl (hb hby at_4) rfl ?_
          show Steps _ _ _ (s₁.setTop (mkF m 5 #[iv q1, iv q2, iv q3, iv 3, .unset, .unset, .unset, .unset, .unset] [(.int q2)])) _
          refine XS.iconst X0.here hx rfl (hb hby at_5) ?_
          show Steps _ _ _ (s₁.setTop (mkF m 6 #[iv q1, iv q2, iv q3, iv 3, .unset, .unset, .unset, .unset, .unset] [(.int 3), (.int q2)])) _
          refine XS.iand X0.here hx rfl (hb hby at_6) rfl ?_
          show Steps _ _ _ (s₁.setTop (mkF m 7 #[iv q1, iv q2, iv q3, iv 3, .unset, .unset, .unset, .unset, .unset] [(.int (q2 &&& (3 : Int32)))])) _
          rw [hj]
          show Steps _ _ _ (s₁.setTop (mkF m 7 #[iv q1, iv q2, iv q3, iv 3, .unset, .unset, .unset, .unset, .unset] [(.int 0)])) _
          refine XS.istore X0.here hx rfl (hb hby at_7) rfl (l' := #[iv q1, iv q2, iv q3, iv 3, iv 0, .unset, .unset, .unset, .unset]) rfl ?_
          show Steps _ _ _ (s₁.setTop (mkF m 9 #[iv q1, iv q2, iv q3, iv 3, iv 0, .unset, .unset, .unset, .unset] [])) _
          refine XS.iloadN X0.here hx rfl (hb hby at_9) rfl ?_
          show Steps _ _ _ (s₁.setTop (mkF m 10 #[iv q1, iv q2, iv q3, iv 3, iv 0, .unset, .unset, .unset, .unset] [(.int q3)])) _
          refine XS.iconst X0.here hx rfl (hb hby at_10) ?_
          show Steps _ _ _ (s₁.setTop (mkF m 11 #[iv q1, iv q2, iv q3, iv 3, iv 0, .unset, .unset, .unset, .unset] [(.int 1), (.int q3)])) _
          refine XS.iand X0.here hx rfl (hb hby at_11) rfl ?_
          show Steps _ _ _ (s₁.setTop (mkF m 12 #[iv q1, iv q2, iv q3, iv 3, iv 0, .unset, .unset, .unset, .unset] [(.int (q3 &&& (1 : Int32)))])) _
          rw [hs]
          show Steps _ _ _ (s₁.setTop (mkF m 12 #[iv q1, iv q2, iv q3, iv 3, iv 0, .unset, .unset, .unset, .unset] [(.int 0)])) _
          refine XS.ifYes X0.here hx rfl (pc0 := 12) (pc' := 19) rfl (hb hby at_12) rfl (by decide) (by decide) (by decide) ?_
          show Steps _ _ _ (s₁.setTop (mkF m 19 #[iv q1, iv q2, iv q3, iv 3, iv 0, .unset, .unset, .unset, .unset] [])) _
          refine XS.iconst X0.here hx rfl (hb hby at_19) ?_
          show Steps _ _ _ (s₁.setTop (mkF m 20 #[iv q1, iv q2, iv q3, iv 3, iv 0, .unset, .unset, .unset, .unset] [(.int 0)])) _
          refine XS.istore X0.here hx rfl (hb hby at_20) rfl (l' := #[iv q1, iv q2, iv q3, iv 3, iv 0, iv 0, .unset, .unset, .unset]) rfl ?_
          show Steps _ _ _ (s₁.setTop (mkF m 22 #[iv q1, iv q2, iv q3, iv 3, iv 0, iv 0, .unset, .unset, .unset] [])) _
          refine XS.iloadN X0.here hx rfl (hb hby at_22) rfl ?_
          show Steps _ _ _ (s₁.setTop (mkF m 23 #[iv q1, iv q2, iv q3, iv 3, iv 0, iv 0, .unset, .unset, .unset] [(.int 3)])) _
          refine XS.iconst X0.here hx rfl (hb hby at_23) ?_
          show Steps _ _ _ (s₁.setTop (mkF m 24 #[iv q1, iv q2, iv q3, iv 3, iv 0, iv 0, .unset, .unset, .unset] [(.int 3), (.int 3)])) _
          refine XS.icmpYes X0.here hx rfl (pc0 := 24) (pc' := 33) rfl (hb hby at_24) rfl (by decide) (by decide) (by decide) ?_
          show Steps _ _ _ (s₁.setTop (mkF m 33 #[iv q1, iv q2, iv q3, iv 3, iv 0, iv 0, .unset, .unset, .unset] [])) _
          refine XS.iconst X0.here hx rfl (hb hby at_33) ?_
          show Steps _ _ _ (s₁.setTop (mkF m 34 #[iv q1, iv q2, iv q3, iv 3, iv 0, iv 0, .unset, .unset, .unset] [(.int 0)])) _
          refine XS.istore X0.here hx rfl (hb hby at_34) rfl (l' := #[iv q1, iv q2, iv q3, iv 3, iv 0, iv 0, iv 0, .unset, .unset]) rfl ?_
          show Steps _ _ _ (s₁.setTop (mkF m 36 #[iv q1, iv q2, iv q3, iv 3, iv 0, iv 0, iv 0, .unset, .unset] [])) _
          refine XS.goto X0.here hx rfl (pc0 := 36) (pc' := 111) rfl (hb hby at_36) (by decide) (by decide) ?_
          show Steps _ _ _ (s₁.setTop (mkF m 111 #[iv q1, iv q2, iv q3, iv 3, iv 0, iv 0, iv 0, .unset, .unset] [])) _
          refine XS.iloadN X0.here hx rfl (hb hby at_111) rfl ?_
          show Steps _ _ _ (s₁.setTop (mkF m 112 #[iv q1, iv q2, iv q3, iv 3, iv 0, iv 0, iv 0, .unset, .unset] [(.int 3)])) _
          exact q
        obtain ⟨_, _, ⟨T409, L409, k409, n409⟩, -, X409, ⟨Lc409, hQ409, l409, y409, z409⟩, st409⟩ := Jvm.LawKit.callS X0 hx (y := y_2) hown (mvT hZ (hw _ (wd 0 rfl))) (mvT hZ (hw _ (wd 1 rfl))) (mvT hZ (hw _ (wd 2 rfl))) (mvT hZ (hw _ (wd 3 rfl))) (by decide) (backOf (W := 0) (kd l Z a0 hw [] a_NEXT_KEY a_GAP a_RECORD a_INSERT_INTENTION G (3 : Int32) 3 h0 n0 O0 (Or.inr (Or.inr (Or.inr ⟨by decide, rfl⟩)))) hZ (hw _ (wd 3 rfl)) (hw _ (wd 2 rfl)) (by decide) (by decide)) (g := (mkF m 112 #[iv q1, iv q2, iv q3, iv 3, iv 0, iv 0, iv 0, .unset, .unset] [(.int 3)])) rfl (by rw [hml]; rfl) (argsL := [(.int 3)]) (rest := []) (lenOf pd_1 rfl) rfl (by show 2 * 0 + _ ≤ _; exact Nat.le_of_eq rfl) (hb hby at_112) (fun _ _ => ⟨rfl, e0, (by decide : 0 + 1 ≤ _), (by decide : 0 + 4 ≤ _)⟩)
        dsimp only [Pt.U, Pt.locs, Pt.cells, Pt.slots] at X409 l409 y409 z409 st409 hQ409
        subst l409 y409 z409
        obtain ⟨rfl, N409q, K409⟩ := hQ409
        have N409 := Fr.app N0 N409q
        have O_410 := O0.keep K409 all0
        have K_411 := K0.trans K409 all0
        have k_412 : Go p.tables e below (s₁.setTop (entryFrame m #[(.int q1), (.int q2), (.int q3)] maxLocals)) (T409.setTop (mkF m 117 #[iv q1, iv q2, iv q3, iv 3, iv 0, iv 0, iv 0, .unset, .unset] [(.int 0), (.ref a_INSERT_INTENTION)])) := fun t q => by
          refine k_408 t ?_
          refine st409 _ ?_
          show Steps _ _ _ (T409.setTop (mkF m 115 #[iv q1, iv q2, iv q3, iv 3, iv 0, iv 0, iv 0, .unset, .unset] [(.ref a_INSERT_INTENTION)])) _
          refine XS.iload X409.here hx rfl (hb hby at_115) rfl ?_
          show Steps _ _ _ (T409.setTop (mkF m 117 #[iv q1, iv q2, iv q3, iv 3, iv 0, iv 0, iv 0, .unset, .unset] [(.int 0), (.ref a_INSERT_INTENTION)])) _
          exact q
        obtain ⟨_, _, ⟨T413, L413, k413, n413⟩, -, X413, ⟨Lc413, hQ413, l413, y413, z413⟩, st413⟩ := Jvm.LawKit.callS X409 hx (y := y_2) hown (mvT hZ (hw _ (wd 0 rfl))) (mvT hZ (hw _ (wd 1 rfl))) (mvT hZ (hw _ (wd 2 rfl))) (mvT hZ (hw _ (wd 3 rfl))) (by decide) (backOf (W := 1) (kd l Z a0 hw [] a_NEXT_KEY a_GAP a_RECORD a_INSERT_INTENTION G (0 : Int32) 0 T409.heap n0 O_410 (Or.inl ⟨by decide, rfl⟩)) hZ (hw _ (wd 3 rfl)) (hw _ (wd 2 rfl)) (by decide) (by decide)) (g := (mkF m 117 #[iv q1, iv q2, iv q3, iv 3, iv 0, iv 0, iv 0, .unset, .unset] [(.int 0), (.ref a_INSERT_INTENTION)])) rfl (by rw [hml]; rfl) (argsL := [(.int 0)]) (rest := [(.ref a_INSERT_INTENTION)]) (lenOf pd_1 rfl) rfl (by show 2 * 0 + _ ≤ _; exact Nat.le_of_eq rfl) (hb hby at_117) (fun _ _ => ⟨rfl, (rfl : T409.heap = _), (by decide : 1 + 1 ≤ _), (by decide : 4 + 4 ≤ _)⟩)
        dsimp only [Pt.U, Pt.locs, Pt.cells, Pt.slots] at X413 l413 y413 z413 st413 hQ413
        subst l413 y413 z413
        obtain ⟨rfl, N413q, K413⟩ := hQ413
        have N413 := Fr.app N409 N413q
        have O_414 := O_410.keep K413 all0
        have K_415 := K_411.trans K413 all0
        have k_416 : Go p.tables e below (s₁.setTop (entryFrame m #[(.int q1), (.int q2), (.int q3)] maxLocals)) (T413.setTop (mkF m 122 #[iv q1, iv q2, iv q3, iv 3, iv 0, iv 0, iv 0, .unset, .unset] [(.int 0), (.ref a_NEXT_KEY), (.ref a_INSERT_INTENTION)])) := fun t q => by
          refine k_412 t ?_
          refine st413 _ ?_
          show Steps _ _ _ (T413.setTop (mkF m 120 #[iv q1, iv q2, iv q3, iv 3, iv 0, iv 0, iv 0, .unset, .unset] [(.ref a_NEXT_KEY), (.ref a_INSERT_INTENTION)])) _
          refine XS.iload X413.here hx rfl (hb hby at_120) rfl ?_
          show Steps _ _ _ (T413.setTop (mkF m 122 #[iv q1, iv q2, iv q3, iv 3, iv 0, iv 0, iv 0, .unset, .unset] [(.int 0), (.ref a_NEXT_KEY), (.ref a_INSERT_INTENTION)])) _
          exact q
        obtain ⟨cq417, kq417, q417a, q417b, q417c⟩ := isOf hZ (rfl : T413.heap = _) (Exa.ext O_414.2 E_INSERT_INTENTION)
        obtain ⟨_, _, ⟨T417, L417, k417, n417⟩, -, X417, ⟨Lc417, hQ417, l417, y417, z417⟩, st417⟩ := X413.virtualBack hx (y := y_3) (z := y_3) hown (mvT hZ (hw _ (wd 16 rfl))) (mvT hZ (hw _ (wd 17 rfl))) (notFace_of_selects (args := #[]) (mvT hZ (hw _ (wd 19 rfl)))) (mvT hZ (hw _ (wd 19 rfl))) (mvT hZ (hw _ (wd 18 rfl))) (by decide) (backOf (W := 0) (cv_3_0_0 l Z a0 hw [] a_NEXT_KEY a_GAP a_RECORD a_INSERT_INTENTION G  T413.heap n0 O_414 ) hZ (hw _ (wd 20 rfl)) (hw _ (wd 7 rfl)) (by decide) (by decide)) q417a q417c (g := (mkF m 122 #[iv q1, iv q2, iv q3, iv 3, iv 0, iv 0, iv 0, .unset, .unset] [(.int 0), (.ref a_NEXT_KEY), (.ref a_INSERT_INTENTION)])) rfl (by rw [hml]; rfl) (Steps.refl _) (argsL := [(.ref a_NEXT_KEY), (.int 0)]) (rest := []) (lenOf pd_2 rfl) rfl (by show 2 * 0 + _ ≤ _; exact Nat.le_of_eq rfl) (hb hby at_122) (fun _ _ => ⟨rfl, (rfl : T413.heap = _), (by decide : 2 + 0 ≤ _), (by decide : 8 + 0 ≤ _)⟩)
        dsimp only [Pt.U, Pt.locs, Pt.cells, Pt.slots] at X417 l417 y417 z417 st417 hQ417
        subst l417 y417 z417
        obtain ⟨rfl, N417q, e417⟩ := hQ417
        have N417 := Fr.app N413 N417q
        have k_418 : Go p.tables e below (s₁.setTop (entryFrame m #[(.int q1), (.int q2), (.int q3)] maxLocals)) (T417.setTop (mkF m 139 #[iv q1, iv q2, iv q3, iv 3, iv 0, iv 0, iv 0, iv 0, .unset] [(.int 1)])) := fun t q => by
          refine k_416 t ?_
          refine st417.trans ?_
          show Steps _ _ _ (T417.setTop (mkF m 125 #[iv q1, iv q2, iv q3, iv 3, iv 0, iv 0, iv 0, .unset, .unset] [(.int 0)])) _
          refine XS.istore X417.here hx rfl (hb hby at_125) rfl (l' := #[iv q1, iv q2, iv q3, iv 3, iv 0, iv 0, iv 0, iv 0, .unset]) rfl ?_
          show Steps _ _ _ (T417.setTop (mkF m 127 #[iv q1, iv q2, iv q3, iv 3, iv 0, iv 0, iv 0, iv 0, .unset] [])) _
          refine XS.iload X417.here hx rfl (hb hby at_127) rfl ?_
          show Steps _ _ _ (T417.setTop (mkF m 129 #[iv q1, iv q2, iv q3, iv 3, iv 0, iv 0, iv 0, iv 0, .unset] [(.int 0)])) _
          refine XS.iload X417.here hx rfl (hb hby at_129) rfl ?_
          show Steps _ _ _ (T417.setTop (mkF m 131 #[iv q1, iv q2, iv q3, iv 3, iv 0, iv 0, iv 0, iv 0, .unset] [(.int 0), (.int 0)])) _
          refine XS.icmpNo X417.here hx rfl (hb hby at_131) rfl (by decide) ?_
          show Steps _ _ _ (T417.setTop (mkF m 134 #[iv q1, iv q2, iv q3, iv 3, iv 0, iv 0, iv 0, iv 0, .unset] [])) _
          refine XS.iconst X417.here hx rfl (hb hby at_134) ?_
          show Steps _ _ _ (T417.setTop (mkF m 135 #[iv q1, iv q2, iv q3, iv 3, iv 0, iv 0, iv 0, iv 0, .unset] [(.int 1)])) _
          refine XS.goto X417.here hx rfl (pc0 := 135) (pc' := 139) rfl (hb hby at_135) (by decide) (by decide) ?_
          show Steps _ _ _ (T417.setTop (mkF m 139 #[iv q1, iv q2, iv q3, iv 3, iv 0, iv 0, iv 0, iv 0, .unset] [(.int 1)])) _
          exact q
        obtain ⟨fs, hr, hrun, hended, hW, hsame⟩ := X417.leave (v := some (.int 1)) (fun h => by rw [Bd.returns] at h; cases h)
        refine ⟨_, _, k_418 _ ?_, hrun, hended, _, _, rfl, ?_, ⟨_, rfl⟩, hW, hsame.mono (by decide) (by decide)⟩
        · exact retN X417 hx (t := .boolean) Bd.returns (by simp) (hb hby at_139) hr
        · show Q0 n0 _ T417.heap _
          rw [e417]
          exact ⟨rfl, N417⟩
      · skip
        have k_419 : Go p.tables e below (s₁.setTop (entryFrame m #[(.int q1), (.int q2), (.int q3)] maxLocals)) (s₁.setTop (mkF m 112 #[iv q1, iv q2, iv q3, iv 3, iv 1, iv 0, iv 0, .unset, .unset] [(.int 3)])) := fun t q => by
          refine k0 t ?_
          refine XS.iloadN X0.here hx rfl (hb hby at_0) rfl ?_
          show Steps _ _ _ (s₁.setTop (mkF m 1 #[iv q1, iv q2, iv q3, .unset, .unset, .unset, .unset, .unset, .unset] [(.int q1)])) _
          refine XS.iconst X0.here hx rfl (hb hby at_1) ?_
          show Steps _ _ _ (s₁.setTop (mkF m 2 #[iv q1, iv q2, iv q3, .unset, .unset, .unset, .unset, .unset, .unset] [(.int 3), (.int q1)])) _
          refine XS.iand X0.here hx rfl (hb hby at_2) rfl ?_
          show Steps _ _ _ (s₁.setTop (mkF m 3 #[iv q1, iv q2, iv q3, .unset, .unset, .unset, .unset, .unset, .unset] [(.int (q1 &&& (3 : Int32)))])) _
          rw [hi]
          show Steps _ _ _ (s₁.setTop (mkF m 3 #[iv q1, iv q2, iv q3, .unset, .unset, .unset, .unset, .unset, .unset] [(.int 3)])) _
          refine XS.istoreN X0.here hx rfl (hb hby at_3) rfl (l' := #[iv q1, iv q2, iv q3, iv 3, .unset, .unset, .unset, .unset, .unset]) rfl ?_
          show Steps _ _ _ (s₁.setTop (mkF m 4 #[iv q1, iv q2, iv q3, iv 3, .unset, .unset, .unset, .unset, .unset] [])) _
          refine XS.iloadN X0.here hx rfl (hb hby at_4) rfl ?_
          show Steps _ _ _ (s₁.setTop (mkF m 5 #[iv q1, iv q2, iv q3, iv 3, .unset, .unset, .unset, .unset, .unset] [(.int q2)])) _
          refine XS.iconst X0.here hx rfl (hb hby at_5) ?_
          show Steps _ _ _ (s₁.setTop (mkF m 6 #[iv q1, iv q2, iv q3, iv 3, .unset, .unset, .unset, .unset, .unset] [(.int 3), (.int q2)])) _
          refine XS.iand X0.here hx rfl (hb hby at_6) rfl ?_
          show Steps _ _ _ (s₁.setTop (mkF m 7 #[iv q1, iv q2, iv q3, iv 3, .unset, .unset, .unset, .unset, .unset] [(.int (q2 &&& (3 : Int32)))])) _
          rw [hj]
          show Steps _ _ _ (s₁.setTop (mkF m 7 #[iv q1, iv q2, iv q3, iv 3, .unset, .unset, .unset, .unset, .unset] [(.int 1)])) _
          refine XS.istore X0.here hx rfl (hb hby at_7) rfl (l' := #[iv q1, iv q2, iv q3, iv 3, iv 1, .unset, .unset, .unset, .unset]) rfl ?_
          show Steps _ _ _ (s₁.setTop (mkF m 9 #[iv q1, iv q2, iv q3, iv 3, iv 1, .unset, .unset, .unset, .unset] [])) _
          refine XS.iloadN X0.here hx rfl (hb hby at_9) rfl ?_
          show Steps _ _ _ (s₁.setTop (mkF m 10 #[iv q1, iv q2, iv q3, iv 3, iv 1, .unset, .unset, .unset, .unset] [(.int q3)])) _
          refine XS.iconst X0.here hx rfl (hb hby at_10) ?_
          show Steps _ _ _ (s₁.setTop (mkF m 11 #[iv q1, iv q2, iv q3, iv 3, iv 1, .unset, .unset, .unset, .unset] [(.int 1), (.int q3)])) _
          refine XS.iand X0.here hx rfl (hb hby at_11) rfl ?_
          show Steps _ _ _ (s₁.setTop (mkF m 12 #[iv q1, iv q2, iv q3, iv 3, iv 1, .unset, .unset, .unset, .unset] [(.int (q3 &&& (1 : Int32)))])) _
          rw [hs]
          show Steps _ _ _ (s₁.setTop (mkF m 12 #[iv q1, iv q2, iv q3, iv 3, iv 1, .unset, .unset, .unset, .unset] [(.int 0)])) _
          refine XS.ifYes X0.here hx rfl (pc0 := 12) (pc' := 19) rfl (hb hby at_12) rfl (by decide) (by decide) (by decide) ?_
          show Steps _ _ _ (s₁.setTop (mkF m 19 #[iv q1, iv q2, iv q3, iv 3, iv 1, .unset, .unset, .unset, .unset] [])) _
          refine XS.iconst X0.here hx rfl (hb hby at_19) ?_
          show Steps _ _ _ (s₁.setTop (mkF m 20 #[iv q1, iv q2, iv q3, iv 3, iv 1, .unset, .unset, .unset, .unset] [(.int 0)])) _
          refine XS.istore X0.here hx rfl (hb hby at_20) rfl (l' := #[iv q1, iv q2, iv q3, iv 3, iv 1, iv 0, .unset, .unset, .unset]) rfl ?_
          show Steps _ _ _ (s₁.setTop (mkF m 22 #[iv q1, iv q2, iv q3, iv 3, iv 1, iv 0, .unset, .unset, .unset] [])) _
          refine XS.iloadN X0.here hx rfl (hb hby at_22) rfl ?_
          show Steps _ _ _ (s₁.setTop (mkF m 23 #[iv q1, iv q2, iv q3, iv 3, iv 1, iv 0, .unset, .unset, .unset] [(.int 3)])) _
          refine XS.iconst X0.here hx rfl (hb hby at_23) ?_
          show Steps _ _ _ (s₁.setTop (mkF m 24 #[iv q1, iv q2, iv q3, iv 3, iv 1, iv 0, .unset, .unset, .unset] [(.int 3), (.int 3)])) _
          refine XS.icmpYes X0.here hx rfl (pc0 := 24) (pc' := 33) rfl (hb hby at_24) rfl (by decide) (by decide) (by decide) ?_
          show Steps _ _ _ (s₁.setTop (mkF m 33 #[iv q1, iv q2, iv q3, iv 3, iv 1, iv 0, .unset, .unset, .unset] [])) _
          refine XS.iconst X0.here hx rfl (hb hby at_33) ?_
          show Steps _ _ _ (s₁.setTop (mkF m 34 #[iv q1, iv q2, iv q3, iv 3, iv 1, iv 0, .unset, .unset, .unset] [(.int 0)])) _
          refine XS.istore X0.here hx rfl (hb hby at_34) rfl (l' := #[iv q1, iv q2, iv q3, iv 3, iv 1, iv 0, iv 0, .unset, .unset]) rfl ?_
          show Steps _ _ _ (s₁.setTop (mkF m 36 #[iv q1, iv q2, iv q3, iv 3, iv 1, iv 0, iv 0, .unset, .unset] [])) _
          refine XS.goto X0.here hx rfl (pc0 := 36) (pc' := 111) rfl (hb hby at_36) (by decide) (by decide) ?_
          show Steps _ _ _ (s₁.setTop (mkF m 111 #[iv q1, iv q2, iv q3, iv 3, iv 1, iv 0, iv 0, .unset, .unset] [])) _
          refine XS.iloadN X0.here hx rfl (hb hby at_111) rfl ?_
          show Steps _ _ _ (s₁.setTop (mkF m 112 #[iv q1, iv q2, iv q3, iv 3, iv 1, iv 0, iv 0, .unset, .unset] [(.int 3)])) _
          exact q
        obtain ⟨_, _, ⟨T420, L420, k420, n420⟩, -, X420, ⟨Lc420, hQ420, l420, y420, z420⟩, st420⟩ := Jvm.LawKit.callS X0 hx (y := y_2) hown (mvT hZ (hw _ (wd 0 rfl))) (mvT hZ (hw _ (wd 1 rfl))) (mvT hZ (hw _ (wd 2 rfl))) (mvT hZ (hw _ (wd 3 rfl))) (by decide) (backOf (W := 0) (kd l Z a0 hw [] a_NEXT_KEY a_GAP a_RECORD a_INSERT_INTENTION G (3 : Int32) 3 h0 n0 O0 (Or.inr (Or.inr (Or.inr ⟨by decide, rfl⟩)))) hZ (hw _ (wd 3 rfl)) (hw _ (wd 2 rfl)) (by decide) (by decide)) (g := (mkF m 112 #[iv q1, iv q2, iv q3, iv 3, iv 1, iv 0, iv 0, .unset, .unset] [(.int 3)])) rfl (by rw [hml]; rfl) (argsL := [(.int 3)]) (rest := []) (lenOf pd_1 rfl) rfl (by show 2 * 0 + _ ≤ _; exact Nat.le_of_eq rfl) (hb hby at_112) (fun _ _ => ⟨rfl, e0, (by decide : 0 + 1 ≤ _), (by decide : 0 + 4 ≤ _)⟩)
        dsimp only [Pt.U, Pt.locs, Pt.cells, Pt.slots] at X420 l420 y420 z420 st420 hQ420
        subst l420 y420 z420
        obtain ⟨rfl, N420q, K420⟩ := hQ420
        have N420 := Fr.app N0 N420q
        have O_421 := O0.keep K420 all0
        have K_422 := K0.trans K420 all0
        have k_423 : Go p.tables e below (s₁.setTop (entryFrame m #[(.int q1), (.int q2), (.int q3)] maxLocals)) (T420.setTop (mkF m 117 #[iv q1, iv q2, iv q3, iv 3, iv 1, iv 0, iv 0, .unset, .unset] [(.int 1), (.ref a_INSERT_INTENTION)])) := fun t q => by
          refine k_419 t ?_
          refine st420 _ ?_
          show Steps _ _ _ (T420.setTop (mkF m 115 #[iv q1, iv q2, iv q3, iv 3, iv 1, iv 0, iv 0, .unset, .unset] [(.ref a_INSERT_INTENTION)])) _
          refine XS.iload X420.here hx rfl (hb hby at_115) rfl ?_
          show Steps _ _ _ (T420.setTop (mkF m 117 #[iv q1, iv q2, iv q3, iv 3, iv 1, iv 0, iv 0, .unset, .unset] [(.int 1), (.ref a_INSERT_INTENTION)])) _
          exact q
        obtain ⟨_, _, ⟨T424, L424, k424, n424⟩, -, X424, ⟨Lc424, hQ424, l424, y424, z424⟩, st424⟩ := Jvm.LawKit.callS X420 hx (y := y_2) hown (mvT hZ (hw _ (wd 0 rfl))) (mvT hZ (hw _ (wd 1 rfl))) (mvT hZ (hw _ (wd 2 rfl))) (mvT hZ (hw _ (wd 3 rfl))) (by decide) (backOf (W := 1) (kd l Z a0 hw [] a_NEXT_KEY a_GAP a_RECORD a_INSERT_INTENTION G (1 : Int32) 1 T420.heap n0 O_421 (Or.inr (Or.inl ⟨by decide, rfl⟩))) hZ (hw _ (wd 3 rfl)) (hw _ (wd 2 rfl)) (by decide) (by decide)) (g := (mkF m 117 #[iv q1, iv q2, iv q3, iv 3, iv 1, iv 0, iv 0, .unset, .unset] [(.int 1), (.ref a_INSERT_INTENTION)])) rfl (by rw [hml]; rfl) (argsL := [(.int 1)]) (rest := [(.ref a_INSERT_INTENTION)]) (lenOf pd_1 rfl) rfl (by show 2 * 0 + _ ≤ _; exact Nat.le_of_eq rfl) (hb hby at_117) (fun _ _ => ⟨rfl, (rfl : T420.heap = _), (by decide : 1 + 1 ≤ _), (by decide : 4 + 4 ≤ _)⟩)
        dsimp only [Pt.U, Pt.locs, Pt.cells, Pt.slots] at X424 l424 y424 z424 st424 hQ424
        subst l424 y424 z424
        obtain ⟨rfl, N424q, K424⟩ := hQ424
        have N424 := Fr.app N420 N424q
        have O_425 := O_421.keep K424 all0
        have K_426 := K_422.trans K424 all0
        have k_427 : Go p.tables e below (s₁.setTop (entryFrame m #[(.int q1), (.int q2), (.int q3)] maxLocals)) (T424.setTop (mkF m 122 #[iv q1, iv q2, iv q3, iv 3, iv 1, iv 0, iv 0, .unset, .unset] [(.int 0), (.ref a_GAP), (.ref a_INSERT_INTENTION)])) := fun t q => by
          refine k_423 t ?_
          refine st424 _ ?_
          show Steps _ _ _ (T424.setTop (mkF m 120 #[iv q1, iv q2, iv q3, iv 3, iv 1, iv 0, iv 0, .unset, .unset] [(.ref a_GAP), (.ref a_INSERT_INTENTION)])) _
          refine XS.iload X424.here hx rfl (hb hby at_120) rfl ?_
          show Steps _ _ _ (T424.setTop (mkF m 122 #[iv q1, iv q2, iv q3, iv 3, iv 1, iv 0, iv 0, .unset, .unset] [(.int 0), (.ref a_GAP), (.ref a_INSERT_INTENTION)])) _
          exact q
        obtain ⟨cq428, kq428, q428a, q428b, q428c⟩ := isOf hZ (rfl : T424.heap = _) (Exa.ext O_425.2 E_INSERT_INTENTION)
        obtain ⟨_, _, ⟨T428, L428, k428, n428⟩, -, X428, ⟨Lc428, hQ428, l428, y428, z428⟩, st428⟩ := X424.virtualBack hx (y := y_3) (z := y_3) hown (mvT hZ (hw _ (wd 16 rfl))) (mvT hZ (hw _ (wd 17 rfl))) (notFace_of_selects (args := #[]) (mvT hZ (hw _ (wd 19 rfl)))) (mvT hZ (hw _ (wd 19 rfl))) (mvT hZ (hw _ (wd 18 rfl))) (by decide) (backOf (W := 0) (cv_3_1_0 l Z a0 hw [] a_NEXT_KEY a_GAP a_RECORD a_INSERT_INTENTION G  T424.heap n0 O_425 ) hZ (hw _ (wd 20 rfl)) (hw _ (wd 7 rfl)) (by decide) (by decide)) q428a q428c (g := (mkF m 122 #[iv q1, iv q2, iv q3, iv 3, iv 1, iv 0, iv 0, .unset, .unset] [(.int 0), (.ref a_GAP), (.ref a_INSERT_INTENTION)])) rfl (by rw [hml]; rfl) (Steps.refl _) (argsL := [(.ref a_GAP), (.int 0)]) (rest := []) (lenOf pd_2 rfl) rfl (by show 2 * 0 + _ ≤ _; exact Nat.le_of_eq rfl) (hb hby at_122) (fun _ _ => ⟨rfl, (rfl : T424.heap = _), (by decide : 2 + 0 ≤ _), (by decide : 8 + 0 ≤ _)⟩)
        dsimp only [Pt.U, Pt.locs, Pt.cells, Pt.slots] at X428 l428 y428 z428 st428 hQ428
        subst l428 y428 z428
        obtain ⟨rfl, N428q, e428⟩ := hQ428
        have N428 := Fr.app N424 N428q
        have k_429 : Go p.tables e below (s₁.setTop (entryFrame m #[(.int q1), (.int q2), (.int q3)] maxLocals)) (T428.setTop (mkF m 139 #[iv q1, iv q2, iv q3, iv 3, iv 1, iv 0, iv 0, iv 0, .unset] [(.int 1)])) := fun t q => by
          refine k_427 t ?_
          refine st428.trans ?_
          show Steps _ _ _ (T428.setTop (mkF m 125 #[iv q1, iv q2, iv q3, iv 3, iv 1, iv 0, iv 0, .unset, .unset] [(.int 0)])) _
          refine XS.istore X428.here hx rfl (hb hby at_125) rfl (l' := #[iv q1, iv q2, iv q3, iv 3, iv 1, iv 0, iv 0, iv 0, .unset]) rfl ?_
          show Steps _ _ _ (T428.setTop (mkF m 127 #[iv q1, iv q2, iv q3, iv 3, iv 1, iv 0, iv 0, iv 0, .unset] [])) _
          refine XS.iload X428.here hx rfl (hb hby at_127) rfl ?_
          show Steps _ _ _ (T428.setTop (mkF m 129 #[iv q1, iv q2, iv q3, iv 3, iv 1, iv 0, iv 0, iv 0, .unset] [(.int 0)])) _
          refine XS.iload X428.here hx rfl (hb hby at_129) rfl ?_
          show Steps _ _ _ (T428.setTop (mkF m 131 #[iv q1, iv q2, iv q3, iv 3, iv 1, iv 0, iv 0, iv 0, .unset] [(.int 0), (.int 0)])) _
          refine XS.icmpNo X428.here hx rfl (hb hby at_131) rfl (by decide) ?_
          show Steps _ _ _ (T428.setTop (mkF m 134 #[iv q1, iv q2, iv q3, iv 3, iv 1, iv 0, iv 0, iv 0, .unset] [])) _
          refine XS.iconst X428.here hx rfl (hb hby at_134) ?_
          show Steps _ _ _ (T428.setTop (mkF m 135 #[iv q1, iv q2, iv q3, iv 3, iv 1, iv 0, iv 0, iv 0, .unset] [(.int 1)])) _
          refine XS.goto X428.here hx rfl (pc0 := 135) (pc' := 139) rfl (hb hby at_135) (by decide) (by decide) ?_
          show Steps _ _ _ (T428.setTop (mkF m 139 #[iv q1, iv q2, iv q3, iv 3, iv 1, iv 0, iv 0, iv 0, .unset] [(.int 1)])) _
          exact q
        obtain ⟨fs, hr, hrun, hended, hW, hsame⟩ := X428.leave (v := some (.int 1)) (fun h => by rw [Bd.returns] at h; cases h)
        refine ⟨_, _, k_429 _ ?_, hrun, hended, _, _, rfl, ?_, ⟨_, rfl⟩, hW, hsame.mono (by decide) (by decide)⟩
        · exact retN X428 hx (t := .boolean) Bd.returns (by simp) (hb hby at_139) hr
        · show Q0 n0 _ T428.heap _
          rw [e428]
          exact ⟨rfl, N428⟩
      · skip
        have k_430 : Go p.tables e below (s₁.setTop (entryFrame m #[(.int q1), (.int q2), (.int q3)] maxLocals)) (s₁.setTop (mkF m 112 #[iv q1, iv q2, iv q3, iv 3, iv 2, iv 0, iv 0, .unset, .unset] [(.int 3)])) := fun t q => by
          refine k0 t ?_
          refine XS.iloadN X0.here hx rfl (hb hby at_0) rfl ?_
          show Steps _ _ _ (s₁.setTop (mkF m 1 #[iv q1, iv q2, iv q3, .unset, .unset, .unset, .unset, .unset, .unset] [(.int q1)])) _
          refine XS.iconst X0.here hx rfl (hb hby at_1) ?_
          show Steps _ _ _ (s₁.setTop (mkF m 2 #[iv q1, iv q2, iv q3, .unset, .unset, .unset, .unset, .unset, .unset] [(.int 3), (.int q1)])) _
          refine XS.iand X0.here hx rfl (hb hby at_2) rfl ?_
          show Steps _ _ _ (s₁.setTop (mkF m 3 #[iv q1, iv q2, iv q3, .unset, .unset, .unset, .unset, .unset, .unset] [(.int (q1 &&& (3 : Int32)))])) _
          rw [hi]
          show Steps _ _ _ (s₁.setTop (mkF m 3 #[iv q1, iv q2, iv q3, .unset, .unset, .unset, .unset, .unset, .unset] [(.int 3)])) _
          refine XS.istoreN X0.here hx rfl (hb hby at_3) rfl (l' := #[iv q1, iv q2, iv q3, iv 3, .unset, .unset, .unset, .unset, .unset]) rfl ?_
          show Steps _ _ _ (s₁.setTop (mkF m 4 #[iv q1, iv q2, iv q3, iv 3, .unset, .unset, .unset, .unset, .unset] [])) _
          refine XS.iloadN X0.here hx rfl (hb hby at_4) rfl ?_
          show Steps _ _ _ (s₁.setTop (mkF m 5 #[iv q1, iv q2, iv q3, iv 3, .unset, .unset, .unset, .unset, .unset] [(.int q2)])) _
          refine XS.iconst X0.here hx rfl (hb hby at_5) ?_
          show Steps _ _ _ (s₁.setTop (mkF m 6 #[iv q1, iv q2, iv q3, iv 3, .unset, .unset, .unset, .unset, .unset] [(.int 3), (.int q2)])) _
          refine XS.iand X0.here hx rfl (hb hby at_6) rfl ?_
          show Steps _ _ _ (s₁.setTop (mkF m 7 #[iv q1, iv q2, iv q3, iv 3, .unset, .unset, .unset, .unset, .unset] [(.int (q2 &&& (3 : Int32)))])) _
          rw [hj]
          show Steps _ _ _ (s₁.setTop (mkF m 7 #[iv q1, iv q2, iv q3, iv 3, .unset, .unset, .unset, .unset, .unset] [(.int 2)])) _
          refine XS.istore X0.here hx rfl (hb hby at_7) rfl (l' := #[iv q1, iv q2, iv q3, iv 3, iv 2, .unset, .unset, .unset, .unset]) rfl ?_
          show Steps _ _ _ (s₁.setTop (mkF m 9 #[iv q1, iv q2, iv q3, iv 3, iv 2, .unset, .unset, .unset, .unset] [])) _
          refine XS.iloadN X0.here hx rfl (hb hby at_9) rfl ?_
          show Steps _ _ _ (s₁.setTop (mkF m 10 #[iv q1, iv q2, iv q3, iv 3, iv 2, .unset, .unset, .unset, .unset] [(.int q3)])) _
          refine XS.iconst X0.here hx rfl (hb hby at_10) ?_
          show Steps _ _ _ (s₁.setTop (mkF m 11 #[iv q1, iv q2, iv q3, iv 3, iv 2, .unset, .unset, .unset, .unset] [(.int 1), (.int q3)])) _
          refine XS.iand X0.here hx rfl (hb hby at_11) rfl ?_
          show Steps _ _ _ (s₁.setTop (mkF m 12 #[iv q1, iv q2, iv q3, iv 3, iv 2, .unset, .unset, .unset, .unset] [(.int (q3 &&& (1 : Int32)))])) _
          rw [hs]
          show Steps _ _ _ (s₁.setTop (mkF m 12 #[iv q1, iv q2, iv q3, iv 3, iv 2, .unset, .unset, .unset, .unset] [(.int 0)])) _
          refine XS.ifYes X0.here hx rfl (pc0 := 12) (pc' := 19) rfl (hb hby at_12) rfl (by decide) (by decide) (by decide) ?_
          show Steps _ _ _ (s₁.setTop (mkF m 19 #[iv q1, iv q2, iv q3, iv 3, iv 2, .unset, .unset, .unset, .unset] [])) _
          refine XS.iconst X0.here hx rfl (hb hby at_19) ?_
          show Steps _ _ _ (s₁.setTop (mkF m 20 #[iv q1, iv q2, iv q3, iv 3, iv 2, .unset, .unset, .unset, .unset] [(.int 0)])) _
          refine XS.istore X0.here hx rfl (hb hby at_20) rfl (l' := #[iv q1, iv q2, iv q3, iv 3, iv 2, iv 0, .unset, .unset, .unset]) rfl ?_
          show Steps _ _ _ (s₁.setTop (mkF m 22 #[iv q1, iv q2, iv q3, iv 3, iv 2, iv 0, .unset, .unset, .unset] [])) _
          refine XS.iloadN X0.here hx rfl (hb hby at_22) rfl ?_
          show Steps _ _ _ (s₁.setTop (mkF m 23 #[iv q1, iv q2, iv q3, iv 3, iv 2, iv 0, .unset, .unset, .unset] [(.int 3)])) _
          refine XS.iconst X0.here hx rfl (hb hby at_23) ?_
          show Steps _ _ _ (s₁.setTop (mkF m 24 #[iv q1, iv q2, iv q3, iv 3, iv 2, iv 0, .unset, .unset, .unset] [(.int 3), (.int 3)])) _
          refine XS.icmpYes X0.here hx rfl (pc0 := 24) (pc' := 33) rfl (hb hby at_24) rfl (by decide) (by decide) (by decide) ?_
          show Steps _ _ _ (s₁.setTop (mkF m 33 #[iv q1, iv q2, iv q3, iv 3, iv 2, iv 0, .unset, .unset, .unset] [])) _
          refine XS.iconst X0.here hx rfl (hb hby at_33) ?_
          show Steps _ _ _ (s₁.setTop (mkF m 34 #[iv q1, iv q2, iv q3, iv 3, iv 2, iv 0, .unset, .unset, .unset] [(.int 0)])) _
          refine XS.istore X0.here hx rfl (hb hby at_34) rfl (l' := #[iv q1, iv q2, iv q3, iv 3, iv 2, iv 0, iv 0, .unset, .unset]) rfl ?_
          show Steps _ _ _ (s₁.setTop (mkF m 36 #[iv q1, iv q2, iv q3, iv 3, iv 2, iv 0, iv 0, .unset, .unset] [])) _
          refine XS.goto X0.here hx rfl (pc0 := 36) (pc' := 111) rfl (hb hby at_36) (by decide) (by decide) ?_
          show Steps _ _ _ (s₁.setTop (mkF m 111 #[iv q1, iv q2, iv q3, iv 3, iv 2, iv 0, iv 0, .unset, .unset] [])) _
          refine XS.iloadN X0.here hx rfl (hb hby at_111) rfl ?_
          show Steps _ _ _ (s₁.setTop (mkF m 112 #[iv q1, iv q2, iv q3, iv 3, iv 2, iv 0, iv 0, .unset, .unset] [(.int 3)])) _
          exact q
        obtain ⟨_, _, ⟨T431, L431, k431, n431⟩, -, X431, ⟨Lc431, hQ431, l431, y431, z431⟩, st431⟩ := Jvm.LawKit.callS X0 hx (y := y_2) hown (mvT hZ (hw _ (wd 0 rfl))) (mvT hZ (hw _ (wd 1 rfl))) (mvT hZ (hw _ (wd 2 rfl))) (mvT hZ (hw _ (wd 3 rfl))) (by decide) (backOf (W := 0) (kd l Z a0 hw [] a_NEXT_KEY a_GAP a_RECORD a_INSERT_INTENTION G (3 : Int32) 3 h0 n0 O0 (Or.inr (Or.inr (Or.inr ⟨by decide, rfl⟩)))) hZ (hw _ (wd 3 rfl)) (hw _ (wd 2 rfl)) (by decide) (by decide)) (g := (mkF m 112 #[iv q1, iv q2, iv q3, iv 3, iv 2, iv 0, iv 0, .unset, .unset] [(.int 3)])) rfl (by rw [hml]; rfl) (argsL := [(.int 3)]) (rest := []) (lenOf pd_1 rfl) rfl (by show 2 * 0 + _ ≤ _; exact Nat.le_of_eq rfl) (hb hby at_112) (fun _ _ => ⟨rfl, e0, (by decide : 0 + 1 ≤ _), (by decide : 0 + 4 ≤ _)⟩)
        dsimp only [Pt.U, Pt.locs, Pt.cells, Pt.slots] at X431 l431 y431 z431 st431 hQ431
        subst l431 y431 z431
        obtain ⟨rfl, N431q, K431⟩ := hQ431
        have N431 := Fr.app N0 N431q
        have O_432 := O0.keep K431 all0
        have K_433 := K0.trans K431 all0
        have k_434 : Go p.tables e below (s₁.setTop (entryFrame m #[(.int q1), (.int q2), (.int q3)] maxLocals)) (T431.setTop (mkF m 117 #[iv q1, iv q2, iv q3, iv 3, iv 2, iv 0, iv 0, .unset, .unset] [(.int 2), (.ref a_INSERT_INTENTION)])) := fun t q => by
          refine k_430 t ?_
          refine st431 _ ?_
          show Steps _ _ _ (T431.setTop (mkF m 115 #[iv q1, iv q2, iv q3, iv 3, iv 2, iv 0, iv 0, .unset, .unset] [(.ref a_INSERT_INTENTION)])) _
          refine XS.iload X431.here hx rfl (hb hby at_115) rfl ?_
          show Steps _ _ _ (T431.setTop (mkF m 117 #[iv q1, iv q2, iv q3, iv 3, iv 2, iv 0, iv 0, .unset, .unset] [(.int 2), (.ref a_INSERT_INTENTION)])) _
          exact q
        obtain ⟨_, _, ⟨T435, L435, k435, n435⟩, -, X435, ⟨Lc435, hQ435, l435, y435, z435⟩, st435⟩ := Jvm.LawKit.callS X431 hx (y := y_2) hown (mvT hZ (hw _ (wd 0 rfl))) (mvT hZ (hw _ (wd 1 rfl))) (mvT hZ (hw _ (wd 2 rfl))) (mvT hZ (hw _ (wd 3 rfl))) (by decide) (backOf (W := 1) (kd l Z a0 hw [] a_NEXT_KEY a_GAP a_RECORD a_INSERT_INTENTION G (2 : Int32) 2 T431.heap n0 O_432 (Or.inr (Or.inr (Or.inl ⟨by decide, rfl⟩)))) hZ (hw _ (wd 3 rfl)) (hw _ (wd 2 rfl)) (by decide) (by decide)) (g := (mkF m 117 #[iv q1, iv q2, iv q3, iv 3, iv 2, iv 0, iv 0, .unset, .unset] [(.int 2), (.ref a_INSERT_INTENTION)])) rfl (by rw [hml]; rfl) (argsL := [(.int 2)]) (rest := [(.ref a_INSERT_INTENTION)]) (lenOf pd_1 rfl) rfl (by show 2 * 0 + _ ≤ _; exact Nat.le_of_eq rfl) (hb hby at_117) (fun _ _ => ⟨rfl, (rfl : T431.heap = _), (by decide : 1 + 1 ≤ _), (by decide : 4 + 4 ≤ _)⟩)
        dsimp only [Pt.U, Pt.locs, Pt.cells, Pt.slots] at X435 l435 y435 z435 st435 hQ435
        subst l435 y435 z435
        obtain ⟨rfl, N435q, K435⟩ := hQ435
        have N435 := Fr.app N431 N435q
        have O_436 := O_432.keep K435 all0
        have K_437 := K_433.trans K435 all0
        have k_438 : Go p.tables e below (s₁.setTop (entryFrame m #[(.int q1), (.int q2), (.int q3)] maxLocals)) (T435.setTop (mkF m 122 #[iv q1, iv q2, iv q3, iv 3, iv 2, iv 0, iv 0, .unset, .unset] [(.int 0), (.ref a_RECORD), (.ref a_INSERT_INTENTION)])) := fun t q => by
          refine k_434 t ?_
          refine st435 _ ?_
          show Steps _ _ _ (T435.setTop (mkF m 120 #[iv q1, iv q2, iv q3, iv 3, iv 2, iv 0, iv 0, .unset, .unset] [(.ref a_RECORD), (.ref a_INSERT_INTENTION)])) _
          refine XS.iload X435.here hx rfl (hb hby at_120) rfl ?_
          show Steps _ _ _ (T435.setTop (mkF m 122 #[iv q1, iv q2, iv q3, iv 3, iv 2, iv 0, iv 0, .unset, .unset] [(.int 0), (.ref a_RECORD), (.ref a_INSERT_INTENTION)])) _
          exact q
        obtain ⟨cq439, kq439, q439a, q439b, q439c⟩ := isOf hZ (rfl : T435.heap = _) (Exa.ext O_436.2 E_INSERT_INTENTION)
        obtain ⟨_, _, ⟨T439, L439, k439, n439⟩, -, X439, ⟨Lc439, hQ439, l439, y439, z439⟩, st439⟩ := X435.virtualBack hx (y := y_3) (z := y_3) hown (mvT hZ (hw _ (wd 16 rfl))) (mvT hZ (hw _ (wd 17 rfl))) (notFace_of_selects (args := #[]) (mvT hZ (hw _ (wd 19 rfl)))) (mvT hZ (hw _ (wd 19 rfl))) (mvT hZ (hw _ (wd 18 rfl))) (by decide) (backOf (W := 0) (cv_3_2_0 l Z a0 hw [] a_NEXT_KEY a_GAP a_RECORD a_INSERT_INTENTION G  T435.heap n0 O_436 ) hZ (hw _ (wd 20 rfl)) (hw _ (wd 7 rfl)) (by decide) (by decide)) q439a q439c (g := (mkF m 122 #[iv q1, iv q2, iv q3, iv 3, iv 2, iv 0, iv 0, .unset, .unset] [(.int 0), (.ref a_RECORD), (.ref a_INSERT_INTENTION)])) rfl (by rw [hml]; rfl) (Steps.refl _) (argsL := [(.ref a_RECORD), (.int 0)]) (rest := []) (lenOf pd_2 rfl) rfl (by show 2 * 0 + _ ≤ _; exact Nat.le_of_eq rfl) (hb hby at_122) (fun _ _ => ⟨rfl, (rfl : T435.heap = _), (by decide : 2 + 0 ≤ _), (by decide : 8 + 0 ≤ _)⟩)
        dsimp only [Pt.U, Pt.locs, Pt.cells, Pt.slots] at X439 l439 y439 z439 st439 hQ439
        subst l439 y439 z439
        obtain ⟨rfl, N439q, e439⟩ := hQ439
        have N439 := Fr.app N435 N439q
        have k_440 : Go p.tables e below (s₁.setTop (entryFrame m #[(.int q1), (.int q2), (.int q3)] maxLocals)) (T439.setTop (mkF m 139 #[iv q1, iv q2, iv q3, iv 3, iv 2, iv 0, iv 0, iv 0, .unset] [(.int 1)])) := fun t q => by
          refine k_438 t ?_
          refine st439.trans ?_
          show Steps _ _ _ (T439.setTop (mkF m 125 #[iv q1, iv q2, iv q3, iv 3, iv 2, iv 0, iv 0, .unset, .unset] [(.int 0)])) _
          refine XS.istore X439.here hx rfl (hb hby at_125) rfl (l' := #[iv q1, iv q2, iv q3, iv 3, iv 2, iv 0, iv 0, iv 0, .unset]) rfl ?_
          show Steps _ _ _ (T439.setTop (mkF m 127 #[iv q1, iv q2, iv q3, iv 3, iv 2, iv 0, iv 0, iv 0, .unset] [])) _
          refine XS.iload X439.here hx rfl (hb hby at_127) rfl ?_
          show Steps _ _ _ (T439.setTop (mkF m 129 #[iv q1, iv q2, iv q3, iv 3, iv 2, iv 0, iv 0, iv 0, .unset] [(.int 0)])) _
          refine XS.iload X439.here hx rfl (hb hby at_129) rfl ?_
          show Steps _ _ _ (T439.setTop (mkF m 131 #[iv q1, iv q2, iv q3, iv 3, iv 2, iv 0, iv 0, iv 0, .unset] [(.int 0), (.int 0)])) _
          refine XS.icmpNo X439.here hx rfl (hb hby at_131) rfl (by decide) ?_
          show Steps _ _ _ (T439.setTop (mkF m 134 #[iv q1, iv q2, iv q3, iv 3, iv 2, iv 0, iv 0, iv 0, .unset] [])) _
          refine XS.iconst X439.here hx rfl (hb hby at_134) ?_
          show Steps _ _ _ (T439.setTop (mkF m 135 #[iv q1, iv q2, iv q3, iv 3, iv 2, iv 0, iv 0, iv 0, .unset] [(.int 1)])) _
          refine XS.goto X439.here hx rfl (pc0 := 135) (pc' := 139) rfl (hb hby at_135) (by decide) (by decide) ?_
          show Steps _ _ _ (T439.setTop (mkF m 139 #[iv q1, iv q2, iv q3, iv 3, iv 2, iv 0, iv 0, iv 0, .unset] [(.int 1)])) _
          exact q
        obtain ⟨fs, hr, hrun, hended, hW, hsame⟩ := X439.leave (v := some (.int 1)) (fun h => by rw [Bd.returns] at h; cases h)
        refine ⟨_, _, k_440 _ ?_, hrun, hended, _, _, rfl, ?_, ⟨_, rfl⟩, hW, hsame.mono (by decide) (by decide)⟩
        · exact retN X439 hx (t := .boolean) Bd.returns (by simp) (hb hby at_139) hr
        · show Q0 n0 _ T439.heap _
          rw [e439]
          exact ⟨rfl, N439⟩
      · skip
        have k_441 : Go p.tables e below (s₁.setTop (entryFrame m #[(.int q1), (.int q2), (.int q3)] maxLocals)) (s₁.setTop (mkF m 112 #[iv q1, iv q2, iv q3, iv 3, iv 3, iv 0, iv 0, .unset, .unset] [(.int 3)])) := fun t q => by
          refine k0 t ?_
          refine XS.iloadN X0.here hx rfl (hb hby at_0) rfl ?_
          show Steps _ _ _ (s₁.setTop (mkF m 1 #[iv q1, iv q2, iv q3, .unset, .unset, .unset, .unset, .unset, .unset] [(.int q1)])) _
          refine XS.iconst X0.here hx rfl (hb hby at_1) ?_
          show Steps _ _ _ (s₁.setTop (mkF m 2 #[iv q1, iv q2, iv q3, .unset, .unset, .unset, .unset, .unset, .unset] [(.int 3), (.int q1)])) _
          refine XS.iand X0.here hx rfl (hb hby at_2) rfl ?_
          show Steps _ _ _ (s₁.setTop (mkF m 3 #[iv q1, iv q2, iv q3, .unset, .unset, .unset, .unset, .unset, .unset] [(.int (q1 &&& (3 : Int32)))])) _
          rw [hi]
          show Steps _ _ _ (s₁.setTop (mkF m 3 #[iv q1, iv q2, iv q3, .unset, .unset, .unset, .unset, .unset, .unset] [(.int 3)])) _
          refine XS.istoreN X0.here hx rfl (hb hby at_3) rfl (l' := #[iv q1, iv q2, iv q3, iv 3, .unset, .unset, .unset, .unset, .unset]) rfl ?_
          show Steps _ _ _ (s₁.setTop (mkF m 4 #[iv q1, iv q2, iv q3, iv 3, .unset, .unset, .unset, .unset, .unset] [])) _
          refine XS.iloadN X0.here hx rfl (hb hby at_4) rfl ?_
          show Steps _ _ _ (s₁.setTop (mkF m 5 #[iv q1, iv q2, iv q3, iv 3, .unset, .unset, .unset, .unset, .unset] [(.int q2)])) _
          refine XS.iconst X0.here hx rfl (hb hby at_5) ?_
          show Steps _ _ _ (s₁.setTop (mkF m 6 #[iv q1, iv q2, iv q3, iv 3, .unset, .unset, .unset, .unset, .unset] [(.int 3), (.int q2)])) _
          refine XS.iand X0.here hx rfl (hb hby at_6) rfl ?_
          show Steps _ _ _ (s₁.setTop (mkF m 7 #[iv q1, iv q2, iv q3, iv 3, .unset, .unset, .unset, .unset, .unset] [(.int (q2 &&& (3 : Int32)))])) _
          rw [hj]
          show Steps _ _ _ (s₁.setTop (mkF m 7 #[iv q1, iv q2, iv q3, iv 3, .unset, .unset, .unset, .unset, .unset] [(.int 3)])) _
          refine XS.istore X0.here hx rfl (hb hby at_7) rfl (l' := #[iv q1, iv q2, iv q3, iv 3, iv 3, .unset, .unset, .unset, .unset]) rfl ?_
          show Steps _ _ _ (s₁.setTop (mkF m 9 #[iv q1, iv q2, iv q3, iv 3, iv 3, .unset, .unset, .unset, .unset] [])) _
          refine XS.iloadN X0.here hx rfl (hb hby at_9) rfl ?_
          show Steps _ _ _ (s₁.setTop (mkF m 10 #[iv q1, iv q2, iv q3, iv 3, iv 3, .unset, .unset, .unset, .unset] [(.int q3)])) _
          refine XS.iconst X0.here hx rfl (hb hby at_10) ?_
          show Steps _ _ _ (s₁.setTop (mkF m 11 #[iv q1, iv q2, iv q3, iv 3, iv 3, .unset, .unset, .unset, .unset] [(.int 1), (.int q3)])) _
          refine XS.iand X0.here hx rfl (hb hby at_11) rfl ?_
          show Steps _ _ _ (s₁.setTop (mkF m 12 #[iv q1, iv q2, iv q3, iv 3, iv 3, .unset, .unset, .unset, .unset] [(.int (q3 &&& (1 : Int32)))])) _
          rw [hs]
          show Steps _ _ _ (s₁.setTop (mkF m 12 #[iv q1, iv q2, iv q3, iv 3, iv 3, .unset, .unset, .unset, .unset] [(.int 0)])) _
          refine XS.ifYes X0.here hx rfl (pc0 := 12) (pc' := 19) rfl (hb hby at_12) rfl (by decide) (by decide) (by decide) ?_
          show Steps _ _ _ (s₁.setTop (mkF m 19 #[iv q1, iv q2, iv q3, iv 3, iv 3, .unset, .unset, .unset, .unset] [])) _
          refine XS.iconst X0.here hx rfl (hb hby at_19) ?_
          show Steps _ _ _ (s₁.setTop (mkF m 20 #[iv q1, iv q2, iv q3, iv 3, iv 3, .unset, .unset, .unset, .unset] [(.int 0)])) _
          refine XS.istore X0.here hx rfl (hb hby at_20) rfl (l' := #[iv q1, iv q2, iv q3, iv 3, iv 3, iv 0, .unset, .unset, .unset]) rfl ?_
          show Steps _ _ _ (s₁.setTop (mkF m 22 #[iv q1, iv q2, iv q3, iv 3, iv 3, iv 0, .unset, .unset, .unset] [])) _
          refine XS.iloadN X0.here hx rfl (hb hby at_22) rfl ?_
          show Steps _ _ _ (s₁.setTop (mkF m 23 #[iv q1, iv q2, iv q3, iv 3, iv 3, iv 0, .unset, .unset, .unset] [(.int 3)])) _
          refine XS.iconst X0.here hx rfl (hb hby at_23) ?_
          show Steps _ _ _ (s₁.setTop (mkF m 24 #[iv q1, iv q2, iv q3, iv 3, iv 3, iv 0, .unset, .unset, .unset] [(.int 3), (.int 3)])) _
          refine XS.icmpYes X0.here hx rfl (pc0 := 24) (pc' := 33) rfl (hb hby at_24) rfl (by decide) (by decide) (by decide) ?_
          show Steps _ _ _ (s₁.setTop (mkF m 33 #[iv q1, iv q2, iv q3, iv 3, iv 3, iv 0, .unset, .unset, .unset] [])) _
          refine XS.iconst X0.here hx rfl (hb hby at_33) ?_
          show Steps _ _ _ (s₁.setTop (mkF m 34 #[iv q1, iv q2, iv q3, iv 3, iv 3, iv 0, .unset, .unset, .unset] [(.int 0)])) _
          refine XS.istore X0.here hx rfl (hb hby at_34) rfl (l' := #[iv q1, iv q2, iv q3, iv 3, iv 3, iv 0, iv 0, .unset, .unset]) rfl ?_
          show Steps _ _ _ (s₁.setTop (mkF m 36 #[iv q1, iv q2, iv q3, iv 3, iv 3, iv 0, iv 0, .unset, .unset] [])) _
          refine XS.goto X0.here hx rfl (pc0 := 36) (pc' := 111) rfl (hb hby at_36) (by decide) (by decide) ?_
          show Steps _ _ _ (s₁.setTop (mkF m 111 #[iv q1, iv q2, iv q3, iv 3, iv 3, iv 0, iv 0, .unset, .unset] [])) _
          refine XS.iloadN X0.here hx rfl (hb hby at_111) rfl ?_
          show Steps _ _ _ (s₁.setTop (mkF m 112 #[iv q1, iv q2, iv q3, iv 3, iv 3, iv 0, iv 0, .unset, .unset] [(.int 3)])) _
          exact q
        obtain ⟨_, _, ⟨T442, L442, k442, n442⟩, -, X442, ⟨Lc442, hQ442, l442, y442, z442⟩, st442⟩ := Jvm.LawKit.callS X0 hx (y := y_2) hown (mvT hZ (hw _ (wd 0 rfl))) (mvT hZ (hw _ (wd 1 rfl))) (mvT hZ (hw _ (wd 2 rfl))) (mvT hZ (hw _ (wd 3 rfl))) (by decide) (backOf (W := 0) (kd l Z a0 hw [] a_NEXT_KEY a_GAP a_RECORD a_INSERT_INTENTION G (3 : Int32) 3 h0 n0 O0 (Or.inr (Or.inr (Or.inr ⟨by decide, rfl⟩)))) hZ (hw _ (wd 3 rfl)) (hw _ (wd 2 rfl)) (by decide) (by decide)) (g := (mkF m 112 #[iv q1, iv q2, iv q3, iv 3, iv 3, iv 0, iv 0, .unset, .unset] [(.int 3)])) rfl (by rw [hml]; rfl) (argsL := [(.int 3)]) (rest := []) (lenOf pd_1 rfl) rfl (by show 2 * 0 + _ ≤ _; exact Nat.le_of_eq rfl) (hb hby at_112) (fun _ _ => ⟨rfl, e0, (by decide : 0 + 1 ≤ _), (by decide : 0 + 4 ≤ _)⟩)
        dsimp only [Pt.U, Pt.locs, Pt.cells, Pt.slots] at X442 l442 y442 z442 st442 hQ442
        subst l442 y442 z442
        obtain ⟨rfl, N442q, K442⟩ := hQ442
        have N442 := Fr.app N0 N442q
        have O_443 := O0.keep K442 all0
        have K_444 := K0.trans K442 all0
        have k_445 : Go p.tables e below (s₁.setTop (entryFrame m #[(.int q1), (.int q2), (.int q3)] maxLocals)) (T442.setTop (mkF m 117 #[iv q1, iv q2, iv q3, iv 3, iv 3, iv 0, iv 0, .unset, .unset] [(.int 3), (.ref a_INSERT_INTENTION)])) := fun t q => by
          refine k_441 t ?_
          refine st442 _ ?_
          show Steps _ _ _ (T442.setTop (mkF m 115 #[iv q1, iv q2, iv q3, iv 3, iv 3, iv 0, iv 0, .unset, .unset] [(.ref a_INSERT_INTENTION)])) _
          refine XS.iload X442.here hx rfl (hb hby at_115) rfl ?_
          show Steps _ _ _ (T442.setTop (mkF m 117 #[iv q1, iv q2, iv q3, iv 3, iv 3, iv 0, iv 0, .unset, .unset] [(.int 3), (.ref a_INSERT_INTENTION)])) _
          exact q
        obtain ⟨_, _, ⟨T446, L446, k446, n446⟩, -, X446, ⟨Lc446, hQ446, l446, y446, z446⟩, st446⟩ := Jvm.LawKit.callS X442 hx (y := y_2) hown (mvT hZ (hw _ (wd 0 rfl))) (mvT hZ (hw _ (wd 1 rfl))) (mvT hZ (hw _ (wd 2 rfl))) (mvT hZ (hw _ (wd 3 rfl))) (by decide) (backOf (W := 1) (kd l Z a0 hw [] a_NEXT_KEY a_GAP a_RECORD a_INSERT_INTENTION G (3 : Int32) 3 T442.heap n0 O_443 (Or.inr (Or.inr (Or.inr ⟨by decide, rfl⟩)))) hZ (hw _ (wd 3 rfl)) (hw _ (wd 2 rfl)) (by decide) (by decide)) (g := (mkF m 117 #[iv q1, iv q2, iv q3, iv 3, iv 3, iv 0, iv 0, .unset, .unset] [(.int 3), (.ref a_INSERT_INTENTION)])) rfl (by rw [hml]; rfl) (argsL := [(.int 3)]) (rest := [(.ref a_INSERT_INTENTION)]) (lenOf pd_1 rfl) rfl (by show 2 * 0 + _ ≤ _; exact Nat.le_of_eq rfl) (hb hby at_117) (fun _ _ => ⟨rfl, (rfl : T442.heap = _), (by decide : 1 + 1 ≤ _), (by decide : 4 + 4 ≤ _)⟩)
        dsimp only [Pt.U, Pt.locs, Pt.cells, Pt.slots] at X446 l446 y446 z446 st446 hQ446
        subst l446 y446 z446
        obtain ⟨rfl, N446q, K446⟩ := hQ446
        have N446 := Fr.app N442 N446q
        have O_447 := O_443.keep K446 all0
        have K_448 := K_444.trans K446 all0
        have k_449 : Go p.tables e below (s₁.setTop (entryFrame m #[(.int q1), (.int q2), (.int q3)] maxLocals)) (T446.setTop (mkF m 122 #[iv q1, iv q2, iv q3, iv 3, iv 3, iv 0, iv 0, .unset, .unset] [(.int 0), (.ref a_INSERT_INTENTION), (.ref a_INSERT_INTENTION)])) := fun t q => by
          refine k_445 t ?_
          refine st446 _ ?_
          show Steps _ _ _ (T446.setTop (mkF m 120 #[iv q1, iv q2, iv q3, iv 3, iv 3, iv 0, iv 0, .unset, .unset] [(.ref a_INSERT_INTENTION), (.ref a_INSERT_INTENTION)])) _
          refine XS.iload X446.here hx rfl (hb hby at_120) rfl ?_
          show Steps _ _ _ (T446.setTop (mkF m 122 #[iv q1, iv q2, iv q3, iv 3, iv 3, iv 0, iv 0, .unset, .unset] [(.int 0), (.ref a_INSERT_INTENTION), (.ref a_INSERT_INTENTION)])) _
          exact q
        obtain ⟨cq450, kq450, q450a, q450b, q450c⟩ := isOf hZ (rfl : T446.heap = _) (Exa.ext O_447.2 E_INSERT_INTENTION)
        obtain ⟨_, _, ⟨T450, L450, k450, n450⟩, -, X450, ⟨Lc450, hQ450, l450, y450, z450⟩, st450⟩ := X446.virtualBack hx (y := y_3) (z := y_3) hown (mvT hZ (hw _ (wd 16 rfl))) (mvT hZ (hw _ (wd 17 rfl))) (notFace_of_selects (args := #[]) (mvT hZ (hw _ (wd 19 rfl)))) (mvT hZ (hw _ (wd 19 rfl))) (mvT hZ (hw _ (wd 18 rfl))) (by decide) (backOf (W := 0) (cv_3_3_0 l Z a0 hw [] a_NEXT_KEY a_GAP a_RECORD a_INSERT_INTENTION G  T446.heap n0 O_447 ) hZ (hw _ (wd 20 rfl)) (hw _ (wd 7 rfl)) (by decide) (by decide)) q450a q450c (g := (mkF m 122 #[iv q1, iv q2, iv q3, iv 3, iv 3, iv 0, iv 0, .unset, .unset] [(.int 0), (.ref a_INSERT_INTENTION), (.ref a_INSERT_INTENTION)])) rfl (by rw [hml]; rfl) (Steps.refl _) (argsL := [(.ref a_INSERT_INTENTION), (.int 0)]) (rest := []) (lenOf pd_2 rfl) rfl (by show 2 * 0 + _ ≤ _; exact Nat.le_of_eq rfl) (hb hby at_122) (fun _ _ => ⟨rfl, (rfl : T446.heap = _), (by decide : 2 + 0 ≤ _), (by decide : 8 + 0 ≤ _)⟩)
        dsimp only [Pt.U, Pt.locs, Pt.cells, Pt.slots] at X450 l450 y450 z450 st450 hQ450
        subst l450 y450 z450
        obtain ⟨rfl, N450q, e450⟩ := hQ450
        have N450 := Fr.app N446 N450q
        have k_451 : Go p.tables e below (s₁.setTop (entryFrame m #[(.int q1), (.int q2), (.int q3)] maxLocals)) (T450.setTop (mkF m 139 #[iv q1, iv q2, iv q3, iv 3, iv 3, iv 0, iv 0, iv 0, .unset] [(.int 1)])) := fun t q => by
          refine k_449 t ?_
          refine st450.trans ?_
          show Steps _ _ _ (T450.setTop (mkF m 125 #[iv q1, iv q2, iv q3, iv 3, iv 3, iv 0, iv 0, .unset, .unset] [(.int 0)])) _
          refine XS.istore X450.here hx rfl (hb hby at_125) rfl (l' := #[iv q1, iv q2, iv q3, iv 3, iv 3, iv 0, iv 0, iv 0, .unset]) rfl ?_
          show Steps _ _ _ (T450.setTop (mkF m 127 #[iv q1, iv q2, iv q3, iv 3, iv 3, iv 0, iv 0, iv 0, .unset] [])) _
          refine XS.iload X450.here hx rfl (hb hby at_127) rfl ?_
          show Steps _ _ _ (T450.setTop (mkF m 129 #[iv q1, iv q2, iv q3, iv 3, iv 3, iv 0, iv 0, iv 0, .unset] [(.int 0)])) _
          refine XS.iload X450.here hx rfl (hb hby at_129) rfl ?_
          show Steps _ _ _ (T450.setTop (mkF m 131 #[iv q1, iv q2, iv q3, iv 3, iv 3, iv 0, iv 0, iv 0, .unset] [(.int 0), (.int 0)])) _
          refine XS.icmpNo X450.here hx rfl (hb hby at_131) rfl (by decide) ?_
          show Steps _ _ _ (T450.setTop (mkF m 134 #[iv q1, iv q2, iv q3, iv 3, iv 3, iv 0, iv 0, iv 0, .unset] [])) _
          refine XS.iconst X450.here hx rfl (hb hby at_134) ?_
          show Steps _ _ _ (T450.setTop (mkF m 135 #[iv q1, iv q2, iv q3, iv 3, iv 3, iv 0, iv 0, iv 0, .unset] [(.int 1)])) _
          refine XS.goto X450.here hx rfl (pc0 := 135) (pc' := 139) rfl (hb hby at_135) (by decide) (by decide) ?_
          show Steps _ _ _ (T450.setTop (mkF m 139 #[iv q1, iv q2, iv q3, iv 3, iv 3, iv 0, iv 0, iv 0, .unset] [(.int 1)])) _
          exact q
        obtain ⟨fs, hr, hrun, hended, hW, hsame⟩ := X450.leave (v := some (.int 1)) (fun h => by rw [Bd.returns] at h; cases h)
        refine ⟨_, _, k_451 _ ?_, hrun, hended, _, _, rfl, ?_, ⟨_, rfl⟩, hW, hsame.mono (by decide) (by decide)⟩
        · exact retN X450 hx (t := .boolean) Bd.returns (by simp) (hb hby at_139) hr
        · show Q0 n0 _ T450.heap _
          rw [e450]
          exact ⟨rfl, N450⟩
  · skip
    rcases own_mask_4 q1 with hi | hi | hi | hi
    · skip
      rcases own_mask_4 q2 with hj | hj | hj | hj
      · skip
        have k_452 : Go p.tables e below (s₁.setTop (entryFrame m #[(.int q1), (.int q2), (.int q3)] maxLocals)) (s₁.setTop (mkF m 112 #[iv q1, iv q2, iv q3, iv 0, iv 0, iv 1, iv 1, .unset, .unset] [(.int 0)])) := fun t q => by
          refine k0 t ?_
          refine XS.iloadN X0.here hx rfl (hb hby at_0) rfl ?_
          show Steps _ _ _ (s₁.setTop (mkF m 1 #[iv q1, iv q2, iv q3, .unset, .unset, .unset, .unset, .unset, .unset] [(.int q1)])) _
          refine XS.iconst X0.here hx rfl (hb hby at_1) ?_
          show Steps _ _ _ (s₁.setTop (mkF m 2 #[iv q1, iv q2, iv q3, .unset, .unset, .unset, .unset, .unset, .unset] [(.int 3), (.int q1)])) _
          refine XS.iand X0.here hx rfl (hb hby at_2) rfl ?_
          show Steps _ _ _ (s₁.setTop (mkF m 3 #[iv q1, iv q2, iv q3, .unset, .unset, .unset, .unset, .unset, .unset] [(.int (q1 &&& (3 : Int32)))])) _
          rw [hi]
          show Steps _ _ _ (s₁.setTop (mkF m 3 #[iv q1, iv q2, iv q3, .unset, .unset, .unset, .unset, .unset, .unset] [(.int 0)])) _
          refine XS.istoreN X0.here hx rfl (hb hby at_3) rfl (l' := #[iv q1, iv q2, iv q3, iv 0, .unset, .unset, .unset, .unset, .unset]) rfl ?_
          show Steps _ _ _ (s₁.setTop (mkF m 4 #[iv q1, iv q2, iv q3, iv 0, .unset, .unset, .unset, .unset, .unset] [])) _
          refine XS.iloadN X0.here hx rfl (hb hby at_4) rfl ?_
          show Steps _ _ _ (s₁.setTop (mkF m 5 #[iv q1, iv q2, iv q3, iv 0, .unset, .unset, .unset, .unset, .unset] [(.int q2)])) _
          refine XS.iconst X0.here hx rfl (hb hby at_5) ?_
          show Steps _ _ _ (s₁.setTop (mkF m 6 #[iv q1, iv q2, iv q3, iv 0, .unset, .unset, .unset, .unset, .unset] [(.int 3), (.int q2)])) _
          refine XS.iand X0.here hx rfl (hb hby at_6) rfl ?_
          show Steps _ _ _ (s₁.setTop (mkF m 7 #[iv q1, iv q2, iv q3, iv 0, .unset, .unset, .unset, .unset, .unset] [(.int (q2 &&& (3 : Int32)))])) _
          rw [hj]
          show Steps _ _ _ (s₁.setTop (mkF m 7 #[iv q1, iv q2, iv q3, iv 0, .unset, .unset, .unset, .unset, .unset] [(.int 0)])) _
          refine XS.istore X0.here hx rfl (hb hby at_7) rfl (l' := #[iv q1, iv q2, iv q3, iv 0, iv 0, .unset, .unset, .unset, .unset]) rfl ?_
          show Steps _ _ _ (s₁.setTop (mkF m 9 #[iv q1, iv q2, iv q3, iv 0, iv 0, .unset, .unset, .unset, .unset] [])) _
          refine XS.iloadN X0.here hx rfl (hb hby at_9) rfl ?_
          show Steps _ _ _ (s₁.setTop (mkF m 10 #[iv q1, iv q2, iv q3, iv 0, iv 0, .unset, .unset, .unset, .unset] [(.int q3)])) _
          refine XS.iconst X0.here hx rfl (hb hby at_10) ?_
          show Steps _ _ _ (s₁.setTop (mkF m 11 #[iv q1, iv q2, iv q3, iv 0, iv 0, .unset, .unset, .unset, .unset] [(.int 1), (.int q3)])) _
          refine XS.iand X0.here hx rfl (hb hby at_11) rfl ?_
          show Steps _ _ _ (s₁.setTop (mkF m 12 #[iv q1, iv q2, iv q3, iv 0, iv 0, .unset, .unset, .unset, .unset] [(.int (q3 &&& (1 : Int32)))])) _
          rw [hs]
          show Steps _ _ _ (s₁.setTop (mkF m 12 #[iv q1, iv q2, iv q3, iv 0, iv 0, .unset, .unset, .unset, .unset] [(.int 1)])) _
          refine XS.ifNo X0.here hx rfl (hb hby at_12) rfl (by decide) ?_
          show Steps _ _ _ (s₁.setTop (mkF m 15 #[iv q1, iv q2, iv q3, iv 0, iv 0, .unset, .unset, .unset, .unset] [])) _
          refine XS.iconst X0.here hx rfl (hb hby at_15) ?_
          show Steps _ _ _ (s₁.setTop (mkF m 16 #[iv q1, iv q2, iv q3, iv 0, iv 0, .unset, .unset, .unset, .unset] [(.int 1)])) _
          refine XS.goto X0.here hx rfl (pc0 := 16) (pc' := 20) rfl (hb hby at_16) (by decide) (by decide) ?_
          show Steps _ _ _ (s₁.setTop (mkF m 20 #[iv q1, iv q2, iv q3, iv 0, iv 0, .unset, .unset, .unset, .unset] [(.int 1)])) _
          refine XS.istore X0.here hx rfl (hb hby at_20) rfl (l' := #[iv q1, iv q2, iv q3, iv 0, iv 0, iv 1, .unset, .unset, .unset]) rfl ?_
          show Steps _ _ _ (s₁.setTop (mkF m 22 #[iv q1, iv q2, iv q3, iv 0, iv 0, iv 1, .unset, .unset, .unset] [])) _
          refine XS.iloadN X0.here hx rfl (hb hby at_22) rfl ?_
          show Steps _ _ _ (s₁.setTop (mkF m 23 #[iv q1, iv q2, iv q3, iv 0, iv 0, iv 1, .unset, .unset, .unset] [(.int 0)])) _
          refine XS.iconst X0.here hx rfl (hb hby at_23) ?_
          show Steps _ _ _ (s₁.setTop (mkF m 24 #[iv q1, iv q2, iv q3, iv 0, iv 0, iv 1, .unset, .unset, .unset] [(.int 3), (.int 0)])) _
          refine XS.icmpNo X0.here hx rfl (hb hby at_24) rfl (by decide) ?_
          show Steps _ _ _ (s₁.setTop (mkF m 27 #[iv q1, iv q2, iv q3, iv 0, iv 0, iv 1, .unset, .unset, .unset] [])) _
          refine XS.iload X0.here hx rfl (hb hby at_27) rfl ?_
          show Steps _ _ _ (s₁.setTop (mkF m 29 #[iv q1, iv q2, iv q3, iv 0, iv 0, iv 1, .unset, .unset, .unset] [(.int 0)])) _
          refine XS.iconst X0.here hx rfl (hb hby at_29) ?_
          show Steps _ _ _ (s₁.setTop (mkF m 30 #[iv q1, iv q2, iv q3, iv 0, iv 0, iv 1, .unset, .unset, .unset] [(.int 3), (.int 0)])) _
          refine XS.icmpYes X0.here hx rfl (pc0 := 30) (pc' := 39) rfl (hb hby at_30) rfl (by decide) (by decide) (by decide) ?_
          show Steps _ _ _ (s₁.setTop (mkF m 39 #[iv q1, iv q2, iv q3, iv 0, iv 0, iv 1, .unset, .unset, .unset] [])) _
          refine XS.iload X0.here hx rfl (hb hby at_39) rfl ?_
          show Steps _ _ _ (s₁.setTop (mkF m 41 #[iv q1, iv q2, iv q3, iv 0, iv 0, iv 1, .unset, .unset, .unset] [(.int 1)])) _
          refine XS.ifNo X0.here hx rfl (hb hby at_41) rfl (by decide) ?_
          show Steps _ _ _ (s₁.setTop (mkF m 44 #[iv q1, iv q2, iv q3, iv 0, iv 0, iv 1, .unset, .unset, .unset] [])) _
          refine XS.iconst X0.here hx rfl (hb hby at_44) ?_
          show Steps _ _ _ (s₁.setTop (mkF m 45 #[iv q1, iv q2, iv q3, iv 0, iv 0, iv 1, .unset, .unset, .unset] [(.int 1)])) _
          refine XS.istore X0.here hx rfl (hb hby at_45) rfl (l' := #[iv q1, iv q2, iv q3, iv 0, iv 0, iv 1, iv 1, .unset, .unset]) rfl ?_
          show Steps _ _ _ (s₁.setTop (mkF m 47 #[iv q1, iv q2, iv q3, iv 0, iv 0, iv 1, iv 1, .unset, .unset] [])) _
          refine XS.goto X0.here hx rfl (pc0 := 47) (pc' := 111) rfl (hb hby at_47) (by decide) (by decide) ?_
          show Steps _ _ _ (s₁.setTop (mkF m 111 #[iv q1, iv q2, iv q3, iv 0, iv 0, iv 1, iv 1, .unset, .unset] [])) _
          refine XS.iloadN X0.here hx rfl (hb hby at_111) rfl ?_
          show Steps _ _ _ (s₁.setTop (mkF m 112 #[iv q1, iv q2, iv q3, iv 0, iv 0, iv 1, iv 1, .unset, .unset] [(.int 0)])) _
          exact q
        obtain ⟨_, _, ⟨T453, L453, k453, n453⟩, -, X453, ⟨Lc453, hQ453, l453, y453, z453⟩, st453⟩ := Jvm.LawKit.callS X0 hx (y := y_2) hown (mvT hZ (hw _ (wd 0 rfl))) (mvT hZ (hw _ (wd 1 rfl))) (mvT hZ (hw _ (wd 2 rfl))) (mvT hZ (hw _ (wd 3 rfl))) (by decide) (backOf (W := 0) (kd l Z a0 hw [] a_NEXT_KEY a_GAP a_RECORD a_INSERT_INTENTION G (0 : Int32) 0 h0 n0 O0 (Or.inl ⟨by decide, rfl⟩)) hZ (hw _ (wd 3 rfl)) (hw _ (wd 2 rfl)) (by decide) (by decide)) (g := (mkF m 112 #[iv q1, iv q2, iv q3, iv 0, iv 0, iv 1, iv 1, .unset, .unset] [(.int 0)])) rfl (by rw [hml]; rfl) (argsL := [(.int 0)]) (rest := []) (lenOf pd_1 rfl) rfl (by show 2 * 0 + _ ≤ _; exact Nat.le_of_eq rfl) (hb hby at_112) (fun _ _ => ⟨rfl, e0, (by decide : 0 + 1 ≤ _), (by decide : 0 + 4 ≤ _)⟩)
        dsimp only [Pt.U, Pt.locs, Pt.cells, Pt.slots] at X453 l453 y453 z453 st453 hQ453
        subst l453 y453 z453
        obtain ⟨rfl, N453q, K453⟩ := hQ453
        have N453 := Fr.app N0 N453q
        have O_454 := O0.keep K453 all0
        have K_455 := K0.trans K453 all0
        have k_456 : Go p.tables e below (s₁.setTop (entryFrame m #[(.int q1), (.int q2), (.int q3)] maxLocals)) (T453.setTop (mkF m 117 #[iv q1, iv q2, iv q3, iv 0, iv 0, iv 1, iv 1, .unset, .unset] [(.int 0), (.ref a_NEXT_KEY)])) := fun t q => by
          refine k_452 t ?_
          refine st453 _ ?_
          show Steps _ _ _ (T453.setTop (mkF m 115 #[iv q1, iv q2, iv q3, iv 0, iv 0, iv 1, iv 1, .unset, .unset] [(.ref a_NEXT_KEY)])) _
          refine XS.iload X453.here hx rfl (hb hby at_115) rfl ?_
          show Steps _ _ _ (T453.setTop (mkF m 117 #[iv q1, iv q2, iv q3, iv 0, iv 0, iv 1, iv 1, .unset, .unset] [(.int 0), (.ref a_NEXT_KEY)])) _
          exact q
        obtain ⟨_, _, ⟨T457, L457, k457, n457⟩, -, X457, ⟨Lc457, hQ457, l457, y457, z457⟩, st457⟩ := Jvm.LawKit.callS X453 hx (y := y_2) hown (mvT hZ (hw _ (wd 0 rfl))) (mvT hZ (hw _ (wd 1 rfl))) (mvT hZ (hw _ (wd 2 rfl))) (mvT hZ (hw _ (wd 3 rfl))) (by decide) (backOf (W := 1) (kd l Z a0 hw [] a_NEXT_KEY a_GAP a_RECORD a_INSERT_INTENTION G (0 : Int32) 0 T453.heap n0 O_454 (Or.inl ⟨by decide, rfl⟩)) hZ (hw _ (wd 3 rfl)) (hw _ (wd 2 rfl)) (by decide) (by decide)) (g := (mkF m 117 #[iv q1, iv q2, iv q3, iv 0, iv 0, iv 1, iv 1, .unset, .unset] [(.int 0), (.ref a_NEXT_KEY)])) rfl (by rw [hml]; rfl) (argsL := [(.int 0)]) (rest := [(.ref a_NEXT_KEY)]) (lenOf pd_1 rfl) rfl (by show 2 * 0 + _ ≤ _; exact Nat.le_of_eq rfl) (hb hby at_117) (fun _ _ => ⟨rfl, (rfl : T453.heap = _), (by decide : 1 + 1 ≤ _), (by decide : 4 + 4 ≤ _)⟩)
        dsimp only [Pt.U, Pt.locs, Pt.cells, Pt.slots] at X457 l457 y457 z457 st457 hQ457
        subst l457 y457 z457
        obtain ⟨rfl, N457q, K457⟩ := hQ457
        have N457 := Fr.app N453 N457q
        have O_458 := O_454.keep K457 all0
        have K_459 := K_455.trans K457 all0
        have k_460 : Go p.tables e below (s₁.setTop (entryFrame m #[(.int q1), (.int q2), (.int q3)] maxLocals)) (T457.setTop (mkF m 122 #[iv q1, iv q2, iv q3, iv 0, iv 0, iv 1, iv 1, .unset, .unset] [(.int 1), (.ref a_NEXT_KEY), (.ref a_NEXT_KEY)])) := fun t q => by
          refine k_456 t ?_
          refine st457 _ ?_
          show Steps _ _ _ (T457.setTop (mkF m 120 #[iv q1, iv q2, iv q3, iv 0, iv 0, iv 1, iv 1, .unset, .unset] [(.ref a_NEXT_KEY), (.ref a_NEXT_KEY)])) _
          refine XS.iload X457.here hx rfl (hb hby at_120) rfl ?_
          show Steps _ _ _ (T457.setTop (mkF m 122 #[iv q1, iv q2, iv q3, iv 0, iv 0, iv 1, iv 1, .unset, .unset] [(.int 1), (.ref a_NEXT_KEY), (.ref a_NEXT_KEY)])) _
          exact q
        obtain ⟨cq461, kq461, q461a, q461b, q461c⟩ := isOf hZ (rfl : T457.heap = _) (Exa.ext O_458.2 E_NEXT_KEY)
        obtain ⟨_, _, ⟨T461, L461, k461, n461⟩, -, X461, ⟨Lc461, hQ461, l461, y461, z461⟩, st461⟩ := X457.virtualBack hx (y := y_3) (z := y_3) hown (mvT hZ (hw _ (wd 16 rfl))) (mvT hZ (hw _ (wd 17 rfl))) (notFace_of_selects (args := #[]) (mvT hZ (hw _ (wd 19 rfl)))) (mvT hZ (hw _ (wd 19 rfl))) (mvT hZ (hw _ (wd 18 rfl))) (by decide) (backOf (W := 0) (cv_0_0_1 l Z a0 hw [] a_NEXT_KEY a_GAP a_RECORD a_INSERT_INTENTION G  T457.heap n0 O_458 ) hZ (hw _ (wd 20 rfl)) (hw _ (wd 7 rfl)) (by decide) (by decide)) q461a q461c (g := (mkF m 122 #[iv q1, iv q2, iv q3, iv 0, iv 0, iv 1, iv 1, .unset, .unset] [(.int 1), (.ref a_NEXT_KEY), (.ref a_NEXT_KEY)])) rfl (by rw [hml]; rfl) (Steps.refl _) (argsL := [(.ref a_NEXT_KEY), (.int 1)]) (rest := []) (lenOf pd_2 rfl) rfl (by show 2 * 0 + _ ≤ _; exact Nat.le_of_eq rfl) (hb hby at_122) (fun _ _ => ⟨rfl, (rfl : T457.heap = _), (by decide : 2 + 0 ≤ _), (by decide : 8 + 0 ≤ _)⟩)
        dsimp only [Pt.U, Pt.locs, Pt.cells, Pt.slots] at X461 l461 y461 z461 st461 hQ461
        subst l461 y461 z461
        obtain ⟨rfl, N461q, e461⟩ := hQ461
        have N461 := Fr.app N457 N461q
        have k_462 : Go p.tables e below (s₁.setTop (entryFrame m #[(.int q1), (.int q2), (.int q3)] maxLocals)) (T461.setTop (mkF m 139 #[iv q1, iv q2, iv q3, iv 0, iv 0, iv 1, iv 1, iv 1, .unset] [(.int 1)])) := fun t q => by
          refine k_460 t ?_
          refine st461.trans ?_
          show Steps _ _ _ (T461.setTop (mkF m 125 #[iv q1, iv q2, iv q3, iv 0, iv 0, iv 1, iv 1, .unset, .unset] [(.int 1)])) _
          refine XS.istore X461.here hx rfl (hb hby at_125) rfl (l' := #[iv q1, iv q2, iv q3, iv 0, iv 0, iv 1, iv 1, iv 1, .unset]) rfl ?_
          show Steps _ _ _ (T461.setTop (mkF m 127 #[iv q1, iv q2, iv q3, iv 0, iv 0, iv 1, iv 1, iv 1, .unset] [])) _
          refine XS.iload X461.here hx rfl (hb hby at_127) rfl ?_
          show Steps _ _ _ (T461.setTop (mkF m 129 #[iv q1, iv q2, iv q3, iv 0, iv 0, iv 1, iv 1, iv 1, .unset] [(.int 1)])) _
          refine XS.iload X461.here hx rfl (hb hby at_129) rfl ?_
          show Steps _ _ _ (T461.setTop (mkF m 131 #[iv q1, iv q2, iv q3, iv 0, iv 0, iv 1, iv 1, iv 1, .unset] [(.int 1), (.int 1)])) _
          refine XS.icmpNo X461.here hx rfl (hb hby at_131) rfl (by decide) ?_
          show Steps _ _ _ (T461.setTop (mkF m 134 #[iv q1, iv q2, iv q3, iv 0, iv 0, iv 1, iv 1, iv 1, .unset] [])) _
          refine XS.iconst X461.here hx rfl (hb hby at_134) ?_
          show Steps _ _ _ (T461.setTop (mkF m 135 #[iv q1, iv q2, iv q3, iv 0, iv 0, iv 1, iv 1, iv 1, .unset] [(.int 1)])) _
          refine XS.goto X461.here hx rfl (pc0 := 135) (pc' := 139) rfl (hb hby at_135) (by decide) (by decide) ?_
          show Steps _ _ _ (T461.setTop (mkF m 139 #[iv q1, iv q2, iv q3, iv 0, iv 0, iv 1, iv 1, iv 1, .unset] [(.int 1)])) _
          exact q
        obtain ⟨fs, hr, hrun, hended, hW, hsame⟩ := X461.leave (v := some (.int 1)) (fun h => by rw [Bd.returns] at h; cases h)
        refine ⟨_, _, k_462 _ ?_, hrun, hended, _, _, rfl, ?_, ⟨_, rfl⟩, hW, hsame.mono (by decide) (by decide)⟩
        · exact retN X461 hx (t := .boolean) Bd.returns (by simp) (hb hby at_139) hr
        · show Q0 n0 _ T461.heap _
          rw [e461]
          exact ⟨rfl, N461⟩
      · skip
        have k_463 : Go p.tables e below (s₁.setTop (entryFrame m #[(.int q1), (.int q2), (.int q3)] maxLocals)) (s₁.setTop (mkF m 112 #[iv q1, iv q2, iv q3, iv 0, iv 1, iv 1, iv 1, .unset, .unset] [(.int 0)])) := fun t q => by
          refine k0 t ?_
          refine XS.iloadN X0.here hx rfl (hb hby at_0) rfl ?_
          show Steps _ _ _ (s₁.setTop (mkF m 1 #[iv q1, iv q2, iv q3, .unset, .unset, .unset, .unset, .unset, .unset] [(.int q1)])) _
          refine XS.iconst X0.here hx rfl (hb hby at_1) ?_
          show Steps _ _ _ (s₁.setTop (mkF m 2 #[iv q1, iv q2, iv q3, .unset, .unset, .unset, .unset, .unset, .unset] [(.int 3), (.int q1)])) _
          refine XS.iand X0.here hx rfl (hb hby at_2) rfl ?_
          show Steps _ _ _ (s₁.setTop (mkF m 3 #[iv q1, iv q2, iv q3, .unset, .unset, .unset, .unset, .unset, .unset] [(.int (q1 &&& (3 : Int32)))])) _
          rw [hi]
          show Steps _ _ _ (s₁.setTop (mkF m 3 #[iv q1, iv q2, iv q3, .unset, .unset, .unset, .unset, .unset, .unset] [(.int 0)])) _
          refine XS.istoreN X0.here hx rfl (hb hby at_3) rfl (l' := #[iv q1, iv q2, iv q3, iv 0, .unset, .unset, .unset, .unset, .unset]) rfl ?_
          show Steps _ _ _ (s₁.setTop (mkF m 4 #[iv q1, iv q2, iv q3, iv 0, .unset, .unset, .unset, .unset, .unset] [])) _
          refine XS.iloadN X0.here hx rfl (hb hby at_4) rfl ?_
          show Steps _ _ _ (s₁.setTop (mkF m 5 #[iv q1, iv q2, iv q3, iv 0, .unset, .unset, .unset, .unset, .unset] [(.int q2)])) _
          refine XS.iconst X0.here hx rfl (hb hby at_5) ?_
          show Steps _ _ _ (s₁.setTop (mkF m 6 #[iv q1, iv q2, iv q3, iv 0, .unset, .unset, .unset, .unset, .unset] [(.int 3), (.int q2)])) _
          refine XS.iand X0.here hx rfl (hb hby at_6) rfl ?_
          show Steps _ _ _ (s₁.setTop (mkF m 7 #[iv q1, iv q2, iv q3, iv 0, .unset, .unset, .unset, .unset, .unset] [(.int (q2 &&& (3 : Int32)))])) _
          rw [hj]
          show Steps _ _ _ (s₁.setTop (mkF m 7 #[iv q1, iv q2, iv q3, iv 0, .unset, .unset, .unset, .unset, .unset] [(.int 1)])) _
          refine XS.istore X0.here hx rfl (hb hby at_7) rfl (l' := #[iv q1, iv q2, iv q3, iv 0, iv 1, .unset, .unset, .unset, .unset]) rfl ?_
          show Steps _ _ _ (s₁.setTop (mkF m 9 #[iv q1, iv q2, iv q3, iv 0, iv 1, .unset, .unset, .unset, .unset] [])) _
          refine XS.iloadN X0.here hx rfl (hb hby at_9) rfl ?_
          show Steps _ _ _ (s₁.setTop (mkF m 10 #[iv q1, iv q2, iv q3, iv 0, iv 1, .unset, .unset, .unset, .unset] [(.int q3)])) _
          refine XS.iconst X0.here hx rfl (hb hby at_10) ?_
          show Steps _ _ _ (s₁.setTop (mkF m 11 #[iv q1, iv q2, iv q3, iv 0, iv 1, .unset, .unset, .unset, .unset] [(.int 1), (.int q3)])) _
          refine XS.iand X0.here hx rfl (hb hby at_11) rfl ?_
          show Steps _ _ _ (s₁.setTop (mkF m 12 #[iv q1, iv q2, iv q3, iv 0, iv 1, .unset, .unset, .unset, .unset] [(.int (q3 &&& (1 : Int32)))])) _
          rw [hs]
          show Steps _ _ _ (s₁.setTop (mkF m 12 #[iv q1, iv q2, iv q3, iv 0, iv 1, .unset, .unset, .unset, .unset] [(.int 1)])) _
          refine XS.ifNo X0.here hx rfl (hb hby at_12) rfl (by decide) ?_
          show Steps _ _ _ (s₁.setTop (mkF m 15 #[iv q1, iv q2, iv q3, iv 0, iv 1, .unset, .unset, .unset, .unset] [])) _
          refine XS.iconst X0.here hx rfl (hb hby at_15) ?_
          show Steps _ _ _ (s₁.setTop (mkF m 16 #[iv q1, iv q2, iv q3, iv 0, iv 1, .unset, .unset, .unset, .unset] [(.int 1)])) _
          refine XS.goto X0.here hx rfl (pc0 := 16) (pc' := 20) rfl (hb hby at_16) (by decide) (by decide) ?_
          show Steps _ _ _ (s₁.setTop (mkF m 20 #[iv q1, iv q2, iv q3, iv 0, iv 1, .unset, .unset, .unset, .unset] [(.int 1)])) _
          refine XS.istore X0.here hx rfl (hb hby at_20) rfl (l' := #[iv q1, iv q2, iv q3, iv 0, iv 1, iv 1, .unset, .unset, .unset]) rfl ?_
          show Steps _ _ _ (s₁.setTop (mkF m 22 #[iv q1, iv q2, iv q3, iv 0, iv 1, iv 1, .unset, .unset, .unset] [])) _
          refine XS.iloadN X0.here hx rfl (hb hby at_22) rfl ?_
          show Steps _ _ _ (s₁.setTop (mkF m 23 #[iv q1, iv q2, iv q3, iv 0, iv 1, iv 1, .unset, .unset, .unset] [(.int 0)])) _
          refine XS.iconst X0.here hx rfl (hb hby at_23) ?_
          show Steps _ _ _ (s₁.setTop (mkF m 24 #[iv q1, iv q2, iv q3, iv 0, iv 1, iv 1, .unset, .unset, .unset] [(.int 3), (.int 0)])) _
          refine XS.icmpNo X0.here hx rfl (hb hby at_24) rfl (by decide) ?_
          show Steps _ _ _ (s₁.setTop (mkF m 27 #[iv q1, iv q2, iv q3, iv 0, iv 1, iv 1, .unset, .unset, .unset] [])) _
          refine XS.iload X0.here hx rfl (hb hby at_27) rfl ?_
          show Steps _ _ _ (s₁.setTop (mkF m 29 #[iv q1, iv q2, iv q3, iv 0, iv 1, iv 1, .unset, .unset, .unset] [(.int 1)])) _
          refine XS.iconst X0.here hx rfl (hb hby at_29) ?_
          show Steps _ _ _ (s₁.setTop (mkF m 30 #[iv q1, iv q2, iv q3, iv 0, iv 1, iv 1, .unset, .unset, .unset] [(.int 3), (.int 1)])) _
          refine XS.icmpYes X0.here hx rfl (pc0 := 30) (pc' := 39) rfl (hb hby at_30) rfl (by decide) (by decide) (by decide) ?_
          show Steps _ _ _ (s₁.setTop (mkF m 39 #[iv q1, iv q2, iv q3, iv 0, iv 1, iv 1, .unset, .unset, .unset] [])) _
          refine XS.iload X0.here hx rfl (hb hby at_39) rfl ?_
          show Steps _ _ _ (s₁.setTop (mkF m 41 #[iv q1, iv q2, iv q3, iv 0, iv 1, iv 1, .unset, .unset, .unset] [(.int 1)])) _
          refine XS.ifNo X0.here hx rfl (hb hby at_41) rfl (by decide) ?_
          show Steps _ _ _ (s₁.setTop (mkF m 44 #[iv q1, iv q2, iv q3, iv 0, iv 1, iv 1, .unset, .unset, .unset] [])) _
          refine XS.iconst X0.here hx rfl (hb hby at_44) ?_
          show Steps _ _ _ (s₁.setTop (mkF m 45 #[iv q1, iv q2, iv q3, iv 0, iv 1, iv 1, .unset, .unset, .unset] [(.int 1)])) _
          refine XS.istore X0.here hx rfl (hb hby at_45) rfl (l' := #[iv q1, iv q2, iv q3, iv 0, iv 1, iv 1, iv 1, .unset, .unset]) rfl ?_
          show Steps _ _ _ (s₁.setTop (mkF m 47 #[iv q1, iv q2, iv q3, iv 0, iv 1, iv 1, iv 1, .unset, .unset] [])) _
          refine XS.goto X0.here hx rfl (pc0 := 47) (pc' := 111) rfl (hb hby at_47) (by decide) (by decide) ?_
          show Steps _ _ _ (s₁.setTop (mkF m 111 #[iv q1, iv q2, iv q3, iv 0, iv 1, iv 1, iv 1, .unset, .unset] [])) _
          refine XS.iloadN X0.here hx rfl (hb hby at_111) rfl ?_
          show Steps _ _ _ (s₁.setTop (mkF m 112 #[iv q1, iv q2, iv q3, iv 0, iv 1, iv 1, iv 1, .unset, .unset] [(.int 0)])) _
          exact q
        obtain ⟨_, _, ⟨T464, L464, k464, n464⟩, -, X464, ⟨Lc464, hQ464, l464, y464, z464⟩, st464⟩ := Jvm.LawKit.callS X0 hx (y := y_2) hown (mvT hZ (hw _ (wd 0 rfl))) (mvT hZ (hw _ (wd 1 rfl))) (mvT hZ (hw _ (wd 2 rfl))) (mvT hZ (hw _ (wd 3 rfl))) (by decide) (backOf (W := 0) (kd l Z a0 hw [] a_NEXT_KEY a_GAP a_RECORD a_INSERT_INTENTION G (0 : Int32) 0 h0 n0 O0 (Or.inl ⟨by decide, rfl⟩)) hZ (hw _ (wd 3 rfl)) (hw _ (wd 2 rfl)) (by decide) (by decide)) (g := (mkF m 112 #[iv q1, iv q2, iv q3, iv 0, iv 1, iv 1, iv 1, .unset, .unset] [(.int 0)])) rfl (by rw [hml]; rfl) (argsL := [(.int 0)]) (rest := []) (lenOf pd_1 rfl) rfl (by show 2 * 0 + _ ≤ _; exact Nat.le_of_eq rfl) (hb hby at_112) (fun _ _ => ⟨rfl, e0, (by decide : 0 + 1 ≤ _), (by decide : 0 + 4 ≤ _)⟩)
        dsimp only [Pt.U, Pt.locs, Pt.cells, Pt.slots] at X464 l464 y464 z464 st464 hQ464
        subst l464 y464 z464
        obtain ⟨rfl, N464q, K464⟩ := hQ464
        have N464 := Fr.app N0 N464q
        have O_465 := O0.keep K464 all0
        have K_466 := K0.trans K464 all0
        have k_467 : Go p.tables e below (s₁.setTop (entryFrame m #[(.int q1), (.int q2), (.int q3)] maxLocals)) (T464.setTop (mkF m 117 #[iv q1, iv q2, iv q3, iv 0, iv 1, iv 1, iv 1, .unset, .unset] [(.int 1), (.ref a_NEXT_KEY)])) := fun t q => by
          refine k_463 t ?_
          refine st464 _ ?_
          show Steps _ _ _ (T464.setTop (mkF m 115 #[iv q1, iv q2, iv q3, iv 0, iv 1, iv 1, iv 1, .unset, .unset] [(.ref a_NEXT_KEY)])) _
          refine XS.iload X464.here hx rfl (hb hby at_115) rfl ?_
          show Steps _ _ _ (T464.setTop (mkF m 117 #[iv q1, iv q2, iv q3, iv 0, iv 1, iv 1, iv 1, .unset, .unset] [(.int 1), (.ref a_NEXT_KEY)])) _
          exact q
        obtain ⟨_, _, ⟨T468, L468, k468, n468⟩, -, X468, ⟨Lc468, hQ468, l468, y468, z468⟩, st468⟩ := Jvm.LawKit.callS X464 hx (y := y_2) hown (mvT hZ (hw _ (wd 0 rfl))) (mvT hZ (hw _ (wd 1 rfl))) (mvT hZ (hw _ (wd 2 rfl))) (mvT hZ (hw _ (wd 3 rfl))) (by decide) (backOf (W := 1) (kd l Z a0 hw [] a_NEXT_KEY a_GAP a_RECORD a_INSERT_INTENTION G (1 : Int32) 1 T464.heap n0 O_465 (Or.inr (Or.inl ⟨by decide, rfl⟩))) hZ (hw _ (wd 3 rfl)) (hw _ (wd 2 rfl)) (by decide) (by decide)) (g := (mkF m 117 #[iv q1, iv q2, iv q3, iv 0, iv 1, iv 1, iv 1, .unset, .unset] [(.int 1), (.ref a_NEXT_KEY)])) rfl (by rw [hml]; rfl) (argsL := [(.int 1)]) (rest := [(.ref a_NEXT_KEY)]) (lenOf pd_1 rfl) rfl (by show 2 * 0 + _ ≤ _; exact Nat.le_of_eq rfl) (hb hby at_117) (fun _ _ => ⟨rfl, (rfl : T464.heap = _), (by decide : 1 + 1 ≤ _), (by decide : 4 + 4 ≤ _)⟩)
        dsimp only [Pt.U, Pt.locs, Pt.cells, Pt.slots] at X468 l468 y468 z468 st468 hQ468
        subst l468 y468 z468
        obtain ⟨rfl, N468q, K468⟩ := hQ468
        have N468 := Fr.app N464 N468q
        have O_469 := O_465.keep K468 all0
        have K_470 := K_466.trans K468 all0
        have k_471 : Go p.tables e below (s₁.setTop (entryFrame m #[(.int q1), (.int q2), (.int q3)] maxLocals)) (T468.setTop (mkF m 122 #[iv q1, iv q2, iv q3, iv 0, iv 1, iv 1, iv 1, .unset, .unset] [(.int 1), (.ref a_GAP), (.ref a_NEXT_KEY)])) := fun t q => by
          refine k_467 t ?_
          refine st468 _ ?_
          show Steps _ _ _ (T468.setTop (mkF m 120 #[iv q1, iv q2, iv q3, iv 0, iv 1, iv 1, iv 1, .unset, .unset] [(.ref a_GAP), (.ref a_NEXT_KEY)])) _
          refine XS.iload X468.here hx rfl (hb hby at_120) rfl ?_
          show Steps _ _ _ (T468.setTop (mkF m 122 #[iv q1, iv q2, iv q3, iv 0, iv 1, iv 1, iv 1, .unset, .unset] [(.int 1), (.ref a_GAP), (.ref a_NEXT_KEY)])) _
          exact q
        obtain ⟨cq472, kq472, q472a, q472b, q472c⟩ := isOf hZ (rfl : T468.heap = _) (Exa.ext O_469.2 E_NEXT_KEY)
        obtain ⟨_, _, ⟨T472, L472, k472, n472⟩, -, X472, ⟨Lc472, hQ472, l472, y472, z472⟩, st472⟩ := X468.virtualBack hx (y := y_3) (z := y_3) hown (mvT hZ (hw _ (wd 16 rfl))) (mvT hZ (hw _ (wd 17 rfl))) (notFace_of_selects (args := #[]) (mvT hZ (hw _ (wd 19 rfl)))) (mvT hZ (hw _ (wd 19 rfl))) (mvT hZ (hw _ (wd 18 rfl))) (by decide) (backOf (W := 0) (cv_0_1_1 l Z a0 hw [] a_NEXT_KEY a_GAP a_RECORD a_INSERT_INTENTION G  T468.heap n0 O_469 ) hZ (hw _ (wd 20 rfl)) (hw _ (wd 7 rfl)) (by decide) (by decide)) q472a q472c (g := (mkF m 122 #[iv q1, iv q2, iv q3, iv 0, iv 1, iv 1, iv 1, .unset, .unset] [(.int 1), (.ref a_GAP), (.ref a_NEXT_KEY)])) rfl (by rw [hml]; rfl) (Steps.refl _) (argsL := [(.ref a_GAP), (.int 1)]) (rest := []) (lenOf pd_2 rfl) rfl (by show 2 * 0 + _ ≤ _; exact Nat.le_of_eq rfl) (hb hby at_122) (fun _ _ => ⟨rfl, (rfl : T468.heap = _), (by decide : 2 + 0 ≤ _), (by decide : 8 + 0 ≤ _)⟩)
        dsimp only [Pt.U, Pt.locs, Pt.cells, Pt.slots] at X472 l472 y472 z472 st472 hQ472
        subst l472 y472 z472
        obtain ⟨rfl, N472q, e472⟩ := hQ472
        have N472 := Fr.app N468 N472q
        have k_473 : Go p.tables e below (s₁.setTop (entryFrame m #[(.int q1), (.int q2), (.int q3)] maxLocals)) (T472.setTop (mkF m 139 #[iv q1, iv q2, iv q3, iv 0, iv 1, iv 1, iv 1, iv 1, .unset] [(.int 1)])) := fun t q => by
          refine k_471 t ?_
          refine st472.trans ?_
          show Steps _ _ _ (T472.setTop (mkF m 125 #[iv q1, iv q2, iv q3, iv 0, iv 1, iv 1, iv 1, .unset, .unset] [(.int 1)])) _
          refine XS.istore X472.here hx rfl (hb hby at_125) rfl (l' := #[iv q1, iv q2, iv q3, iv 0, iv 1, iv 1, iv 1, iv 1, .unset]) rfl ?_
          show Steps _ _ _ (T472.setTop (mkF m 127 #[iv q1, iv q2, iv q3, iv 0, iv 1, iv 1, iv 1, iv 1, .unset] [])) _
          refine XS.iload X472.here hx rfl (hb hby at_127) rfl ?_
          show Steps _ _ _ (T472.setTop (mkF m 129 #[iv q1, iv q2, iv q3, iv 0, iv 1, iv 1, iv 1, iv 1, .unset] [(.int 1)])) _
          refine XS.iload X472.here hx rfl (hb hby at_129) rfl ?_
          show Steps _ _ _ (T472.setTop (mkF m 131 #[iv q1, iv q2, iv q3, iv 0, iv 1, iv 1, iv 1, iv 1, .unset] [(.int 1), (.int 1)])) _
          refine XS.icmpNo X472.here hx rfl (hb hby at_131) rfl (by decide) ?_
          show Steps _ _ _ (T472.setTop (mkF m 134 #[iv q1, iv q2, iv q3, iv 0, iv 1, iv 1, iv 1, iv 1, .unset] [])) _
          refine XS.iconst X472.here hx rfl (hb hby at_134) ?_
          show Steps _ _ _ (T472.setTop (mkF m 135 #[iv q1, iv q2, iv q3, iv 0, iv 1, iv 1, iv 1, iv 1, .unset] [(.int 1)])) _
          refine XS.goto X472.here hx rfl (pc0 := 135) (pc' := 139) rfl (hb hby at_135) (by decide) (by decide) ?_
          show Steps _ _ _ (T472.setTop (mkF m 139 #[iv q1, iv q2, iv q3, iv 0, iv 1, iv 1, iv 1, iv 1, .unset] [(.int 1)])) _
          exact q
        obtain ⟨fs, hr, hrun, hended, hW, hsame⟩ := X472.leave (v := some (.int 1)) (fun h => by rw [Bd.returns] at h; cases h)
        refine ⟨_, _, k_473 _ ?_, hrun, hended, _, _, rfl, ?_, ⟨_, rfl⟩, hW, hsame.mono (by decide) (by decide)⟩
        · exact retN X472 hx (t := .boolean) Bd.returns (by simp) (hb hby at_139) hr
        · show Q0 n0 _ T472.heap _
          rw [e472]
          exact ⟨rfl, N472⟩
      · skip
        have k_474 : Go p.tables e below (s₁.setTop (entryFrame m #[(.int q1), (.int q2), (.int q3)] maxLocals)) (s₁.setTop (mkF m 112 #[iv q1, iv q2, iv q3, iv 0, iv 2, iv 1, iv 1, .unset, .unset] [(.int 0)])) := fun t q => by
          refine k0 t ?_
          refine XS.iloadN X0.here hx rfl (hb hby at_0) rfl ?_
          show Steps _ _ _ (s₁.setTop (mkF m 1 #[iv q1, iv q2, iv q3, .unset, .unset, .unset, .unset, .unset, .unset] [(.int q1)])) _
          refine XS.iconst X0.here hx rfl (hb hby at_1) ?_
          show Steps _ _ _ (s₁.setTop (mkF m 2 #[iv q1, iv q2, iv q3, .unset, .unset, .unset, .unset, .unset, .unset] [(.int 3), (.int q1)])) _
          refine XS.iand X0.here hx rfl (hb hby at_2) rfl ?_
          show Steps _ _ _ (s₁.setTop (mkF m 3 #[iv q1, iv q2, iv q3, .unset, .unset, .unset, .unset, .unset, .unset] [(.int (q1 &&& (3 : Int32)))])) _
          rw [hi]
          show Steps _ _ _ (s₁.setTop (mkF m 3 #[iv q1, iv q2, iv q3, .unset, .unset, .unset, .unset, .unset, .unset] [(.int 0)])) _
          refine XS.istoreN X0.here hx rfl (hb hby at_3) rfl (l' := #[iv q1, iv q2, iv q3, iv 0, .unset, .unset, .unset, .unset, .unset]) rfl ?_
          show Steps _ _ _ (s₁.setTop (mkF m 4 #[iv q1, iv q2, iv q3, iv 0, .unset, .unset, .unset, .unset, .unset] [])) _
          refine XS.iloadN X0.here hx rfl (hb hby at_4) rfl ?_
          show Steps _ _ _ (s₁.setTop (mkF m 5 #[iv q1, iv q2, iv q3, iv 0, .unset, .unset, .unset, .unset, .unset] [(.int q2)])) _
          refine XS.iconst X0.here hx rfl (hb hby at_5) ?_
          show Steps _ _ _ (s₁.setTop (mkF m 6 #[iv q1, iv q2, iv q3, iv 0, .unset, .unset, .unset, .unset, .unset] [(.int 3), (.int q2)])) _
          refine XS.iand X0.here hx rfl (hb hby at_6) rfl ?_
          show Steps _ _ _ (s₁.setTop (mkF m 7 #[iv q1, iv q2, iv q3, iv 0, .unset, .unset, .unset, .unset, .unset] [(.int (q2 &&& (3 : Int32)))])) _
          rw [hj]
          show Steps _ _ _ (s₁.setTop (mkF m 7 #[iv q1, iv q2, iv q3, iv 0, .unset, .unset, .unset, .unset, .unset] [(.int 2)])) _
          refine XS.istore X0.here hx rfl (hb hby at_7) rfl (l' := #[iv q1, iv q2, iv q3, iv 0, iv 2, .unset, .unset, .unset, .unset]) rfl ?_
          show Steps _ _ _ (s₁.setTop (mkF m 9 #[iv q1, iv q2, iv q3, iv 0, iv 2, .unset, .unset, .unset, .unset] [])) _
          refine XS.iloadN X0.here hx rfl (hb hby at_9) rfl ?_
          show Steps _ _ _ (s₁.setTop (mkF m 10 #[iv q1, iv q2, iv q3, iv 0, iv 2, .unset, .unset, .unset, .unset] [(.int q3)])) _
          refine XS.iconst X0.here hx rfl (hb hby at_10) ?_
          show Steps _ _ _ (s₁.setTop (mkF m 11 #[iv q1, iv q2, iv q3, iv 0, iv 2, .unset, .unset, .unset, .unset] [(.int 1), (.int q3)])) _
          refine XS.iand X0.here hx rfl (hb hby at_11) rfl ?_
          show Steps _ _ _ (s₁.setTop (mkF m 12 #[iv q1, iv q2, iv q3, iv 0, iv 2, .unset, .unset, .unset, .unset] [(.int (q3 &&& (1 : Int32)))])) _
          rw [hs]
          show Steps _ _ _ (s₁.setTop (mkF m 12 #[iv q1, iv q2, iv q3, iv 0, iv 2, .unset, .unset, .unset, .unset] [(.int 1)])) _
          refine XS.ifNo X0.here hx rfl (hb hby at_12) rfl (by decide) ?_
          show Steps _ _ _ (s₁.setTop (mkF m 15 #[iv q1, iv q2, iv q3, iv 0, iv 2, .unset, .unset, .unset, .unset] [])) _
          refine XS.iconst X0.here hx rfl (hb hby at_15) ?_
          show Steps _ _ _ (s₁.setTop (mkF m 16 #[iv q1, iv q2, iv q3, iv 0, iv 2, .unset, .unset, .unset, .unset] [(.int 1)])) _
          refine XS.goto X0.here hx rfl (pc0 := 16) (pc' := 20) rfl (hb hby at_16) (by decide) (by decide) ?_
          show Steps _ _ _ (s₁.setTop (mkF m 20 #[iv q1, iv q2, iv q3, iv 0, iv 2, .unset, .unset, .unset, .unset] [(.int 1)])) _
          refine XS.istore X0.here hx rfl (hb hby at_20) rfl (l' := #[iv q1, iv q2, iv q3, iv 0, iv 2, iv 1, .unset, .unset, .unset]) rfl ?_
          show Steps _ _ _ (s₁.setTop (mkF m 22 #[iv q1, iv q2, iv q3, iv 0, iv 2, iv 1, .unset, .unset, .unset] [])) _
          refine XS.iloadN X0.here hx rfl (hb hby at_22) rfl ?_
          show Steps _ _ _ (s₁.setTop (mkF m 23 #[iv q1, iv q2, iv q3, iv 0, iv 2, iv 1, .unset, .unset, .unset] [(.int 0)])) _
          refine XS.iconst X0.here hx rfl (hb hby at_23) ?_
          show Steps _ _ _ (s₁.setTop (mkF m 24 #[iv q1, iv q2, iv q3, iv 0, iv 2, iv 1, .unset, .unset, .unset] [(.int 3), (.int 0)])) _
          refine XS.icmpNo X0.here hx rfl (hb hby at_24) rfl (by decide) ?_
          show Steps _ _ _ (s₁.setTop (mkF m 27 #[iv q1, iv q2, iv q3, iv 0, iv 2, iv 1, .unset, .unset, .unset] [])) _
          refine XS.iload X0.here hx rfl (hb hby at_27) rfl ?_
          show Steps _ _ _ (s₁.setTop (mkF m 29 #[iv q1, iv q2, iv q3, iv 0, iv 2, iv 1, .unset, .unset, .unset] [(.int 2)])) _
          refine XS.iconst X0.here hx rfl (hb hby at_29) ?_
          show Steps _ _ _ (s₁.setTop (mkF m 30 #[iv q1, iv q2, iv q3, iv 0, iv 2, iv 1, .unset, .unset, .unset] [(.int 3), (.int 2)])) _
          refine XS.icmpYes X0.here hx rfl (pc0 := 30) (pc' := 39) rfl (hb hby at_30) rfl (by decide) (by decide) (by decide) ?_
          show Steps _ _ _ (s₁.setTop (mkF m 39 #[iv q1, iv q2, iv q3, iv 0, iv 2, iv 1, .unset, .unset, .unset] [])) _
          refine XS.iload X0.here hx rfl (hb hby at_39) rfl ?_
          show Steps _ _ _ (s₁.setTop (mkF m 41 #[iv q1, iv q2, iv q3, iv 0, iv 2, iv 1, .unset, .unset, .unset] [(.int 1)])) _
          refine XS.ifNo X0.here hx rfl (hb hby at_41) rfl (by decide) ?_
          show Steps _ _ _ (s₁.setTop (mkF m 44 #[iv q1, iv q2, iv q3, iv 0, iv 2, iv 1, .unset, .unset, .unset] [])) _
          refine XS.iconst X0.here hx rfl (hb hby at_44) ?_
          show Steps _ _ _ (s₁.setTop (mkF m 45 #[iv q1, iv q2, iv q3, iv 0, iv 2, iv 1, .unset, .unset, .unset] [(.int 1)])) _
          refine XS.istore X0.here hx rfl (hb hby at_45) rfl (l' := #[iv q1, iv q2, iv q3, iv 0, iv 2, iv 1, iv 1, .unset, .unset]) rfl ?_
          show Steps _ _ _ (s₁.setTop (mkF m 47 #[iv q1, iv q2, iv q3, iv 0, iv 2, iv 1, iv 1, .unset, .unset] [])) _
          refine XS.goto X0.here hx rfl (pc0 := 47) (pc' := 111) rfl (hb hby at_47) (by decide) (by decide) ?_
          show Steps _ _ _ (s₁.setTop (mkF m 111 #[iv q1, iv q2, iv q3, iv 0, iv 2, iv 1, iv 1, .unset, .unset] [])) _
          refine XS.iloadN X0.here hx rfl (hb hby at_111) rfl ?_
          show Steps _ _ _ (s₁.setTop (mkF m 112 #[iv q1, iv q2, iv q3, iv 0, iv 2, iv 1, iv 1, .unset, .unset] [(.int 0)])) _
          exact q
        obtain ⟨_, _, ⟨T475, L475, k475, n475⟩, -, X475, ⟨Lc475, hQ475, l475, y475, z475⟩, st475⟩ := Jvm.LawKit.callS X0 hx (y := y_2) hown (mvT hZ (hw _ (wd 0 rfl))) (mvT hZ (hw _ (wd 1 rfl))) (mvT hZ (hw _ (wd 2 rfl))) (mvT hZ (hw _ (wd 3 rfl))) (by decide) (backOf (W := 0) (kd l Z a0 hw [] a_NEXT_KEY a_GAP a_RECORD a_INSERT_INTENTION G (0 : Int32) 0 h0 n0 O0 (Or.inl ⟨by decide, rfl⟩)) hZ (hw _ (wd 3 rfl)) (hw _ (wd 2 rfl)) (by decide) (by decide)) (g := (mkF m 112 #[iv q1, iv q2, iv q3, iv 0, iv 2, iv 1, iv 1, .unset, .unset] [(.int 0)])) rfl (by rw [hml]; rfl) (argsL := [(.int 0)]) (rest := []) (lenOf pd_1 rfl) rfl (by show 2 * 0 + _ ≤ _; exact Nat.le_of_eq rfl) (hb hby at_112) (fun _ _ => ⟨rfl, e0, (by decide : 0 + 1 ≤ _), (by decide : 0 + 4 ≤ _)⟩)
        dsimp only [Pt.U, Pt.locs, Pt.cells, Pt.slots] at X475 l475 y475 z475 st475 hQ475
        subst l475 y475 z475
        obtain ⟨rfl, N475q, K475⟩ := hQ475
        have N475 := Fr.app N0 N475q
        have O_476 := O0.keep K475 all0
        have K_477 := K0.trans K475 all0
        have k_478 : Go p.tables e below (s₁.setTop (entryFrame m #[(.int q1), (.int q2), (.int q3)] maxLocals)) (T475.setTop (mkF m 117 #[iv q1, iv q2, iv q3, iv 0, iv 2, iv 1, iv 1, .unset, .unset] [(.int 2), (.ref a_NEXT_KEY)])) := fun t q => by
          refine k_474 t ?_
          refine st475 _ ?_
          show Steps _ _ _ (T475.setTop (mkF m 115 #[iv q1, iv q2, iv q3, iv 0, iv 2, iv 1, iv 1, .unset, .unset] [(.ref a_NEXT_KEY)])) _
          refine XS.iload X475.here hx rfl (hb hby at_115) rfl ?_
          show Steps _ _ _ (T475.setTop (mkF m 117 #[iv q1, iv q2, iv q3, iv 0, iv 2, iv 1, iv 1, .unset, .unset] [(.int 2), (.ref a_NEXT_KEY)])) _
          exact q
        obtain ⟨_, _, ⟨T479, L479, k479, n479⟩, -, X479, ⟨Lc479, hQ479, l479, y479, z479⟩, st479⟩ := Jvm.LawKit.callS X475 hx (y := y_2) hown (mvT hZ (hw _ (wd 0 rfl))) (mvT hZ (hw _ (wd 1 rfl))) (mvT hZ (hw _ (wd 2 rfl))) (mvT hZ (hw _ (wd 3 rfl))) (by decide) (backOf (W := 1) (kd l Z a0 hw [] a_NEXT_KEY a_GAP a_RECORD a_INSERT_INTENTION G (2 : Int32) 2 T475.heap n0 O_476 (Or.inr (Or.inr (Or.inl ⟨by decide, rfl⟩)))) hZ (hw _ (wd 3 rfl)) (hw _ (wd 2 rfl)) (by decide) (by decide)) (g := (mkF m 117 #[iv q1, iv q2, iv q3, iv 0, iv 2, iv 1, iv 1, .unset, .unset] [(.int 2), (.ref a_NEXT_KEY)])) rfl (by rw [hml]; rfl) (argsL := [(.int 2)]) (rest := [(.ref a_NEXT_KEY)]) (lenOf pd_1 rfl) rfl (by show 2 * 0 + _ ≤ _; exact Nat.le_of_eq rfl) (hb hby at_117) (fun _ _ => ⟨rfl, (rfl : T475.heap = _), (by decide : 1 + 1 ≤ _), (by decide : 4 + 4 ≤ _)⟩)
        dsimp only [Pt.U, Pt.locs, Pt.cells, Pt.slots] at X479 l479 y479 z479 st479 hQ479
        subst l479 y479 z479
        obtain ⟨rfl, N479q, K479⟩ := hQ479
        have N479 := Fr.app N475 N479q
        have O_480 := O_476.keep K479 all0
        have K_481 := K_477.trans K479 all0
        have k_482 : Go p.tables e below (s₁.setTop (entryFrame m #[(.int q1), (.int q2), (.int q3)] maxLocals)) (T479.setTop (mkF m 122 #[iv q1, iv q2, iv q3, iv 0, iv 2, iv 1, iv 1, .unset, .unset] [(.int 1), (.ref a_RECORD), (.ref a_NEXT_KEY)])) := fun t q => by
          refine k_478 t ?_
          refine st479 _ ?_
          show Steps _ _ _ (T479.setTop (mkF m 120 #[iv q1, iv q2, iv q3, iv 0, iv 2, iv 1, iv 1, .unset, .unset] [(.ref a_RECORD), (.ref a_NEXT_KEY)])) _
          refine XS.iload X479.here hx rfl (hb hby at_120) rfl ?_
          show Steps _ _ _ (T479.setTop (mkF m 122 #[iv q1, iv q2, iv q3, iv 0, iv 2, iv 1, iv 1, .unset, .unset] [(.int 1), (.ref a_RECORD), (.ref a_NEXT_KEY)])) _
          exact q
        obtain ⟨cq483, kq483, q483a, q483b, q483c⟩ := isOf hZ (rfl : T479.heap = _) (Exa.ext O_480.2 E_NEXT_KEY)
        obtain ⟨_, _, ⟨T483, L483, k483, n483⟩, -, X483, ⟨Lc483, hQ483, l483, y483, z483⟩, st483⟩ := X479.virtualBack hx (y := y_3) (z := y_3) hown (mvT hZ (hw _ (wd 16 rfl))) (mvT hZ (hw _ (wd 17 rfl))) (notFace_of_selects (args := #[]) (mvT hZ (hw _ (wd 19 rfl)))) (mvT hZ (hw _ (wd 19 rfl))) (mvT hZ (hw _ (wd 18 rfl))) (by decide) (backOf (W := 0) (cv_0_2_1 l Z a0 hw [] a_NEXT_KEY a_GAP a_RECORD a_INSERT_INTENTION G  T479.heap n0 O_480 ) hZ (hw _ (wd 20 rfl)) (hw _ (wd 7 rfl)) (by decide) (by decide)) q483a q483c (g := (mkF m 122 #[iv q1, iv q2, iv q3, iv 0, iv 2, iv 1, iv 1, .unset, .unset] [(.int 1), (.ref a_RECORD), (.ref a_NEXT_KEY)])) rfl (by rw [hml]; rfl) (Steps.refl _) (argsL := [(.ref a_RECORD), (.int 1)]) (rest := []) (lenOf pd_2 rfl) rfl (by show 2 * 0 + _ ≤ _; exact Nat.le_of_eq rfl) (hb hby at_122) (fun _ _ => ⟨rfl, (rfl : T479.heap = _), (by decide : 2 + 0 ≤ _), (by decide : 8 + 0 ≤ _)⟩)
        dsimp only [Pt.U, Pt.locs, Pt.cells, Pt.slots] at X483 l483 y483 z483 st483 hQ483
        subst l483 y483 z483
        obtain ⟨rfl, N483q, e483⟩ := hQ483
        have N483 := Fr.app N479 N483q
        have k_484 : Go p.tables e below (s₁.setTop (entryFrame m #[(.int q1), (.int q2), (.int q3)] maxLocals)) (T483.setTop (mkF m 139 #[iv q1, iv q2, iv q3, iv 0, iv 2, iv 1, iv 1, iv 1, .unset] [(.int 1)])) := fun t q => by
          refine k_482 t ?_
          refine st483.trans ?_
          show Steps _ _ _ (T483.setTop (mkF m 125 #[iv q1, iv q2, iv q3, iv 0, iv 2, iv 1, iv 1, .unset, .unset] [(.int 1)])) _
          refine XS.istore X483.here hx rfl (hb hby at_125) rfl (l' := #[iv q1, iv q2, iv q3, iv 0, iv 2, iv 1, iv 1, iv 1, .unset]) rfl ?_
          show Steps _ _ _ (T483.setTop (mkF m 127 #[iv q1, iv q2, iv q3, iv 0, iv 2, iv 1, iv 1, iv 1, .unset] [])) _
          refine XS.iload X483.here hx rfl (hb hby at_127) rfl ?_
          show Steps _ _ _ (T483.setTop (mkF m 129 #[iv q1, iv q2, iv q3, iv 0, iv 2, iv 1, iv 1, iv 1, .unset] [(.int 1)])) _
          refine XS.iload X483.here hx rfl (hb hby at_129) rfl ?_
          show Steps _ _ _ (T483.setTop (mkF m 131 #[iv q1, iv q2, iv q3, iv 0, iv 2, iv 1, iv 1, iv 1, .unset] [(.int 1), (.int 1)])) _
          refine XS.icmpNo X483.here hx rfl (hb hby at_131) rfl (by decide) ?_
          show Steps _ _ _ (T483.setTop (mkF m 134 #[iv q1, iv q2, iv q3, iv 0, iv 2, iv 1, iv 1, iv 1, .unset] [])) _
          refine XS.iconst X483.here hx rfl (hb hby at_134) ?_
          show Steps _ _ _ (T483.setTop (mkF m 135 #[iv q1, iv q2, iv q3, iv 0, iv 2, iv 1, iv 1, iv 1, .unset] [(.int 1)])) _
          refine XS.goto X483.here hx rfl (pc0 := 135) (pc' := 139) rfl (hb hby at_135) (by decide) (by decide) ?_
          show Steps _ _ _ (T483.setTop (mkF m 139 #[iv q1, iv q2, iv q3, iv 0, iv 2, iv 1, iv 1, iv 1, .unset] [(.int 1)])) _
          exact q
        obtain ⟨fs, hr, hrun, hended, hW, hsame⟩ := X483.leave (v := some (.int 1)) (fun h => by rw [Bd.returns] at h; cases h)
        refine ⟨_, _, k_484 _ ?_, hrun, hended, _, _, rfl, ?_, ⟨_, rfl⟩, hW, hsame.mono (by decide) (by decide)⟩
        · exact retN X483 hx (t := .boolean) Bd.returns (by simp) (hb hby at_139) hr
        · show Q0 n0 _ T483.heap _
          rw [e483]
          exact ⟨rfl, N483⟩
      · skip
        have k_485 : Go p.tables e below (s₁.setTop (entryFrame m #[(.int q1), (.int q2), (.int q3)] maxLocals)) (s₁.setTop (mkF m 112 #[iv q1, iv q2, iv q3, iv 0, iv 3, iv 1, iv 0, .unset, .unset] [(.int 0)])) := fun t q => by
          refine k0 t ?_
          refine XS.iloadN X0.here hx rfl (hb hby at_0) rfl ?_
          show Steps _ _ _ (s₁.setTop (mkF m 1 #[iv q1, iv q2, iv q3, .unset, .unset, .unset, .unset, .unset, .unset] [(.int q1)])) _
          refine XS.iconst X0.here hx rfl (hb hby at_1) ?_
          show Steps _ _ _ (s₁.setTop (mkF m 2 #[iv q1, iv q2, iv q3, .unset, .unset, .unset, .unset, .unset, .unset] [(.int 3), (.int q1)])) _
          refine XS.iand X0.here hx rfl (hb hby at_2) rfl ?_
          show Steps _ _ _ (s₁.setTop (mkF m 3 #[iv q1, iv q2, iv q3, .unset, .unset, .unset, .unset, .unset, .unset] [(.int (q1 &&& (3 : Int32)))])) _
          rw [hi]
          show Steps _ _ _ (s₁.setTop (mkF m 3 #[iv q1, iv q2, iv q3, .unset, .unset, .unset, .unset, .unset, .unset] [(.int 0)])) _
          refine XS.istoreN X0.here hx rfl (hb hby at_3) rfl (l' := #[iv q1, iv q2, iv q3, iv 0, .unset, .unset, .unset, .unset, .unset]) rfl ?_
          show Steps _ _ _ (s₁.setTop (mkF m 4 #[iv q1, iv q2, iv q3, iv 0, .unset, .unset, .unset, .unset, .unset] [])) _
          refine XS.iloadN X0.here hx rfl (hb hby at_4) rfl ?_
          show Steps _ _ _ (s₁.setTop (mkF m 5 #[iv q1, iv q2, iv q3, iv 0, .unset, .unset, .unset, .unset, .unset] [(.int q2)])) _
          refine XS.iconst X0.here hx rfl (hb hby at_5) ?_
          show Steps _ _ _ (s₁.setTop (mkF m 6 #[iv q1, iv q2, iv q3, iv 0, .unset, .unset, .unset, .unset, .unset] [(.int 3), (.int q2)])) _
          refine XS.iand X0.here hx rfl (hb hby at_6) rfl ?_
          show Steps _ _ _ (s₁.setTop (mkF m 7 #[iv q1, iv q2, iv q3, iv 0, .unset, .unset, .unset, .unset, .unset] [(.int (q2 &&& (3 : Int32)))])) _
          rw [hj]
          show Steps _ _ _ (s₁.setTop (mkF m 7 #[iv q1, iv q2, iv q3, iv 0, .unset, .unset, .unset, .unset, .unset] [(.int 3)])) _
          refine XS.istore X0.here hx rfl (hb hby at_7) rfl (l' := #[iv q1, iv q2, iv q3, iv 0, iv 3, .unset, .unset, .unset, .unset]) rfl ?_
          show Steps _ _ _ (s₁.setTop (mkF m 9 #[iv q1, iv q2, iv q3, iv 0, iv 3, .unset, .unset, .unset, .unset] [])) _
          refine XS.iloadN X0.here hx rfl (hb hby at_9) rfl ?_
          show Steps _ _ _ (s₁.setTop (mkF m 10 #[iv q1, iv q2, iv q3, iv 0, iv 3, .unset, .unset, .unset, .unset] [(.int q3)])) _
          refine XS.iconst X0.here hx rfl (hb hby at_10) ?_
          show Steps _ _ _ (s₁.setTop (mkF m 11 #[iv q1, iv q2, iv q3, iv 0, iv 3, .unset, .unset, .unset, .unset] [(.int 1), (.int q3)])) _
          refine XS.iand X0.here hx rfl (hb hby at_11) rfl ?_
          show Steps _ _ _ (s₁.setTop (mkF m 12 #[iv q1, iv q2, iv q3, iv 0, iv 3, .unset, .unset, .unset, .unset] [(.int (q3 &&& (1 : Int32)))])) _
          rw [hs]
          show Steps _ _ _ (s₁.setTop (mkF m 12 #[iv q1, iv q2, iv q3, iv 0, iv 3, .unset, .unset, .unset, .unset] [(.int 1)])) _
          refine XS.ifNo X0.here hx rfl (hb hby at_12) rfl (by decide) ?_
          show Steps _ _ _ (s₁.setTop (mkF m 15 #[iv q1, iv q2, iv q3, iv 0, iv 3, .unset, .unset, .unset, .unset] [])) _
          refine XS.iconst X0.here hx rfl (hb hby at_15) ?_
          show Steps _ _ _ (s₁.setTop (mkF m 16 #[iv q1, iv q2, iv q3, iv 0, iv 3, .unset, .unset, .unset, .unset] [(.int 1)])) _
          refine XS.goto X0.here hx rfl (pc0 := 16) (pc' := 20) rfl (hb hby at_16) (by decide) (by decide) ?_
          show Steps _ _ _ (s₁.setTop (mkF m 20 #[iv q1, iv q2, iv q3, iv 0, iv 3, .unset, .unset, .unset, .unset] [(.int 1)])) _
          refine XS.istore X0.here hx rfl (hb hby at_20) rfl (l' := #[iv q1, iv q2, iv q3, iv 0, iv 3, iv 1, .unset, .unset, .unset]) rfl ?_
          show Steps _ _ _ (s₁.setTop (mkF m 22 #[iv q1, iv q2, iv q3, iv 0, iv 3, iv 1, .unset, .unset, .unset] [])) _
          refine XS.iloadN X0.here hx rfl (hb hby at_22) rfl ?_
          show Steps _ _ _ (s₁.setTop (mkF m 23 #[iv q1, iv q2, iv q3, iv 0, iv 3, iv 1, .unset, .unset, .unset] [(.int 0)])) _
          refine XS.iconst X0.here hx rfl (hb hby at_23) ?_
          show Steps _ _ _ (s₁.setTop (mkF m 24 #[iv q1, iv q2, iv q3, iv 0, iv 3, iv 1, .unset, .unset, .unset] [(.int 3), (.int 0)])) _
          refine XS.icmpNo X0.here hx rfl (hb hby at_24) rfl (by decide) ?_
          show Steps _ _ _ (s₁.setTop (mkF m 27 #[iv q1, iv q2, iv q3, iv 0, iv 3, iv 1, .unset, .unset, .unset] [])) _
          refine XS.iload X0.here hx rfl (hb hby at_27) rfl ?_
          show Steps _ _ _ (s₁.setTop (mkF m 29 #[iv q1, iv q2, iv q3, iv 0, iv 3, iv 1, .unset, .unset, .unset] [(.int 3)])) _
          refine XS.iconst X0.here hx rfl (hb hby at_29) ?_
          show Steps _ _ _ (s₁.setTop (mkF m 30 #[iv q1, iv q2, iv q3, iv 0, iv 3, iv 1, .unset, .unset, .unset] [(.int 3), (.int 3)])) _
          refine XS.icmpNo X0.here hx rfl (hb hby at_30) rfl (by decide) ?_
          show Steps _ _ _ (s₁.setTop (mkF m 33 #[iv q1, iv q2, iv q3, iv 0, iv 3, iv 1, .unset, .unset, .unset] [])) _
          refine XS.iconst X0.here hx rfl (hb hby at_33) ?_
          show Steps _ _ _ (s₁.setTop (mkF m 34 #[iv q1, iv q2, iv q3, iv 0, iv 3, iv 1, .unset, .unset, .unset] [(.int 0)])) _
          refine XS.istore X0.here hx rfl (hb hby at_34) rfl (l' := #[iv q1, iv q2, iv q3, iv 0, iv 3, iv 1, iv 0, .unset, .unset]) rfl ?_
          show Steps _ _ _ (s₁.setTop (mkF m 36 #[iv q1, iv q2, iv q3, iv 0, iv 3, iv 1, iv 0, .unset, .unset] [])) _
          refine XS.goto X0.here hx rfl (pc0 := 36) (pc' := 111) rfl (hb hby at_36) (by decide) (by decide) ?_
          show Steps _ _ _ (s₁.setTop (mkF m 111 #[iv q1, iv q2, iv q3, iv 0, iv 3, iv 1, iv 0, .unset, .unset] [])) _
          refine XS.iloadN X0.here hx rfl (hb hby at_111) rfl ?_
          show Steps _ _ _ (s₁.setTop (mkF m 112 #[iv q1, iv q2, iv q3, iv 0, iv 3, iv 1, iv 0, .unset, .unset] [(.int 0)])) _
          exact q
        obtain ⟨_, _, ⟨T486, L486, k486, n486⟩, -, X486, ⟨Lc486, hQ486, l486, y486, z486⟩, st486⟩ := Jvm.LawKit.callS X0 hx (y := y_2) hown (mvT hZ (hw _ (wd 0 rfl))) (mvT hZ (hw _ (wd 1 rfl))) (mvT hZ (hw _ (wd 2 rfl))) (mvT hZ (hw _ (wd 3 rfl))) (by decide) (backOf (W := 0) (kd l Z a0 hw [] a_NEXT_KEY a_GAP a_RECORD a_INSERT_INTENTION G (0 : Int32) 0 h0 n0 O0 (Or.inl ⟨by decide, rfl⟩)) hZ (hw _ (wd 3 rfl)) (hw _ (wd 2 rfl)) (by decide) (by decide)) (g := (mkF m 112 #[iv q1, iv q2, iv q3, iv 0, iv 3, iv 1, iv 0, .unset, .unset] [(.int 0)])) rfl (by rw [hml]; rfl) (argsL := [(.int 0)]) (rest := []) (lenOf pd_1 rfl) rfl (by show 2 * 0 + _ ≤ _; exact Nat.le_of_eq rfl) (hb hby at_112) (fun _ _ => ⟨rfl, e0, (by decide : 0 + 1 ≤ _), (by decide : 0 + 4 ≤ _)⟩)
        dsimp only [Pt.U, Pt.locs, Pt.cells, Pt.slots] at X486 l486 y486 z486 st486 hQ486
        subst l486 y486 z486
        obtain ⟨rfl, N486q, K486⟩ := hQ486
        have N486 := Fr.app N0 N486q
        have O_487 := O0.keep K486 all0
        have K_488 := K0.trans K486 all0
        have k_489 : Go p.tables e below (s₁.setTop (entryFrame m #[(.int q1), (.int q2), (.int q3)] maxLocals)) (T486.setTop (mkF m 117 #[iv q1, iv q2, iv q3, iv 0, iv 3, iv 1, iv 0, .unset, .unset] [(.int 3), (.ref a_NEXT_KEY)])) := fun t q => by
          refine k_485 t ?_
          refine st486 _ ?_
          show Steps _ _ _ (T486.setTop (mkF m 115 #[iv q1, iv q2, iv q3, iv 0, iv 3, iv 1, iv 0, .unset, .unset] [(.ref a_NEXT_KEY)])) _
          refine XS.iload X486.here hx rfl (hb hby at_115) rfl ?_
          show Steps _ _ _ (T486.setTop (mkF m 117 #[iv q1, iv q2, iv q3, iv 0, iv 3, iv 1, iv 0, .unset, .unset] [(.int 3), (.ref a_NEXT_KEY)])) _
          exact q
        obtain ⟨_, _, ⟨T490, L490, k490, n490⟩, -, X490, ⟨Lc490, hQ490, l490, y490, z490⟩, st490⟩ := Jvm.LawKit.callS X486 hx (y := y_2) hown (mvT hZ (hw _ (wd 0 rfl))) (mvT hZ (hw _ (wd 1 rfl))) (mvT hZ (hw _ (wd 2 rfl))) (mvT hZ (hw _ (wd 3 rfl))) (by decide) (backOf (W := 1) (kd l Z a0 hw [] a_NEXT_KEY a_GAP a_RECORD a_INSERT_INTENTION G (3 : Int32) 3 T486.heap n0 O_487 (Or.inr (Or.inr (Or.inr ⟨by decide, rfl⟩)))) hZ (hw _ (wd 3 rfl)) (hw _ (wd 2 rfl)) (by decide) (by decide)) (g := (mkF m 117 #[iv q1, iv q2, iv q3, iv 0, iv 3, iv 1, iv 0, .unset, .unset] [(.int 3), (.ref a_NEXT_KEY)])) rfl (by rw [hml]; rfl) (argsL := [(.int 3)]) (rest := [(.ref a_NEXT_KEY)]) (lenOf pd_1 rfl) rfl (by show 2 * 0 + _ ≤ _; exact Nat.le_of_eq rfl) (hb hby at_117) (fun _ _ => ⟨rfl, (rfl : T486.heap = _), (by decide : 1 + 1 ≤ _), (by decide : 4 + 4 ≤ _)⟩)
        dsimp only [Pt.U, Pt.locs, Pt.cells, Pt.slots] at X490 l490 y490 z490 st490 hQ490
        subst l490 y490 z490
        obtain ⟨rfl, N490q, K490⟩ := hQ490
        have N490 := Fr.app N486 N490q
        have O_491 := O_487.keep K490 all0
        have K_492 := K_488.trans K490 all0
        have k_493 : Go p.tables e below (s₁.setTop (entryFrame m #[(.int q1), (.int q2), (.int q3)] maxLocals)) (T490.setTop (mkF m 122 #[iv q1, iv q2, iv q3, iv 0, iv 3, iv 1, iv 0, .unset, .unset] [(.int 1), (.ref a_INSERT_INTENTION), (.ref a_NEXT_KEY)])) := fun t q => by
          refine k_489 t ?_
          refine st490 _ ?_
          show Steps _ _ _ (T490.setTop (mkF m 120 #[iv q1, iv q2, iv q3, iv 0, iv 3, iv 1, iv 0, .unset, .unset] [(.ref a_INSERT_INTENTION), (.ref a_NEXT_KEY)])) _
          refine XS.iload X490.here hx rfl (hb hby at_120) rfl ?_
          show Steps _ _ _ (T490.setTop (mkF m 122 #[iv q1, iv q2, iv q3, iv 0, iv 3, iv 1, iv 0, .unset, .unset] [(.int 1), (.ref a_INSERT_INTENTION), (.ref a_NEXT_KEY)])) _
          exact q
        obtain ⟨cq494, kq494, q494a, q494b, q494c⟩ := isOf hZ (rfl : T490.heap = _) (Exa.ext O_491.2 E_NEXT_KEY)
        obtain ⟨_, _, ⟨T494, L494, k494, n494⟩, -, X494, ⟨Lc494, hQ494, l494, y494, z494⟩, st494⟩ := X490.virtualBack hx (y := y_3) (z := y_3) hown (mvT hZ (hw _ (wd 16 rfl))) (mvT hZ (hw _ (wd 17 rfl))) (notFace_of_selects (args := #[]) (mvT hZ (hw _ (wd 19 rfl)))) (mvT hZ (hw _ (wd 19 rfl))) (mvT hZ (hw _ (wd 18 rfl))) (by decide) (backOf (W := 0) (cv_0_3_1 l Z a0 hw [] a_NEXT_KEY a_GAP a_RECORD a_INSERT_INTENTION G  T490.heap n0 O_491 ) hZ (hw _ (wd 20 rfl)) (hw _ (wd 7 rfl)) (by decide) (by decide)) q494a q494c (g := (mkF m 122 #[iv q1, iv q2, iv q3, iv 0, iv 3, iv 1, iv 0, .unset, .unset] [(.int 1), (.ref a_INSERT_INTENTION), (.ref a_NEXT_KEY)])) rfl (by rw [hml]; rfl) (Steps.refl _) (argsL := [(.ref a_INSERT_INTENTION), (.int 1)]) (rest := []) (lenOf pd_2 rfl) rfl (by show 2 * 0 + _ ≤ _; exact Nat.le_of_eq rfl) (hb hby at_122) (fun _ _ => ⟨rfl, (rfl : T490.heap = _), (by decide : 2 + 0 ≤ _), (by decide : 8 + 0 ≤ _)⟩)
        dsimp only [Pt.U, Pt.locs, Pt.cells, Pt.slots] at X494 l494 y494 z494 st494 hQ494
        subst l494 y494 z494
        obtain ⟨rfl, N494q, e494⟩ := hQ494
        have N494 := Fr.app N490 N494q
        have k_495 : Go p.tables e below (s₁.setTop (entryFrame m #[(.int q1), (.int q2), (.int q3)] maxLocals)) (T494.setTop (mkF m 139 #[iv q1, iv q2, iv q3, iv 0, iv 3, iv 1, iv 0, iv 0, .unset] [(.int 1)])) := fun t q => by
          refine k_493 t ?_
          refine st494.trans ?_
          show Steps _ _ _ (T494.setTop (mkF m 125 #[iv q1, iv q2, iv q3, iv 0, iv 3, iv 1, iv 0, .unset, .unset] [(.int 0)])) _
          refine XS.istore X494.here hx rfl (hb hby at_125) rfl (l' := #[iv q1, iv q2, iv q3, iv 0, iv 3, iv 1, iv 0, iv 0, .unset]) rfl ?_
          show Steps _ _ _ (T494.setTop (mkF m 127 #[iv q1, iv q2, iv q3, iv 0, iv 3, iv 1, iv 0, iv 0, .unset] [])) _
          refine XS.iload X494.here hx rfl (hb hby at_127) rfl ?_
          show Steps _ _ _ (T494.setTop (mkF m 129 #[iv q1, iv q2, iv q3, iv 0, iv 3, iv 1, iv 0, iv 0, .unset] [(.int 0)])) _
          refine XS.iload X494.here hx rfl (hb hby at_129) rfl ?_
          show Steps _ _ _ (T494.setTop (mkF m 131 #[iv q1, iv q2, iv q3, iv 0, iv 3, iv 1, iv 0, iv 0, .unset] [(.int 0), (.int 0)])) _
          refine XS.icmpNo X494.here hx rfl (hb hby at_131) rfl (by decide) ?_
          show Steps _ _ _ (T494.setTop (mkF m 134 #[iv q1, iv q2, iv q3, iv 0, iv 3, iv 1, iv 0, iv 0, .unset] [])) _
          refine XS.iconst X494.here hx rfl (hb hby at_134) ?_
          show Steps _ _ _ (T494.setTop (mkF m 135 #[iv q1, iv q2, iv q3, iv 0, iv 3, iv 1, iv 0, iv 0, .unset] [(.int 1)])) _
          refine XS.goto X494.here hx rfl (pc0 := 135) (pc' := 139) rfl (hb hby at_135) (by decide) (by decide) ?_
          show Steps _ _ _ (T494.setTop (mkF m 139 #[iv q1, iv q2, iv q3, iv 0, iv 3, iv 1, iv 0, iv 0, .unset] [(.int 1)])) _
          exact q
        obtain ⟨fs, hr, hrun, hended, hW, hsame⟩ := X494.leave (v := some (.int 1)) (fun h => by rw [Bd.returns] at h; cases h)
        refine ⟨_, _, k_495 _ ?_, hrun, hended, _, _, rfl, ?_, ⟨_, rfl⟩, hW, hsame.mono (by decide) (by decide)⟩
        · exact retN X494 hx (t := .boolean) Bd.returns (by simp) (hb hby at_139) hr
        · show Q0 n0 _ T494.heap _
          rw [e494]
          exact ⟨rfl, N494⟩
    · skip
      rcases own_mask_4 q2 with hj | hj | hj | hj
      · skip
        have k_496 : Go p.tables e below (s₁.setTop (entryFrame m #[(.int q1), (.int q2), (.int q3)] maxLocals)) (s₁.setTop (mkF m 112 #[iv q1, iv q2, iv q3, iv 1, iv 0, iv 1, iv 1, .unset, .unset] [(.int 1)])) := fun t q => by
          refine k0 t ?_
          refine XS.iloadN X0.here hx rfl (hb hby at_0) rfl ?_
          show Steps _ _ _ (s₁.setTop (mkF m 1 #[iv q1, iv q2, iv q3, .unset, .unset, .unset, .unset, .unset, .unset] [(.int q1)])) _
          refine XS.iconst X0.here hx rfl (hb hby at_1) ?_
          show Steps _ _ _ (s₁.setTop (mkF m 2 #[iv q1, iv q2, iv q3, .unset, .unset, .unset, .unset, .unset, .unset] [(.int 3), (.int q1)])) _
          refine XS.iand X0.here hx rfl (hb hby at_2) rfl ?_
          show Steps _ _ _ (s₁.setTop (mkF m 3 #[iv q1, iv q2, iv q3, .unset, .unset, .unset, .unset, .unset, .unset] [(.int (q1 &&& (3 : Int32)))])) _
          rw [hi]
          show Steps _ _ _ (s₁.setTop (mkF m 3 #[iv q1, iv q2, iv q3, .unset, .unset, .unset, .unset, .unset, .unset] [(.int 1)])) _
          refine XS.istoreN X0.here hx rfl (hb hby at_3) rfl (l' := #[iv q1, iv q2, iv q3, iv 1, .unset, .unset, .unset, .unset, .unset]) rfl ?_
          show Steps _ _ _ (s₁.setTop (mkF m 4 #[iv q1, iv q2, iv q3, iv 1, .unset, .unset, .unset, .unset, .unset] [])) _
          refine XS.iloadN X0.here hx rfl (hb hby at_4) rfl ?_
          show Steps _ _ _ (s₁.setTop (mkF m 5 #[iv q1, iv q2, iv q3, iv 1, .unset, .unset, .unset, .unset, .unset] [(.int q2)])) _
          refine XS.iconst X0.here hx rfl (hb hby at_5) ?_
          show Steps _ _ _ (s₁.setTop (mkF m 6 #[iv q1, iv q2, iv q3, iv 1, .unset, .unset, .unset, .unset, .unset] [(.int 3), (.int q2)])) _
          refine XS.iand X0.here hx rfl (hb hby at_6) rfl ?_
          show Steps _ _ _ (s₁.setTop (mkF m 7 #[iv q1, iv q2, iv q3, iv 1, .unset, .unset, .unset, .unset, .unset] [(.int (q2 &&& (3 : Int32)))])) _
          rw [hj]
          show Steps _ _ _ (s₁.setTop (mkF m 7 #[iv q1, iv q2, iv q3, iv 1, .unset, .unset, .unset, .unset, .unset] [(.int 0)])) _
          refine XS.istore X0.here hx rfl (hb hby at_7) rfl (l' := #[iv q1, iv q2, iv q3, iv 1, iv 0, .unset, .unset, .unset, .unset]) rfl ?_
          show Steps _ _ _ (s₁.setTop (mkF m 9 #[iv q1, iv q2, iv q3, iv 1, iv 0, .unset, .unset, .unset, .unset] [])) _
          refine XS.iloadN X0.here hx rfl (hb hby at_9) rfl ?_
          show Steps _ _ _ (s₁.setTop (mkF m 10 #[iv q1, iv q2, iv q3, iv 1, iv 0, .unset, .unset, .unset, .unset] [(.int q3)])) _
          refine XS.iconst X0.here hx rfl (hb hby at_10) ?_
          show Steps _ _ _ (s₁.setTop (mkF m 11 #[iv q1, iv q2, iv q3, iv 1, iv 0, .unset, .unset, .unset, .unset] [(.int 1), (.int q3)])) _
          refine XS.iand X0.here hx rfl (hb hby at_11) rfl ?_
          show Steps _ _ _ (s₁.setTop (mkF m 12 #[iv q1, iv q2, iv q3, iv 1, iv 0, .unset, .unset, .unset, .unset] [(.int (q3 &&& (1 : Int32)))])) _
          rw [hs]
          show Steps _ _ _ (s₁.setTop (mkF m 12 #[iv q1, iv q2, iv q3, iv 1, iv 0, .unset, .unset, .unset, .unset] [(.int 1)])) _
          refine XS.ifNo X0.here hx rfl (hb hby at_12) rfl (by decide) ?_
          show Steps _ _ _ (s₁.setTop (mkF m 15 #[iv q1, iv q2, iv q3, iv 1, iv 0, .unset, .unset, .unset, .unset] [])) _
          refine XS.iconst X0.here hx rfl (hb hby at_15) ?_
          show Steps _ _ _ (s₁.setTop (mkF m 16 #[iv q1, iv q2, iv q3, iv 1, iv 0, .unset, .unset, .unset, .unset] [(.int 1)])) _
          refine XS.goto X0.here hx rfl (pc0 := 16) (pc' := 20) rfl (hb hby at_16) (by decide) (by decide) ?_
          show Steps _ _ _ (s₁.setTop (mkF m 20 #[iv q1, iv q2, iv q3, iv 1, iv 0, .unset, .unset, .unset, .unset] [(.int 1)])) _
          refine XS.istore X0.here hx rfl (hb hby at_20) rfl (l' := #[iv q1, iv q2, iv q3, iv 1, iv 0, iv 1, .unset, .unset, .unset]) rfl ?_
          show Steps _ _ _ (s₁.setTop (mkF m 22 #[iv q1, iv q2, iv q3, iv 1, iv 0, iv 1, .unset, .unset, .unset] [])) _
          refine XS.iloadN X0.here hx rfl (hb hby at_22) rfl ?_
          show Steps _ _ _ (s₁.setTop (mkF m 23 #[iv q1, iv q2, iv q3, iv 1, iv 0, iv 1, .unset, .unset, .unset] [(.int 1)])) _
          refine XS.iconst X0.here hx rfl (hb hby at_23) ?_
          show Steps _ _ _ (s₁.setTop (mkF m 24 #[iv q1, iv q2, iv q3, iv 1, iv 0, iv 1, .unset, .unset, .unset] [(.int 3), (.int 1)])) _
          refine XS.icmpNo X0.here hx rfl (hb hby at_24) rfl (by decide) ?_
          show Steps _ _ _ (s₁.setTop (mkF m 27 #[iv q1, iv q2, iv q3, iv 1, iv 0, iv 1, .unset, .unset, .unset] [])) _
          refine XS.iload X0.here hx rfl (hb hby at_27) rfl ?_
          show Steps _ _ _ (s₁.setTop (mkF m 29 #[iv q1, iv q2, iv q3, iv 1, iv 0, iv 1, .unset, .unset, .unset] [(.int 0)])) _
          refine XS.iconst X0.here hx rfl (hb hby at_29) ?_
          show Steps _ _ _ (s₁.setTop (mkF m 30 #[iv q1, iv q2, iv q3, iv 1, iv 0, iv 1, .unset, .unset, .unset] [(.int 3), (.int 0)])) _
          refine XS.icmpYes X0.here hx rfl (pc0 := 30) (pc' := 39) rfl (hb hby at_30) rfl (by decide) (by decide) (by decide) ?_
          show Steps _ _ _ (s₁.setTop (mkF m 39 #[iv q1, iv q2, iv q3, iv 1, iv 0, iv 1, .unset, .unset, .unset] [])) _
          refine XS.iload X0.here hx rfl (hb hby at_39) rfl ?_
          show Steps _ _ _ (s₁.setTop (mkF m 41 #[iv q1, iv q2, iv q3, iv 1, iv 0, iv 1, .unset, .unset, .unset] [(.int 1)])) _
          refine XS.ifNo X0.here hx rfl (hb hby at_41) rfl (by decide) ?_
          show Steps _ _ _ (s₁.setTop (mkF m 44 #[iv q1, iv q2, iv q3, iv 1, iv 0, iv 1, .unset, .unset, .unset] [])) _
          refine XS.iconst X0.here hx rfl (hb hby at_44) ?_
          show Steps _ _ _ (s₁.setTop (mkF m 45 #[iv q1, iv q2, iv q3, iv 1, iv 0, iv 1, .unset, .unset, .unset] [(.int 1)])) _
          refine XS.istore X0.here hx rfl (hb hby at_45) rfl (l' := #[iv q1, iv q2, iv q3, iv 1, iv 0, iv 1, iv 1, .unset, .unset]) rfl ?_
          show Steps _ _ _ (s₁.setTop (mkF m 47 #[iv q1, iv q2, iv q3, iv 1, iv 0, iv 1, iv 1, .unset, .unset] [])) _
          refine XS.goto X0.here hx rfl (pc0 := 47) (pc' := 111) rfl (hb hby at_47) (by decide) (by decide) ?_
          show Steps _ _ _ (s₁.setTop (mkF m 111 #[iv q1, iv q2, iv q3, iv 1, iv 0, iv 1, iv 1, .unset, .unset] [])) _
          refine XS.iloadN X0.here hx rfl (hb hby at_111) rfl ?_
          show Steps _ _ _ (s₁.setTop (mkF m 112 #[iv q1, iv q2, iv q3, iv 1, iv 0, iv 1, iv 1, .unset, .unset] [(.int 1)])) _
          exact q
        obtain ⟨_, _, ⟨T497, L497, k497, n497⟩, -, X497, ⟨Lc497, hQ497, l497, y497, z497⟩, st497⟩ := Jvm.LawKit.callS X0 hx (y := y_2) hown (mvT hZ (hw _ (wd 0 rfl))) (mvT hZ (hw _ (wd 1 rfl))) (mvT hZ (hw _ (wd 2 rfl))) (mvT hZ (hw _ (wd 3 rfl))) (by decide) (backOf (W := 0) (kd l Z a0 hw [] a_NEXT_KEY a_GAP a_RECORD a_INSERT_INTENTION G (1 : Int32) 1 h0 n0 O0 (Or.inr (Or.inl ⟨by decide, rfl⟩))) hZ (hw _ (wd 3 rfl)) (hw _ (wd 2 rfl)) (by decide) (by decide)) (g := (mkF m 112 #[iv q1, iv q2, iv q3, iv 1, iv 0, iv 1, iv 1, .unset, .unset] [(.int 1)])) rfl (by rw [hml]; rfl) (argsL := [(.int 1)]) (rest := []) (lenOf pd_1 rfl) rfl (by show 2 * 0 + _ ≤ _; exact Nat.le_of_eq rfl) (hb hby at_112) (fun _ _ => ⟨rfl, e0, (by decide : 0 + 1 ≤ _), (by decide : 0 + 4 ≤ _)⟩)
        dsimp only [Pt.U, Pt.locs, Pt.cells, Pt.slots] at X497 l497 y497 z497 st497 hQ497
        subst l497 y497 z497
        obtain ⟨rfl, N497q, K497⟩ := hQ497
        have N497 := Fr.app N0 N497q
        have O_498 := O0.keep K497 all0
        have K_499 := K0.trans K497 all0
        have k_500 : Go p.tables e below (s₁.setTop (entryFrame m #[(.int q1), (.int q2), (.int q3)] maxLocals)) (T497.setTop (mkF m 117 #[iv q1, iv q2, iv q3, iv 1, iv 0, iv 1, iv 1, .unset, .unset] [(.int 0), (.ref a_GAP)])) := fun t q => by
          refine k_496 t ?_
          refine st497 _ ?_
          show Steps _ _ _ (T497.setTop (mkF m 115 #[iv q1, iv q2, iv q3, iv 1, iv 0, iv 1, iv 1, .unset, .unset] [(.ref a_GAP)])) _
          refine XS.iload X497.here hx rfl (hb hby at_115) rfl ?_
          show Steps _ _ _ (T497.setTop (mkF m 117 #[iv q1, iv q2, iv q3, iv 1, iv 0, iv 1, iv 1, .unset, .unset] [(.int 0), (.ref a_GAP)])) _
          exact q
        obtain ⟨_, _, ⟨T501, L501, k501, n501⟩, -, X501, ⟨Lc501, hQ501, l501, y501, z501⟩, st501⟩ := Jvm.LawKit.callS X497 hx (y := y_2) hown (mvT hZ (hw _ (wd 0 rfl))) (mvT hZ (hw _ (wd 1 rfl))) (mvT hZ (hw _ (wd 2 rfl))) (mvT hZ (hw _ (wd 3 rfl))) (by decide) (backOf (W := 1) (kd l Z a0 hw [] a_NEXT_KEY a_GAP a_RECORD a_INSERT_INTENTION G (0 : Int32) 0 T497.heap n0 O_498 (Or.inl ⟨by decide, rfl⟩)) hZ (hw _ (wd 3 rfl)) (hw _ (wd 2 rfl)) (by decide) (by decide)) (g := (mkF m 117 #[iv q1, iv q2, iv q3, iv 1, iv 0, iv 1, iv 1, .unset, .unset] [(.int 0), (.ref a_GAP)])) rfl (by rw [hml]; rfl) (argsL := [(.int 0)]) (rest := [(.ref a_GAP)]) (lenOf pd_1 rfl) rfl (by show 2 * 0 + _ ≤ _; exact Nat.le_of_eq rfl) (hb hby at_117) (fun _ _ => ⟨rfl, (rfl : T497.heap = _), (by decide : 1 + 1 ≤ _), (by decide : 4 + 4 ≤ _)⟩)
        dsimp only [Pt.U, Pt.locs, Pt.cells, Pt.slots] at X501 l501 y501 z501 st501 hQ501
        subst l501 y501 z501
        obtain ⟨rfl, N501q, K501⟩ := hQ501
        have N501 := Fr.app N497 N501q
        have O_502 := O_498.keep K501 all0
        have K_503 := K_499.trans K501 all0
        have k_504 : Go p.tables e below (s₁.setTop (entryFrame m #[(.int q1), (.int q2), (.int q3)] maxLocals)) (T501.setTop (mkF m 122 #[iv q1, iv q2, iv q3, iv 1, iv 0, iv 1, iv 1, .unset, .unset] [(.int 1), (.ref a_NEXT_KEY), (.ref a_GAP)])) := fun t q => by
          refine k_500 t ?_
          refine st501 _ ?_
          show Steps _ _ _ (T501.setTop (mkF m 120 #[iv q1, iv q2, iv q3, iv 1, iv 0, iv 1, iv 1, .unset, .unset] [(.ref a_NEXT_KEY), (.ref a_GAP)])) _
          refine XS.iload X501.here hx rfl (hb hby at_120) rfl ?_
          show Steps _ _ _ (T501.setTop (mkF m 122 #[iv q1, iv q2, iv q3, iv 1, iv 0, iv 1, iv 1, .unset, .unset] [(.int 1), (.ref a_NEXT_KEY), (.ref a_GAP)])) _
          exact q
        obtain ⟨cq505, kq505, q505a, q505b, q505c⟩ := isOf hZ (rfl : T501.heap = _) (Exa.ext O_502.2 E_GAP)
        obtain ⟨_, _, ⟨T505, L505, k505, n505⟩, -, X505, ⟨Lc505, hQ505, l505, y505, z505⟩, st505⟩ := X501.virtualBack hx (y := y_3) (z := y_3) hown (mvT hZ (hw _ (wd 16 rfl))) (mvT hZ (hw _ (wd 17 rfl))) (notFace_of_selects (args := #[]) (mvT hZ (hw _ (wd 19 rfl)))) (mvT hZ (hw _ (wd 19 rfl))) (mvT hZ (hw _ (wd 18 rfl))) (by decide) (backOf (W := 0) (cv_1_0_1 l Z a0 hw [] a_NEXT_KEY a_GAP a_RECORD a_INSERT_INTENTION G  T501.heap n0 O_502 ) hZ (hw _ (wd 20 rfl)) (hw _ (wd 7 rfl)) (by decide) (by decide)) q505a q505c (g := (mkF m 122 #[iv q1, iv q2, iv q3, iv 1, iv 0, iv 1, iv 1, .unset, .unset] [(.int 1), (.ref a_NEXT_KEY), (.ref a_GAP)])) rfl (by rw [hml]; rfl) (Steps.refl _) (argsL := [(.ref a_NEXT_KEY), (.int 1)]) (rest := []) (lenOf pd_2 rfl) rfl (by show 2 * 0 + _ ≤ _; exact Nat.le_of_eq rfl) (hb hby at_122) (fun _ _ => ⟨rfl, (rfl : T501.heap = _), (by decide : 2 + 0 ≤ _), (by decide : 8 + 0 ≤ _)⟩)
        dsimp only [Pt.U, Pt.locs, Pt.cells, Pt.slots] at X505 l505 y505 z505 st505 hQ505
        subst l505 y505 z505
        obtain ⟨rfl, N505q, e505⟩ := hQ505
        have N505 := Fr.app N501 N505q
        have k_506 : Go p.tables e below (s₁.setTop (entryFrame m #[(.int q1), (.int q2), (.int q3)] maxLocals)) (T505.setTop (mkF m 139 #[iv q1, iv q2, iv q3, iv 1, iv 0, iv 1, iv 1, iv 1, .unset] [(.int 1)])) := fun t q => by
          refine k_504 t ?_
          refine st505.trans ?_
          show Steps _ _ _ (T505.setTop (mkF m 125 #[iv q1, iv q2, iv q3, iv 1, iv 0, iv 1, iv 1, .unset, .unset] [(.int 1)])) _
          refine XS.istore X505.here hx rfl (hb hby at_125) rfl (l' := #[iv q1, iv q2, iv q3, iv 1, iv 0, iv 1, iv 1, iv 1, .unset]) rfl ?_
          show Steps _ _ _ (T505.setTop (mkF m 127 #[iv q1, iv q2, iv q3, iv 1, iv 0, iv 1, iv 1, iv 1, .unset] [])) _
          refine XS.iload X505.here hx rfl (hb hby at_127) rfl ?_
          show Steps _ _ _ (T505.setTop (mkF m 129 #[iv q1, iv q2, iv q3, iv 1, iv 0, iv 1, iv 1, iv 1, .unset] [(.int 1)])) _
          refine XS.iload X505.here hx rfl (hb hby at_129) rfl ?_
          show Steps _ _ _ (T505.setTop (mkF m 131 #[iv q1, iv q2, iv q3, iv 1, iv 0, iv 1, iv 1, iv 1, .unset] [(.int 1), (.int 1)])) _
          refine XS.icmpNo X505.here hx rfl (hb hby at_131) rfl (by decide) ?_
          show Steps _ _ _ (T505.setTop (mkF m 134 #[iv q1, iv q2, iv q3, iv 1, iv 0, iv 1, iv 1, iv 1, .unset] [])) _
          refine XS.iconst X505.here hx rfl (hb hby at_134) ?_
          show Steps _ _ _ (T505.setTop (mkF m 135 #[iv q1, iv q2, iv q3, iv 1, iv 0, iv 1, iv 1, iv 1, .unset] [(.int 1)])) _
          refine XS.goto X505.here hx rfl (pc0 := 135) (pc' := 139) rfl (hb hby at_135) (by decide) (by decide) ?_
          show Steps _ _ _ (T505.setTop (mkF m 139 #[iv q1, iv q2, iv q3, iv 1, iv 0, iv 1, iv 1, iv 1, .unset] [(.int 1)])) _
          exact q
        obtain ⟨fs, hr, hrun, hended, hW, hsame⟩ := X505.leave (v := some (.int 1)) (fun h => by rw [Bd.returns] at h; cases h)
        refine ⟨_, _, k_506 _ ?_, hrun, hended, _, _, rfl, ?_, ⟨_, rfl⟩, hW, hsame.mono (by decide) (by decide)⟩
        · exact retN X505 hx (t := .boolean) Bd.returns (by simp) (hb hby at_139) hr
        · show Q0 n0 _ T505.heap _
          rw [e505]
          exact ⟨rfl, N505⟩
      · skip
        have k_507 : Go p.tables e below (s₁.setTop (entryFrame m #[(.int q1), (.int q2), (.int q3)] maxLocals)) (s₁.setTop (mkF m 112 #[iv q1, iv q2, iv q3, iv 1, iv 1, iv 1, iv 1, .unset, .unset] [(.int 1)])) := fun t q => by
          refine k0 t ?_
          refine XS.iloadN X0.here hx rfl (hb hby at_0) rfl ?_
          show Steps _ _ _ (s₁.setTop (mkF m 1 #[iv q1, iv q2, iv q3, .unset, .unset, .unset, .unset, .unset, .unset] [(.int q1)])) _
          refine XS.iconst X0.here hx rfl (hb hby at_1) ?_
          show Steps _ _ _ (s₁.setTop (mkF m 2 #[iv q1, iv q2, iv q3, .unset, .unset, .unset, .unset, .unset, .unset] [(.int 3), (.int q1)])) _
          refine XS.iand X0.here hx rfl (hb hby at_2) rfl ?_
          show Steps _ _ _ (s₁.setTop (mkF m 3 #[iv q1, iv q2, iv q3, .unset, .unset, .unset, .unset, .unset, .unset] [(.int (q1 &&& (3 : Int32)))])) _
          rw [hi]
          show Steps _ _ _ (s₁.setTop (mkF m 3 #[iv q1, iv q2, iv q3, .unset, .unset, .unset, .unset, .unset, .unset] [(.int 1)])) _
          refine XS.istoreN X0.here hx rfl (hb hby at_3) rfl (l' := #[iv q1, iv q2, iv q3, iv 1, .unset, .unset, .unset, .unset, .unset]) rfl ?_
          show Steps _ _ _ (s₁.setTop (mkF m 4 #[iv q1, iv q2, iv q3, iv 1, .unset, .unset, .unset, .unset, .unset] [])) _
          refine XS.iloadN X0.here hx rfl (hb hby at_4) rfl ?_
          show Steps _ _ _ (s₁.setTop (mkF m 5 #[iv q1, iv q2, iv q3, iv 1, .unset, .unset, .unset, .unset, .unset] [(.int q2)])) _
          refine XS.iconst X0.here hx rfl (hb hby at_5) ?_
          show Steps _ _ _ (s₁.setTop (mkF m 6 #[iv q1, iv q2, iv q3, iv 1, .unset, .unset, .unset, .unset, .unset] [(.int 3), (.int q2)])) _
          refine XS.iand X0.here hx rfl (hb hby at_6) rfl ?_
          show Steps _ _ _ (s₁.setTop (mkF m 7 #[iv q1, iv q2, iv q3, iv 1, .unset, .unset, .unset, .unset, .unset] [(.int (q2 &&& (3 : Int32)))])) _
          rw [hj]
          show Steps _ _ _ (s₁.setTop (mkF m 7 #[iv q1, iv q2, iv q3, iv 1, .unset, .unset, .unset, .unset, .unset] [(.int 1)])) _
          refine XS.istore X0.here hx rfl (hb hby at_7) rfl (l' := #[iv q1, iv q2, iv q3, iv 1, iv 1, .unset, .unset, .unset, .unset]) rfl ?_
          show Steps _ _ _ (s₁.setTop (mkF m 9 #[iv q1, iv q2, iv q3, iv 1, iv 1, .unset, .unset, .unset, .unset] [])) _
          refine XS.iloadN X0.here hx rfl (hb hby at_9) rfl ?_
          show Steps _ _ _ (s₁.setTop (mkF m 10 #[iv q1, iv q2, iv q3, iv 1, iv 1, .unset, .unset, .unset, .unset] [(.int q3)])) _
          refine XS.iconst X0.here hx rfl (hb hby at_10) ?_
          show Steps _ _ _ (s₁.setTop (mkF m 11 #[iv q1, iv q2, iv q3, iv 1, iv 1, .unset, .unset, .unset, .unset] [(.int 1), (.int q3)])) _
          refine XS.iand X0.here hx rfl (hb hby at_11) rfl ?_
          show Steps _ _ _ (s₁.setTop (mkF m 12 #[iv q1, iv q2, iv q3, iv 1, iv 1, .unset, .unset, .unset, .unset] [(.int (q3 &&& (1 : Int32)))])) _
          rw [hs]
          show Steps _ _ _ (s₁.setTop (mkF m 12 #[iv q1, iv q2, iv q3, iv 1, iv 1, .unset, .unset, .unset, .unset] [(.int 1)])) _
          refine XS.ifNo X0.here hx rfl (hb hby at_12) rfl (by decide) ?_
          show Steps _ _ _ (s₁.setTop (mkF m 15 #[iv q1, iv q2, iv q3, iv 1, iv 1, .unset, .unset, .unset, .unset] [])) _
          refine XS.iconst X0.here hx rfl (hb hby at_15) ?_
          show Steps _ _ _ (s₁.setTop (mkF m 16 #[iv q1, iv q2, iv q3, iv 1, iv 1, .unset, .unset, .unset, .unset] [(.int 1)])) _
          refine XS.goto X0.here hx rfl (pc0 := 16) (pc' := 20) rfl (hb hby at_16) (by decide) (by decide) ?_
          show Steps _ _ _ (s₁.setTop (mkF m 20 #[iv q1, iv q2, iv q3, iv 1, iv 1, .unset, .unset, .unset, .unset] [(.int 1)])) _
          refine XS.istore X0.here hx rfl (hb hby at_20) rfl (l' := #[iv q1, iv q2, iv q3, iv 1, iv 1, iv 1, .unset, .unset, .unset]) rfl ?_
          show Steps _ _ _ (s₁.setTop (mkF m 22 #[iv q1, iv q2, iv q3, iv 1, iv 1, iv 1, .unset, .unset, .unset] [])) _
          refine XS.iloadN X0.here hx rfl (hb hby at_22) rfl ?_
          show Steps _ _ _ (s₁.setTop (mkF m 23 #[iv q1, iv q2, iv q3, iv 1, iv 1, iv 1, .unset, .unset, .unset] [(.int 1)])) _
          refine XS.iconst X0.here hx rfl (hb hby at_23) ?_
          show Steps _ _ _ (s₁.setTop (mkF m 24 #[iv q1, iv q2, iv q3, iv 1, iv 1, iv 1, .unset, .unset, .unset] [(.int 3), (.int 1)])) _
          refine XS.icmpNo X0.here hx rfl (hb hby at_24) rfl (by decide) ?_
          show Steps _ _ _ (s₁.setTop (mkF m 27 #[iv q1, iv q2, iv q3, iv 1, iv 1, iv 1, .unset, .unset, .unset] [])) _
          refine XS.iload X0.here hx rfl (hb hby at_27) rfl ?_
          show Steps _ _ _ (s₁.setTop (mkF m 29 #[iv q1, iv q2, iv q3, iv 1, iv 1, iv 1, .unset, .unset, .unset] [(.int 1)])) _
          refine XS.iconst X0.here hx rfl (hb hby at_29) ?_
          show Steps _ _ _ (s₁.setTop (mkF m 30 #[iv q1, iv q2, iv q3, iv 1, iv 1, iv 1, .unset, .unset, .unset] [(.int 3), (.int 1)])) _
          refine XS.icmpYes X0.here hx rfl (pc0 := 30) (pc' := 39) rfl (hb hby at_30) rfl (by decide) (by decide) (by decide) ?_
          show Steps _ _ _ (s₁.setTop (mkF m 39 #[iv q1, iv q2, iv q3, iv 1, iv 1, iv 1, .unset, .unset, .unset] [])) _
          refine XS.iload X0.here hx rfl (hb hby at_39) rfl ?_
          show Steps _ _ _ (s₁.setTop (mkF m 41 #[iv q1, iv q2, iv q3, iv 1, iv 1, iv 1, .unset, .unset, .unset] [(.int 1)])) _
          refine XS.ifNo X0.here hx rfl (hb hby at_41) rfl (by decide) ?_
          show Steps _ _ _ (s₁.setTop (mkF m 44 #[iv q1, iv q2, iv q3, iv 1, iv 1, iv 1, .unset, .unset, .unset] [])) _
          refine XS.iconst X0.here hx rfl (hb hby at_44) ?_
          show Steps _ _ _ (s₁.setTop (mkF m 45 #[iv q1, iv q2, iv q3, iv 1, iv 1, iv 1, .unset, .unset, .unset] [(.int 1)])) _
          refine XS.istore X0.here hx rfl (hb hby at_45) rfl (l' := #[iv q1, iv q2, iv q3, iv 1, iv 1, iv 1, iv 1, .unset, .unset]) rfl ?_
          show Steps _ _ _ (s₁.setTop (mkF m 47 #[iv q1, iv q2, iv q3, iv 1, iv 1, iv 1, iv 1, .unset, .unset] [])) _
          refine XS.goto X0.here hx rfl (pc0 := 47) (pc' := 111) rfl (hb hby at_47) (by decide) (by decide) ?_
          show Steps _ _ _ (s₁.setTop (mkF m 111 #[iv q1, iv q2, iv q3, iv 1, iv 1, iv 1, iv 1, .unset, .unset] [])) _
          refine XS.iloadN X0.here hx rfl (hb hby at_111) rfl ?_
          show Steps _ _ _ (s₁.setTop (mkF m 112 #[iv q1, iv q2, iv q3, iv 1, iv 1, iv 1, iv 1, .unset, .unset] [(.int 1)])) _
          exact q
        obtain ⟨_, _, ⟨T508, L508, k508, n508⟩, -, X508, ⟨Lc508, hQ508, l508, y508, z508⟩, st508⟩ := Jvm.LawKit.callS X0 hx (y := y_2) hown (mvT hZ (hw _ (wd 0 rfl))) (mvT hZ (hw _ (wd 1 rfl))) (mvT hZ (hw _ (wd 2 rfl))) (mvT hZ (hw _ (wd 3 rfl))) (by decide) (backOf (W := 0) (kd l Z a0 hw [] a_NEXT_KEY a_GAP a_RECORD a_INSERT_INTENTION G (1 : Int32) 1 h0 n0 O0 (Or.inr (Or.inl ⟨by decide, rfl⟩))) hZ (hw _ (wd 3 rfl)) (hw _ (wd 2 rfl)) (by decide) (by decide)) (g := (mkF m 112 #[iv q1, iv q2, iv q3, iv 1, iv 1, iv 1, iv 1, .unset, .unset] [(.int 1)])) rfl (by rw [hml]; rfl) (argsL := [(.int 1)]) (rest := []) (lenOf pd_1 rfl) rfl (by show 2 * 0 + _ ≤ _; exact Nat.le_of_eq rfl) (hb hby at_112) (fun _ _ => ⟨rfl, e0, (by decide : 0 + 1 ≤ _), (by decide : 0 + 4 ≤ _)⟩)
        dsimp only [Pt.U, Pt.locs, Pt.cells, Pt.slots] at X508 l508 y508 z508 st508 hQ508
        subst l508 y508 z508
        obtain ⟨rfl, N508q, K508⟩ := hQ508
        have N508 := Fr.app N0 N508q
        have O_509 := O0.keep K508 all0
        have K_510 := K0.trans K508 all0
        have k_511 : Go p.tables e below (s₁.setTop (entryFrame m #[(.int q1), (.int q2), (.int q3)] maxLocals)) (T508.setTop (mkF m 117 #[iv q1, iv q2, iv q3, iv 1, iv 1, iv 1, iv 1, .unset, .unset] [(.int 1), (.ref a_GAP)])) := fun t q => by
          refine k_507 t ?_
          refine st508 _ ?_
          show Steps _ _ _ (T508.setTop (mkF m 115 #[iv q1, iv q2, iv q3, iv 1, iv 1, iv 1, iv 1, .unset, .unset] [(.ref a_GAP)])) _
          refine XS.iload X508.here hx rfl (hb hby at_115) rfl ?_
          show Steps _ _ _ (T508.setTop (mkF m 117 #[iv q1, iv q2, iv q3, iv 1, iv 1, iv 1, iv 1, .unset, .unset] [(.int 1), (.ref a_GAP)])) _
          exact q
        obtain ⟨_, _, ⟨T512, L512, k512, n512⟩, -, X512, ⟨Lc512, hQ512, l512, y512, z512⟩, st512⟩ := Jvm.LawKit.callS X508 hx (y := y_2) hown (mvT hZ (hw _ (wd 0 rfl))) (mvT hZ (hw _ (wd 1 rfl))) (mvT hZ (hw _ (wd 2 rfl))) (mvT hZ (hw _ (wd 3 rfl))) (by decide) (backOf (W := 1) (kd l Z a0 hw [] a_NEXT_KEY a_GAP a_RECORD a_INSERT_INTENTION G (1 : Int32) 1 T508.heap n0 O_509 (Or.inr (Or.inl ⟨by decide, rfl⟩))) hZ (hw _ (wd 3 rfl)) (hw _ (wd 2 rfl)) (by decide) (by decide)) (g := (mkF m 117 #[iv q1, iv q2, iv q3, iv 1, iv 1, iv 1, iv 1, .unset, .unset] [(.int 1), (.ref a_GAP)])) rfl (by rw [hml]; rfl) (argsL := [(.int 1)]) (rest := [(.ref a_GAP)]) (lenOf pd_1 rfl) rfl (by show 2 * 0 + _ ≤ _; exact Nat.le_of_eq rfl) (hb hby at_117) (fun _ _ => ⟨rfl, (rfl : T508.heap = _), (by decide : 1 + 1 ≤ _), (by decide : 4 + 4 ≤ _)⟩)
        dsimp only [Pt.U, Pt.locs, Pt.cells, Pt.slots] at X512 l512 y512 z512 st512 hQ512
        subst l512 y512 z512
        obtain ⟨rfl, N512q, K512⟩ := hQ512
        have N512 := Fr.app N508 N512q
        have O_513 := O_509.keep K512 all0
        have K_514 := K_510.trans K512 all0
        have k_515 : Go p.tables e below (s₁.setTop (entryFrame m #[(.int q1), (.int q2), (.int q3)] maxLocals)) (T512.setTop (mkF m 122 #[iv q1, iv q2, iv q3, iv 1, iv 1, iv 1, iv 1, .unset, .unset] [(.int 1), (.ref a_GAP), (.ref a_GAP)])) := fun t q => by
          refine k_511 t ?_
          refine st512 _ ?_
          show Steps _ _ _ (T512.setTop (mkF m 120 #[iv q1, iv q2, iv q3, iv 1, iv 1, iv 1, iv 1, .unset, .unset] [(.ref a_GAP), (.ref a_GAP)])) _
          refine XS.iload X512.here hx rfl (hb hby at_120) rfl ?_
          show Steps _ _ _ (T512.setTop (mkF m 122 #[iv q1, iv q2, iv q3, iv 1, iv 1, iv 1, iv 1, .unset, .unset] [(.int 1), (.ref a_GAP), (.ref a_GAP)])) _
          exact q
        obtain ⟨cq516, kq516, q516a, q516b, q516c⟩ := isOf hZ (rfl : T512.heap = _) (Exa.ext O_513.2 E_GAP)
        obtain ⟨_, _, ⟨T516, L516, k516, n516⟩, -, X516, ⟨Lc516, hQ516, l516, y516, z516⟩, st516⟩ := X512.virtualBack hx (y := y_3) (z := y_3) hown (mvT hZ (hw _ (wd 16 rfl))) (mvT hZ (hw _ (wd 17 rfl))) (notFace_of_selects (args := #[]) (mvT hZ (hw _ (wd 19 rfl)))) (mvT hZ (hw _ (wd 19 rfl))) (mvT hZ (hw _ (wd 18 rfl))) (by decide) (backOf (W := 0) (cv_1_1_1 l Z a0 hw [] a_NEXT_KEY a_GAP a_RECORD a_INSERT_INTENTION G  T512.heap n0 O_513 ) hZ (hw _ (wd 20 rfl)) (hw _ (wd 7 rfl)) (by decide) (by decide)) q516a q516c (g := (mkF m 122 #[iv q1, iv q2, iv q3, iv 1, iv 1, iv 1, iv 1, .unset, .unset] [(.int 1), (.ref a_GAP), (.ref a_GAP)])) rfl (by rw [hml]; rfl) (Steps.refl _) (argsL := [(.ref a_GAP), (.int 1)]) (rest := []) (lenOf pd_2 rfl) rfl (by show 2 * 0 + _ ≤ _; exact Nat.le_of_eq rfl) (hb hby at_122) (fun _ _ => ⟨rfl, (rfl : T512.heap = _), (by decide : 2 + 0 ≤ _), (by decide : 8 + 0 ≤ _)⟩)
        dsimp only [Pt.U, Pt.locs, Pt.cells, Pt.slots] at X516 l516 y516 z516 st516 hQ516
        subst l516 y516 z516
        obtain ⟨rfl, N516q, e516⟩ := hQ516
        have N516 := Fr.app N512 N516q
        have k_517 : Go p.tables e below (s₁.setTop (entryFrame m #[(.int q1), (.int q2), (.int q3)] maxLocals)) (T516.setTop (mkF m 139 #[iv q1, iv q2, iv q3, iv 1, iv 1, iv 1, iv 1, iv 1, .unset] [(.int 1)])) := fun t q => by
          refine k_515 t ?_
          refine st516.trans ?_
          show Steps _ _ _ (T516.setTop (mkF m 125 #[iv q1, iv q2, iv q3, iv 1, iv 1, iv 1, iv 1, .unset, .unset] [(.int 1)])) _
          refine XS.istore X516.here hx rfl (hb hby at_125) rfl (l' := #[iv q1, iv q2, iv q3, iv 1, iv 1, iv 1, iv 1, iv 1, .unset]) rfl ?_
          show Steps _ _ _ (T516.setTop (mkF m 127 #[iv q1, iv q2, iv q3, iv 1, iv 1, iv 1, iv 1, iv 1, .unset] [])) _
          refine XS.iload X516.here hx rfl (hb hby at_127) rfl ?_
          show Steps _ _ _ (T516.setTop (mkF m 129 #[iv q1, iv q2, iv q3, iv 1, iv 1, iv 1, iv 1, iv 1, .unset] [(.int 1)])) _
          refine XS.iload X516.here hx rfl (hb hby at_129) rfl ?_
          show Steps _ _ _ (T516.setTop (mkF m 131 #[iv q1, iv q2, iv q3, iv 1, iv 1, iv 1, iv 1, iv 1, .unset] [(.int 1), (.int 1)])) _
          refine XS.icmpNo X516.here hx rfl (hb hby at_131) rfl (by decide) ?_
          show Steps _ _ _ (T516.setTop (mkF m 134 #[iv q1, iv q2, iv q3, iv 1, iv 1, iv 1, iv 1, iv 1, .unset] [])) _
          refine XS.iconst X516.here hx rfl (hb hby at_134) ?_
          show Steps _ _ _ (T516.setTop (mkF m 135 #[iv q1, iv q2, iv q3, iv 1, iv 1, iv 1, iv 1, iv 1, .unset] [(.int 1)])) _
          refine XS.goto X516.here hx rfl (pc0 := 135) (pc' := 139) rfl (hb hby at_135) (by decide) (by decide) ?_
          show Steps _ _ _ (T516.setTop (mkF m 139 #[iv q1, iv q2, iv q3, iv 1, iv 1, iv 1, iv 1, iv 1, .unset] [(.int 1)])) _
          exact q
        obtain ⟨fs, hr, hrun, hended, hW, hsame⟩ := X516.leave (v := some (.int 1)) (fun h => by rw [Bd.returns] at h; cases h)
        refine ⟨_, _, k_517 _ ?_, hrun, hended, _, _, rfl, ?_, ⟨_, rfl⟩, hW, hsame.mono (by decide) (by decide)⟩
        · exact retN X516 hx (t := .boolean) Bd.returns (by simp) (hb hby at_139) hr
        · show Q0 n0 _ T516.heap _
          rw [e516]
          exact ⟨rfl, N516⟩
      · skip
        have k_518 : Go p.tables e below (s₁.setTop (entryFrame m #[(.int q1), (.int q2), (.int q3)] maxLocals)) (s₁.setTop (mkF m 112 #[iv q1, iv q2, iv q3, iv 1, iv 2, iv 1, iv 1, .unset, .unset] [(.int 1)])) := fun t q => by
          refine k0 t ?_
          refine XS.iloadN X0.here hx rfl (hb hby at_0) rfl ?_
          show Steps _ _ _ (s₁.setTop (mkF m 1 #[iv q1, iv q2, iv q3, .unset, .unset, .unset, .unset, .unset, .unset] [(.int q1)])) _
          refine XS.iconst X0.here hx rfl (hb hby at_1) ?_
          show Steps _ _ _ (s₁.setTop (mkF m 2 #[iv q1, iv q2, iv q3, .unset, .unset, .unset, .unset, .unset, .unset] [(.int 3), (.int q1)])) _
          refine XS.iand X0.here hx rfl (hb hby at_2) rfl ?_
          show Steps _ _ _ (s₁.setTop (mkF m 3 #[iv q1, iv q2, iv q3, .unset, .unset, .unset, .unset, .unset, .unset] [(.int (q1 &&& (3 : Int32)))])) _
          rw [hi]
          show Steps _ _ _ (s₁.setTop (mkF m 3 #[iv q1, iv q2, iv q3, .unset, .unset, .unset, .unset, .unset, .unset] [(.int 1)])) _
          refine XS.istoreN X0.here hx rfl (hb hby at_3) rfl (l' := #[iv q1, iv q2, iv q3, iv 1, .unset, .unset, .unset, .unset, .unset]) rfl ?_
          show Steps _ _ _ (s₁.setTop (mkF m 4 #[iv q1, iv q2, iv q3, iv 1, .unset, .unset, .unset, .unset, .unset] [])) _
          refine XS.iloadN X0.here hx rfl (hb hby at_4) rfl ?_
          show Steps _ _ _ (s₁.setTop (mkF m 5 #[iv q1, iv q2, iv q3, iv 1, .unset, .unset, .unset, .unset, .unset] [(.int q2)])) _
          refine XS.iconst X0.here hx rfl (hb hby at_5) ?_
          show Steps _ _ _ (s₁.setTop (mkF m 6 #[iv q1, iv q2, iv q3, iv 1, .unset, .unset, .unset, .unset, .unset] [(.int 3), (.int q2)])) _
          refine XS.iand X0.here hx rfl (hb hby at_6) rfl ?_
          show Steps _ _ _ (s₁.setTop (mkF m 7 #[iv q1, iv q2, iv q3, iv 1, .unset, .unset, .unset, .unset, .unset] [(.int (q2 &&& (3 : Int32)))])) _
          rw [hj]
          show Steps _ _ _ (s₁.setTop (mkF m 7 #[iv q1, iv q2, iv q3, iv 1, .unset, .unset, .unset, .unset, .unset] [(.int 2)])) _
          refine XS.istore X0.here hx rfl (hb hby at_7) rfl (l' := #[iv q1, iv q2, iv q3, iv 1, iv 2, .unset, .unset, .unset, .unset]) rfl ?_
          show Steps _ _ _ (s₁.setTop (mkF m 9 #[iv q1, iv q2, iv q3, iv 1, iv 2, .unset, .unset, .unset, .unset] [])) _
          refine XS.iloadN X0.here hx rfl (hb hby at_9) rfl ?_
          show Steps _ _ _ (s₁.setTop (mkF m 10 #[iv q1, iv q2, iv q3, iv 1, iv 2, .unset, .unset, .unset, .unset] [(.int q3)])) _
          refine XS.iconst X0.here hx rfl (hb hby at_10) ?_
          show Steps _ _ _ (s₁.setTop (mkF m 11 #[iv q1, iv q2, iv q3, iv 1, iv 2, .unset, .unset, .unset, .unset] [(.int 1), (.int q3)])) _
          refine XS.iand X0.here hx rfl (hb hby at_11) rfl ?_
          show Steps _ _ _ (s₁.setTop (mkF m 12 #[iv q1, iv q2, iv q3, iv 1, iv 2, .unset, .unset, .unset, .unset] [(.int (q3 &&& (1 : Int32)))])) _
          rw [hs]
          show Steps _ _ _ (s₁.setTop (mkF m 12 #[iv q1, iv q2, iv q3, iv 1, iv 2, .unset, .unset, .unset, .unset] [(.int 1)])) _
          refine XS.ifNo X0.here hx rfl (hb hby at_12) rfl (by decide) ?_
          show Steps _ _ _ (s₁.setTop (mkF m 15 #[iv q1, iv q2, iv q3, iv 1, iv 2, .unset, .unset, .unset, .unset] [])) _
          refine XS.iconst X0.here hx rfl (hb hby at_15) ?_
          show Steps _ _ _ (s₁.setTop (mkF m 16 #[iv q1, iv q2, iv q3, iv 1, iv 2, .unset, .unset, .unset, .unset] [(.int 1)])) _
          refine XS.goto X0.here hx rfl (pc0 := 16) (pc' := 20) rfl (hb hby at_16) (by decide) (by decide) ?_
          show Steps _ _ _ (s₁.setTop (mkF m 20 #[iv q1, iv q2, iv q3, iv 1, iv 2, .unset, .unset, .unset, .unset] [(.int 1)])) _
          refine XS.istore X0.here hx rfl (hb hby at_20) rfl (l' := #[iv q1, iv q2, iv q3, iv 1, iv 2, iv 1, .unset, .unset, .unset]) rfl ?_
          show Steps _ _ _ (s₁.setTop (mkF m 22 #[iv q1, iv q2, iv q3, iv 1, iv 2, iv 1, .unset, .unset, .unset] [])) _
          refine XS.iloadN X0.here hx rfl (hb hby at_22) rfl ?_
          show Steps _ _ _ (s₁.setTop (mkF m 23 #[iv q1, iv q2, iv q3, iv 1, iv 2, iv 1, .unset, .unset, .unset] [(.int 1)])) _
          refine XS.iconst X0.here hx rfl (hb hby at_23) ?_
          show Steps _ _ _ (s₁.setTop (mkF m 24 #[iv q1, iv q2, iv q3, iv 1, iv 2, iv 1, .unset, .unset, .unset] [(.int 3), (.int 1)])) _
          refine XS.icmpNo X0.here hx rfl (hb hby at_24) rfl (by decide) ?_
          show Steps _ _ _ (s₁.setTop (mkF m 27 #[iv q1, iv q2, iv q3, iv 1, iv 2, iv 1, .unset, .unset, .unset] [])) _
          refine XS.iload X0.here hx rfl (hb hby at_27) rfl ?_
          show Steps _ _ _ (s₁.setTop (mkF m 29 #[iv q1, iv q2, iv q3, iv 1, iv 2, iv 1, .unset, .unset, .unset] [(.int 2)])) _
          refine XS.iconst X0.here hx rfl (hb hby at_29) ?_
          show Steps _ _ _ (s₁.setTop (mkF m 30 #[iv q1, iv q2, iv q3, iv 1, iv 2, iv 1, .unset, .unset, .unset] [(.int 3), (.int 2)])) _
          refine XS.icmpYes X0.here hx rfl (pc0 := 30) (pc' := 39) rfl (hb hby at_30) rfl (by decide) (by decide) (by decide) ?_
          show Steps _ _ _ (s₁.setTop (mkF m 39 #[iv q1, iv q2, iv q3, iv 1, iv 2, iv 1, .unset, .unset, .unset] [])) _
          refine XS.iload X0.here hx rfl (hb hby at_39) rfl ?_
          show Steps _ _ _ (s₁.setTop (mkF m 41 #[iv q1, iv q2, iv q3, iv 1, iv 2, iv 1, .unset, .unset, .unset] [(.int 1)])) _
          refine XS.ifNo X0.here hx rfl (hb hby at_41) rfl (by decide) ?_
          show Steps _ _ _ (s₁.setTop (mkF m 44 #[iv q1, iv q2, iv q3, iv 1, iv 2, iv 1, .unset, .unset, .unset] [])) _
          refine XS.iconst X0.here hx rfl (hb hby at_44) ?_
          show Steps _ _ _ (s₁.setTop (mkF m 45 #[iv q1, iv q2, iv q3, iv 1, iv 2, iv 1, .unset, .unset, .unset] [(.int 1)])) _
          refine XS.istore X0.here hx rfl (hb hby at_45) rfl (l' := #[iv q1, iv q2, iv q3, iv 1, iv 2, iv 1, iv 1, .unset, .unset]) rfl ?_
          show Steps _ _ _ (s₁.setTop (mkF m 47 #[iv q1, iv q2, iv q3, iv 1, iv 2, iv 1, iv 1, .unset, .unset] [])) _
          refine XS.goto X0.here hx rfl (pc0 := 47) (pc' := 111) rfl (hb hby at_47) (by decide) (by decide) ?_
          show Steps _ _ _ (s₁.setTop (mkF m 111 #[iv q1, iv q2, iv q3, iv 1, iv 2, iv 1, iv 1, .unset, .unset] [])) _
          refine XS.iloadN X0.here hx rfl (hb hby at_111) rfl ?_
          show Steps _ _ _ (s₁.setTop (mkF m 112 #[iv q1, iv q2, iv q3, iv 1, iv 2, iv 1, iv 1, .unset, .unset] [(.int 1)])) _
          exact q
        obtain ⟨_, _, ⟨T519, L519, k519, n519⟩, -, X519, ⟨Lc519, hQ519, l519, y519, z519⟩, st519⟩ := Jvm.LawKit.callS X0 hx (y := y_2) hown (mvT hZ (hw _ (wd 0 rfl))) (mvT hZ (hw _ (wd 1 rfl))) (mvT hZ (hw _ (wd 2 rfl))) (mvT hZ (hw _ (wd 3 rfl))) (by decide) (backOf (W := 0) (kd l Z a0 hw [] a_NEXT_KEY a_GAP a_RECORD a_INSERT_INTENTION G (1 : Int32) 1 h0 n0 O0 (Or.inr (Or.inl ⟨by decide, rfl⟩))) hZ (hw _ (wd 3 rfl)) (hw _ (wd 2 rfl)) (by decide) (by decide)) (g := (mkF m 112 #[iv q1, iv q2, iv q3, iv 1, iv 2, iv 1, iv 1, .unset, .unset] [(.int 1)])) rfl (by rw [hml]; rfl) (argsL := [(.int 1)]) (rest := []) (lenOf pd_1 rfl) rfl (by show 2 * 0 + _ ≤ _; exact Nat.le_of_eq rfl) (hb hby at_112) (fun _ _ => ⟨rfl, e0, (by decide : 0 + 1 ≤ _), (by decide : 0 + 4 ≤ _)⟩)
        dsimp only [Pt.U, Pt.locs, Pt.cells, Pt.slots] at X519 l519 y519 z519 st519 hQ519
        subst l519 y519 z519
        obtain ⟨rfl, N519q, K519⟩ := hQ519
        have N519 := Fr.app N0 N519q
        have O_520 := O0.keep K519 all0
        have K_521 := K0.trans K519 all0
        have k_522 : Go p.tables e below (s₁.setTop (entryFrame m #[(.int q1), (.int q2), (.int q3)] maxLocals)) (T519.setTop (mkF m 117 #[iv q1, iv q2, iv q3, iv 1, iv 2, iv 1, iv 1, .unset, .unset] [(.int 2), (.ref a_GAP)])) := fun t q => by
          refine k_518 t ?_
          refine st519 _ ?_
          show Steps _ _ _ (T519.setTop (mkF m 115 #[iv q1, iv q2, iv q3, iv 1, iv 2, iv 1, iv 1, .unset, .unset] [(.ref a_GAP)])) _
          refine XS.iload X519.here hx rfl (hb hby at_115) rfl ?_
          show Steps _ _ _ (T519.setTop (mkF m 117 #[iv q1, iv q2, iv q3, iv 1, iv 2, iv 1, iv 1, .unset, .unset] [(.int 2), (.ref a_GAP)])) _
          exact q
        obtain ⟨_, _, ⟨T523, L523, k523, n523⟩, -, X523, ⟨Lc523, hQ523, l523, y523, z523⟩, st523⟩ := Jvm.LawKit.callS X519 hx (y := y_2) hown (mvT hZ (hw _ (wd 0 rfl))) (mvT hZ (hw _ (wd 1 rfl))) (mvT hZ (hw _ (wd 2 rfl))) (mvT hZ (hw _ (wd 3 rfl))) (by decide) (backOf (W := 1) (kd l Z a0 hw [] a_NEXT_KEY a_GAP a_RECORD a_INSERT_INTENTION G (2 : Int32) 2 T519.heap n0 O_520 (Or.inr (Or.inr (Or.inl ⟨by decide, rfl⟩)))) hZ (hw _ (wd 3 rfl)) (hw _ (wd 2 rfl)) (by decide) (by decide)) (g := (mkF m 117 #[iv q1, iv q2, iv q3, iv 1, iv 2, iv 1, iv 1, .unset, .unset] [(.int 2), (.ref a_GAP)])) rfl (by rw [hml]; rfl) (argsL := [(.int 2)]) (rest := [(.ref a_GAP)]) (lenOf pd_1 rfl) rfl (by show 2 * 0 + _ ≤ _; exact Nat.le_of_eq rfl) (hb hby at_117) (fun _ _ => ⟨rfl, (rfl : T519.heap = _), (by decide : 1 + 1 ≤ _), (by decide : 4 + 4 ≤ _)⟩)
        dsimp only [Pt.U, Pt.locs, Pt.cells, Pt.slots] at X523 l523 y523 z523 st523 hQ523
        subst l523 y523 z523
        obtain ⟨rfl, N523q, K523⟩ := hQ523
        have N523 := Fr.app N519 N523q
        have O_524 := O_520.keep K523 all0
        have K_525 := K_521.trans K523 all0
        have k_526 : Go p.tables e below (s₁.setTop (entryFrame m #[(.int q1), (.int q2), (.int q3)] maxLocals)) (T523.setTop (mkF m 122 #[iv q1, iv q2, iv q3, iv 1, iv 2, iv 1, iv 1, .unset, .unset] [(.int 1), (.ref a_RECORD), (.ref a_GAP)])) := fun t q => by
          refine k_522 t ?_
          refine st523 _ ?_
          show Steps _ _ _ (T523.setTop (mkF m 120 #[iv q1, iv q2, iv q3, iv 1, iv 2, iv 1, iv 1, .unset, .unset] [(.ref a_RECORD), (.ref a_GAP)])) _
          refine XS.iload X523.here hx rfl (hb hby at_120) rfl ?_
          show Steps _ _ _ (T523.setTop (mkF m 122 #[iv q1, iv q2, iv q3, iv 1, iv 2, iv 1, iv 1, .unset, .unset] [(.int 1), (.ref a_RECORD), (.ref a_GAP)])) _
          exact q
        obtain ⟨cq527, kq527, q527a, q527b, q527c⟩ := isOf hZ (rfl : T523.heap = _) (Exa.ext O_524.2 E_GAP)
        obtain ⟨_, _, ⟨T527, L527, k527, n527⟩, -, X527, ⟨Lc527, hQ527, l527, y527, z527⟩, st527⟩ := X523.virtualBack hx (y := y_3) (z := y_3) hown (mvT hZ (hw _ (wd 16 rfl))) (mvT hZ (hw _ (wd 17 rfl))) (notFace_of_selects (args := #[]) (mvT hZ (hw _ (wd 19 rfl)))) (mvT hZ (hw _ (wd 19 rfl))) (mvT hZ (hw _ (wd 18 rfl))) (by decide) (backOf (W := 0) (cv_1_2_1 l Z a0 hw [] a_NEXT_KEY a_GAP a_RECORD a_INSERT_INTENTION G  T523.heap n0 O_524 ) hZ (hw _ (wd 20 rfl)) (hw _ (wd 7 rfl)) (by decide) (by decide)) q527a q527c (g := (mkF m 122 #[iv q1, iv q2, iv q3, iv 1, iv 2, iv 1, iv 1, .unset, .unset] [(.int 1), (.ref a_RECORD), (.ref a_GAP)])) rfl (by rw [hml]; rfl) (Steps.refl _) (argsL := [(.ref a_RECORD), (.int 1)]) (rest := []) (lenOf pd_2 rfl) rfl (by show 2 * 0 + _ ≤ _; exact Nat.le_of_eq rfl) (hb hby at_122) (fun _ _ => ⟨rfl, (rfl : T523.heap = _), (by decide : 2 + 0 ≤ _), (by decide : 8 + 0 ≤ _)⟩)
        dsimp only [Pt.U, Pt.locs, Pt.cells, Pt.slots] at X527 l527 y527 z527 st527 hQ527
        subst l527 y527 z527
        obtain ⟨rfl, N527q, e527⟩ := hQ527
        have N527 := Fr.app N523 N527q
        have k_528 : Go p.tables e below (s₁.setTop (entryFrame m #[(.int q1), (.int q2), (.int q3)] maxLocals)) (T527.setTop (mkF m 139 #[iv q1, iv q2, iv q3, iv 1, iv 2, iv 1, iv 1, iv 1, .unset] [(.int 1)])) := fun t q => by
          refine k_526 t ?_
          refine st527.trans ?_
          show Steps _ _ _ (T527.setTop (mkF m 125 #[iv q1, iv q2, iv q3, iv 1, iv 2, iv 1, iv 1, .unset, .unset] [(.int 1)])) _
          refine XS.istore X527.here hx rfl (hb hby at_125) rfl (l' := #[iv q1, iv q2, iv q3, iv 1, iv 2, iv 1, iv 1, iv 1, .unset]) rfl ?_
          show Steps _ _ _ (T527.setTop (mkF m 127 #[iv q1, iv q2, iv q3, iv 1, iv 2, iv 1, iv 1, iv 1, .unset] [])) _
          refine XS.iload X527.here hx rfl (hb hby at_127) rfl ?_
          show Steps _ _ _ (T527.setTop (mkF m 129 #[iv q1, iv q2, iv q3, iv 1, iv 2, iv 1, iv 1, iv 1, .unset] [(.int 1)])) _
          refine XS.iload X527.here hx rfl (hb hby at_129) rfl ?_
          show Steps _ _ _ (T527.setTop (mkF m 131 #[iv q1, iv q2, iv q3, iv 1, iv 2, iv 1, iv 1, iv 1, .unset] [(.int 1), (.int 1)])) _
          refine XS.icmpNo X527.here hx rfl (hb hby at_131) rfl (by decide) ?_
          show Steps _ _ _ (T527.setTop (mkF m 134 #[iv q1, iv q2, iv q3, iv 1, iv 2, iv 1, iv 1, iv 1, .unset] [])) _
          refine XS.iconst X527.here hx rfl (hb hby at_134) ?_
          show Steps _ _ _ (T527.setTop (mkF m 135 #[iv q1, iv q2, iv q3, iv 1, iv 2, iv 1, iv 1, iv 1, .unset] [(.int 1)])) _
          refine XS.goto X527.here hx rfl (pc0 := 135) (pc' := 139) rfl (hb hby at_135) (by decide) (by decide) ?_
          show Steps _ _ _ (T527.setTop (mkF m 139 #[iv q1, iv q2, iv q3, iv 1, iv 2, iv 1, iv 1, iv 1, .unset] [(.int 1)])) _
          exact q
        obtain ⟨fs, hr, hrun, hended, hW, hsame⟩ := X527.leave (v := some (.int 1)) (fun h => by rw [Bd.returns] at h; cases h)
        refine ⟨_, _, k_528 _ ?_, hrun, hended, _, _, rfl, ?_, ⟨_, rfl⟩, hW, hsame.mono (by decide) (by decide)⟩
        · exact retN X527 hx (t := .boolean) Bd.returns (by simp) (hb hby at_139) hr
        · show Q0 n0 _ T527.heap _
          rw [e527]
          exact ⟨rfl, N527⟩
      · skip
        have k_529 : Go p.tables e below (s₁.setTop (entryFrame m #[(.int q1), (.int q2), (.int q3)] maxLocals)) (s₁.setTop (mkF m 112 #[iv q1, iv q2, iv q3, iv 1, iv 3, iv 1, iv 0, .unset, .unset] [(.int 1)])) := fun t q => by
          refine k0 t ?_
          refine XS.iloadN X0.here hx rfl (hb hby at_0) rfl ?_
          show Steps _ _ _ (s₁.setTop (mkF m 1 #[iv q1, iv q2, iv q3, .unset, .unset, .unset, .unset, .unset, .unset] [(.int q1)])) _
          refine XS.iconst X0.here hx rfl (hb hby at_1) ?_
          show Steps _ _ _ (s₁.setTop (mkF m 2 #[iv q1, iv q2, iv q3, .unset, .unset, .unset, .unset, .unset, .unset] [(.int 3), (.int q1)])) _
          refine XS.iand X0.here hx rfl (hb hby at_2) rfl ?_
          show Steps _ _ _ (s₁.setTop (mkF m 3 #[iv q1, iv q2, iv q3, .unset, .unset, .unset, .unset, .unset, .unset] [(.int (q1 &&& (3 : Int32)))])) _
          rw [hi]
          show Steps _ _ _ (s₁.setTop (mkF m 3 #[iv q1, iv q2, iv q3, .unset, .unset, .unset, .unset, .unset, .unset] [(.int 1)])) _
          refine XS.istoreN X0.here hx rfl (hb hby at_3) rfl (l' := #[iv q1, iv q2, iv q3, iv 1, .unset, .unset, .unset, .unset, .unset]) rfl ?_
          show Steps _ _ _ (s₁.setTop (mkF m 4 #[iv q1, iv q2, iv q3, iv 1, .unset, .unset, .unset, .unset, .unset] [])) _
          refine XS.iloadN X0.here hx rfl (hb hby at_4) rfl ?_
          show Steps _ _ _ (s₁.setTop (mkF m 5 #[iv q1, iv q2, iv q3, iv 1, .unset, .unset, .unset, .unset, .unset] [(.int q2)])) _
          refine XS.iconst X0.here hx rfl (hb hby at_5) ?_
          show Steps _ _ _ (s₁.setTop (mkF m 6 #[iv q1, iv q2, iv q3, iv 1, .unset, .unset, .unset, .unset, .unset] [(.int 3), (.int q2)])) _
          refine XS.iand X0.here hx rfl (hb hby at_6) rfl ?_
          show Steps _ _ _ (s₁.setTop (mkF m 7 #[iv q1, iv q2, iv q3, iv 1, .unset, .unset, .unset, .unset, .unset] [(.int (q2 &&& (3 : Int32)))])) _
          rw [hj]
          show Steps _ _ _ (s₁.setTop (mkF m 7 #[iv q1, iv q2, iv q3, iv 1, .unset, .unset, .unset, .unset, .unset] [(.int 3)])) _
          refine XS.istore X0.here hx rfl (hb hby at_7) rfl (l' := #[iv q1, iv q2, iv q3, iv 1, iv 3, .unset, .unset, .unset, .unset]) rfl ?_
          show Steps _ _ _ (s₁.setTop (mkF m 9 #[iv q1, iv q2, iv q3, iv 1, iv 3, .unset, .unset, .unset, .unset] [])) _
          refine XS.iloadN X0.here hx rfl (hb hby at_9) rfl ?_
          show Steps _ _ _ (s₁.setTop (mkF m 10 #[iv q1, iv q2, iv q3, iv 1, iv 3, .unset, .unset, .unset, .unset] [(.int q3)])) _
          refine XS.iconst X0.here hx rfl (hb hby at_10) ?_
          show Steps _ _ _ (s₁.setTop (mkF m 11 #[iv q1, iv q2, iv q3, iv 1, iv 3, .unset, .unset, .unset, .unset] [(.int 1), (.int q3)])) _
          refine XS.iand X0.here hx rfl (hb hby at_11) rfl ?_
          show Steps _ _ _ (s₁.setTop (mkF m 12 #[iv q1, iv q2, iv q3, iv 1, iv 3, .unset, .unset, .unset, .unset] [(.int (q3 &&& (1 : Int32)))])) _
          rw [hs]
          show Steps _ _ _ (s₁.setTop (mkF m 12 #[iv q1, iv q2, iv q3, iv 1, iv 3, .unset, .unset, .unset, .unset] [(.int 1)])) _
          refine XS.ifNo X0.here hx rfl (hb hby at_12) rfl (by decide) ?_
          show Steps _ _ _ (s₁.setTop (mkF m 15 #[iv q1, iv q2, iv q3, iv 1, iv 3, .unset, .unset, .unset, .unset] [])) _
          refine XS.iconst X0.here hx rfl (hb hby at_15) ?_
          show Steps _ _ _ (s₁.setTop (mkF m 16 #[iv q1, iv q2, iv q3, iv 1, iv 3, .unset, .unset, .unset, .unset] [(.int 1)])) _
          refine XS.goto X0.here hx rfl (pc0 := 16) (pc' := 20) rfl (hb hby at_16) (by decide) (by decide) ?_
          show Steps _ _ _ (s₁.setTop (mkF m 20 #[iv q1, iv q2, iv q3, iv 1, iv 3, .unset, .unset, .unset, .unset] [(.int 1)])) _
          refine XS.istore X0.here hx rfl (hb hby at_20) rfl (l' := #[iv q1, iv q2, iv q3, iv 1, iv 3, iv 1, .unset, .unset, .unset]) rfl ?_
          show Steps _ _ _ (s₁.setTop (mkF m 22 #[iv q1, iv q2, iv q3, iv 1, iv 3, iv 1, .unset, .unset, .unset] [])) _
          refine XS.iloadN X0.here hx rfl (hb hby at_22) rfl ?_
          show Steps _ _ _ (s₁.setTop (mkF m 23 #[iv q1, iv q2, iv q3, iv 1, iv 3, iv 1, .unset, .unset, .unset] [(.int 1)])) _
          refine XS.iconst X0.here hx rfl (hb hby at_23) ?_
          show Steps _ _ _ (s₁.setTop (mkF m 24 #[iv q1, iv q2, iv q3, iv 1, iv 3, iv 1, .unset, .unset, .unset] [(.int 3), (.int 1)])) _
          refine XS.icmpNo X0.here hx rfl (hb hby at_24) rfl (by decide) ?_
          show Steps _ _ _ (s₁.setTop (mkF m 27 #[iv q1, iv q2, iv q3, iv 1, iv 3, iv 1, .unset, .unset, .unset] [])) _
          refine XS.iload X0.here hx rfl (hb hby at_27) rfl ?_
          show Steps _ _ _ (s₁.setTop (mkF m 29 #[iv q1, iv q2, iv q3, iv 1, iv 3, iv 1, .unset, .unset, .unset] [(.int 3)])) _
          refine XS.iconst X0.here hx rfl (hb hby at_29) ?_
          show Steps _ _ _ (s₁.setTop (mkF m 30 #[iv q1, iv q2, iv q3, iv 1, iv 3, iv 1, .unset, .unset, .unset] [(.int 3), (.int 3)])) _
          refine XS.icmpNo X0.here hx rfl (hb hby at_30) rfl (by decide) ?_
          show Steps _ _ _ (s₁.setTop (mkF m 33 #[iv q1, iv q2, iv q3, iv 1, iv 3, iv 1, .unset, .unset, .unset] [])) _
          refine XS.iconst X0.here hx rfl (hb hby at_33) ?_
          show Steps _ _ _ (s₁.setTop (mkF m 34 #[iv q1, iv q2, iv q3, iv 1, iv 3, iv 1, .unset, .unset, .unset] [(.int 0)])) _
          refine XS.istore X0.here hx rfl (hb hby at_34) rfl (l' := #[iv q1, iv q2, iv q3, iv 1, iv 3, iv 1, iv 0, .unset, .unset]) rfl ?_
          show Steps _ _ _ (s₁.setTop (mkF m 36 #[iv q1, iv q2, iv q3, iv 1, iv 3, iv 1, iv 0, .unset, .unset] [])) _
          refine XS.goto X0.here hx rfl (pc0 := 36) (pc' := 111) rfl (hb hby at_36) (by decide) (by decide) ?_
          show Steps _ _ _ (s₁.setTop (mkF m 111 #[iv q1, iv q2, iv q3, iv 1, iv 3, iv 1, iv 0, .unset, .unset] [])) _
          refine XS.iloadN X0.here hx rfl (hb hby at_111) rfl ?_
          show Steps _ _ _ (s₁.setTop (mkF m 112 #[iv q1, iv q2, iv q3, iv 1, iv 3, iv 1, iv 0, .unset, .unset] [(.int 1)])) _
          exact q
        obtain ⟨_, _, ⟨T530, L530, k530, n530⟩, -, X530, ⟨Lc530, hQ530, l530, y530, z530⟩, st530⟩ := Jvm.LawKit.callS X0 hx (y := y_2) hown (mvT hZ (hw _ (wd 0 rfl))) (mvT hZ (hw _ (wd 1 rfl))) (mvT hZ (hw _ (wd 2 rfl))) (mvT hZ (hw _ (wd 3 rfl))) (by decide) (backOf (W := 0) (kd l Z a0 hw [] a_NEXT_KEY a_GAP a_RECORD a_INSERT_INTENTION G (1 : Int32) 1 h0 n0 O0 (Or.inr (Or.inl ⟨by decide, rfl⟩))) hZ (hw _ (wd 3 rfl)) (hw _ (wd 2 rfl)) (by decide) (by decide)) (g := (mkF m 112 #[iv q1, iv q2, iv q3, iv 1, iv 3, iv 1, iv 0, .unset, .unset] [(.int 1)])) rfl (by rw [hml]; rfl) (argsL := [(.int 1)]) (rest := []) (lenOf pd_1 rfl) rfl (by show 2 * 0 + _ ≤ _; exact Nat.le_of_eq rfl) (hb hby at_112) (fun _ _ => ⟨rfl, e0, (by decide : 0 + 1 ≤ _), (by decide : 0 + 4 ≤ _)⟩)
        dsimp only [Pt.U, Pt.locs, Pt.cells, Pt.slots] at X530 l530 y530 z530 st530 hQ530
        subst l530 y530 z530
        obtain ⟨rfl, N530q, K530⟩ := hQ530
        have N530 := Fr.app N0 N530q
        have O_531 := O0.keep K530 all0
        have K_532 := K0.trans K530 all0
        have k_533 : Go p.tables e below (s₁.setTop (entryFrame m #[(.int q1), (.int q2), (.int q3)] maxLocals)) (T530.setTop (mkF m 117 #[iv q1, iv q2, iv q3, iv 1, iv 3, iv 1, iv 0, .unset, .unset] [(.int 3), (.ref a_GAP)])) := fun t q => by
          refine k_529 t ?_
          refine st530 _ ?_
          show Steps _ _ _ (T530.setTop (mkF m 115 #[iv q1, iv q2, iv q3, iv 1, iv 3, iv 1, iv 0, .unset, .unset] [(.ref a_GAP)])) _
          refine XS.iload X530.here hx rfl (hb hby at_115) rfl ?_
          show Steps _ _ _ (T530.setTop (mkF m 117 #[iv q1, iv q2, iv q3, iv 1, iv 3, iv 1, iv 0, .unset, .unset] [(.int 3), (.ref a_GAP)])) _
          exact q
        obtain ⟨_, _, ⟨T534, L534, k534, n534⟩, -, X534, ⟨Lc534, hQ534, l534, y534, z534⟩, st534⟩ := Jvm.LawKit.callS X530 hx (y := y_2) hown (mvT hZ (hw _ (wd 0 rfl))) (mvT hZ (hw _ (wd 1 rfl))) (mvT hZ (hw _ (wd 2 rfl))) (mvT hZ (hw _ (wd 3 rfl))) (by decide) (backOf (W := 1) (kd l Z a0 hw [] a_NEXT_KEY a_GAP a_RECORD a_INSERT_INTENTION G (3 : Int32) 3 T530.heap n0 O_531 (Or.inr (Or.inr (Or.inr ⟨by decide, rfl⟩)))) hZ (hw _ (wd 3 rfl)) (hw _ (wd 2 rfl)) (by decide) (by decide)) (g := (mkF m 117 #[iv q1, iv q2, iv q3, iv 1, iv 3, iv 1, iv 0, .unset, .unset] [(.int 3), (.ref a_GAP)])) rfl (by rw [hml]; rfl) (argsL := [(.int 3)]) (rest := [(.ref a_GAP)]) (lenOf pd_1 rfl) rfl (by show 2 * 0 + _ ≤ _; exact Nat.le_of_eq rfl) (hb hby at_117) (fun _ _ => ⟨rfl, (rfl : T530.heap = _), (by decide : 1 + 1 ≤ _), (by decide : 4 + 4 ≤ _)⟩)
        dsimp only [Pt.U, Pt.locs, Pt.cells, Pt.slots] at X534 l534 y534 z534 st534 hQ534
        subst l534 y534 z534
        obtain ⟨rfl, N534q, K534⟩ := hQ534
        have N534 := Fr.app N530 N534q
        have O_535 := O_531.keep K534 all0
        have K_536 := K_532.trans K534 all0
        have k_537 : Go p.tables e below (s₁.setTop (entryFrame m #[(.int q1), (.int q2), (.int q3)] maxLocals)) (T534.setTop (mkF m 122 #[iv q1, iv q2, iv q3, iv 1, iv 3, iv 1, iv 0, .unset, .unset] [(.int 1), (.ref a_INSERT_INTENTION), (.ref a_GAP)])) := fun t q => by
          refine k_533 t ?_
          refine st534 _ ?_
          show Steps _ _ _ (T534.setTop (mkF m 120 #[iv q1, iv q2, iv q3, iv 1, iv 3, iv 1, iv 0, .unset, .unset] [(.ref a_INSERT_INTENTION), (.ref a_GAP)])) _
          refine XS.iload X534.here hx rfl (hb hby at_120) rfl ?_
          show Steps _ _ _ (T534.setTop (mkF m 122 #[iv q1, iv q2, iv q3, iv 1, iv 3, iv 1, iv 0, .unset, .unset] [(.int 1), (.ref a_INSERT_INTENTION), (.ref a_GAP)])) _
          exact q
        obtain ⟨cq538, kq538, q538a, q538b, q538c⟩ := isOf hZ (rfl : T534.heap = _) (Exa.ext O_535.2 E_GAP)
        obtain ⟨_, _, ⟨T538, L538, k538, n538⟩, -, X538, ⟨Lc538, hQ538, l538, y538, z538⟩, st538⟩ := X534.virtualBack hx (y := y_3) (z := y_3) hown (mvT hZ (hw _ (wd 16 rfl))) (mvT hZ (hw _ (wd 17 rfl))) (notFace_of_selects (args := #[]) (mvT hZ (hw _ (wd 19 rfl)))) (mvT hZ (hw _ (wd 19 rfl))) (mvT hZ (hw _ (wd 18 rfl))) (by decide) (backOf (W := 0) (cv_1_3_1 l Z a0 hw [] a_NEXT_KEY a_GAP a_RECORD a_INSERT_INTENTION G  T534.heap n0 O_535 ) hZ (hw _ (wd 20 rfl)) (hw _ (wd 7 rfl)) (by decide) (by decide)) q538a q538c (g := (mkF m 122 #[iv q1, iv q2, iv q3, iv 1, iv 3, iv 1, iv 0, .unset, .unset] [(.int 1), (.ref a_INSERT_INTENTION), (.ref a_GAP)])) rfl (by rw [hml]; rfl) (Steps.refl _) (argsL := [(.ref a_INSERT_INTENTION), (.int 1)]) (rest := []) (lenOf pd_2 rfl) rfl (by show 2 * 0 + _ ≤ _; exact Nat.le_of_eq rfl) (hb hby at_122) (fun _ _ => ⟨rfl, (rfl : T534.heap = _), (by decide : 2 + 0 ≤ _), (by decide : 8 + 0 ≤ _)⟩)
        dsimp only [Pt.U, Pt.locs, Pt.cells, Pt.slots] at X538 l538 y538 z538 st538 hQ538
        subst l538 y538 z538
        obtain ⟨rfl, N538q, e538⟩ := hQ538
        have N538 := Fr.app N534 N538q
        have k_539 : Go p.tables e below (s₁.setTop (entryFrame m #[(.int q1), (.int q2), (.int q3)] maxLocals)) (T538.setTop (mkF m 139 #[iv q1, iv q2, iv q3, iv 1, iv 3, iv 1, iv 0, iv 0, .unset] [(.int 1)])) := fun t q => by
          refine k_537 t ?_
          refine st538.trans ?_
          show Steps _ _ _ (T538.setTop (mkF m 125 #[iv q1, iv q2, iv q3, iv 1, iv 3, iv 1, iv 0, .unset, .unset] [(.int 0)])) _
          refine XS.istore X538.here hx rfl (hb hby at_125) rfl (l' := #[iv q1, iv q2, iv q3, iv 1, iv 3, iv 1, iv 0, iv 0, .unset]) rfl ?_
          show Steps _ _ _ (T538.setTop (mkF m 127 #[iv q1, iv q2, iv q3, iv 1, iv 3, iv 1, iv 0, iv 0, .unset] [])) _
          refine XS.iload X538.here hx rfl (hb hby at_127) rfl ?_
          show Steps _ _ _ (T538.setTop (mkF m 129 #[iv q1, iv q2, iv q3, iv 1, iv 3, iv 1, iv 0, iv 0, .unset] [(.int 0)])) _
          refine XS.iload X538.here hx rfl (hb hby at_129) rfl ?_
          show Steps _ _ _ (T538.setTop (mkF m 131 #[iv q1, iv q2, iv q3, iv 1, iv 3, iv 1, iv 0, iv 0, .unset] [(.int 0), (.int 0)])) _
          refine XS.icmpNo X538.here hx rfl (hb hby at_131) rfl (by decide) ?_
          show Steps _ _ _ (T538.setTop (mkF m 134 #[iv q1, iv q2, iv q3, iv 1, iv 3, iv 1, iv 0, iv 0, .unset] [])) _
          refine XS.iconst X538.here hx rfl (hb hby at_134) ?_
          show Steps _ _ _ (T538.setTop (mkF m 135 #[iv q1, iv q2, iv q3, iv 1, iv 3, iv 1, iv 0, iv 0, .unset] [(.int 1)])) _
          refine XS.goto X538.here hx rfl (pc0 := 135) (pc' := 139) rfl (hb hby at_135) (by decide) (by decide) ?_
          show Steps _ _ _ (T538.setTop (mkF m 139 #[iv q1, iv q2, iv q3, iv 1, iv 3, iv 1, iv 0, iv 0, .unset] [(.int 1)])) _
          exact q
        obtain ⟨fs, hr, hrun, hended, hW, hsame⟩ := X538.leave (v := some (.int 1)) (fun h => by rw [Bd.returns] at h; cases h)
        refine ⟨_, _, k_539 _ ?_, hrun, hended, _, _, rfl, ?_, ⟨_, rfl⟩, hW, hsame.mono (by decide) (by decide)⟩
        · exact retN X538 hx (t := .boolean) Bd.returns (by simp) (hb hby at_139) hr
        · show Q0 n0 _ T538.heap _
          rw [e538]
          exact ⟨rfl, N538⟩
    · skip
      rcases own_mask_4 q2 with hj | hj | hj | hj
      · skip
        have k_540 : Go p.tables e below (s₁.setTop (entryFrame m #[(.int q1), (.int q2), (.int q3)] maxLocals)) (s₁.setTop (mkF m 112 #[iv q1, iv q2, iv q3, iv 2, iv 0, iv 1, iv 1, .unset, .unset] [(.int 2)])) := fun t q => by
          refine k0 t ?_
          refine XS.iloadN X0.here hx rfl (hb hby at_0) rfl ?_
          show Steps _ _ _ (s₁.setTop (mkF m 1 #[iv q1, iv q2, iv q3, .unset, .unset, .unset, .unset, .unset, .unset] [(.int q1)])) _
          refine XS.iconst X0.here hx rfl (hb hby at_1) ?_
          show Steps _ _ _ (s₁.setTop (mkF m 2 #[iv q1, iv q2, iv q3, .unset, .unset, .unset, .unset, .unset, .unset] [(.int 3), (.int q1)])) _
          refine XS.iand X0.here hx rfl (hb hby at_2) rfl ?_
          show Steps _ _ _ (s₁.setTop (mkF m 3 #[iv q1, iv q2, iv q3, .unset, .unset, .unset, .unset, .unset, .unset] [(.int (q1 &&& (3 : Int32)))])) _
          rw [hi]
          show Steps _ _ _ (s₁.setTop (mkF m 3 #[iv q1, iv q2, iv q3, .unset, .unset, .unset, .unset, .unset, .unset] [(.int 2)])) _
          refine XS.istoreN X0.here hx rfl (hb hby at_3) rfl (l' := #[iv q1, iv q2, iv q3, iv 2, .unset, .unset, .unset, .unset, .unset]) rfl ?_
          show Steps _ _ _ (s₁.setTop (mkF m 4 #[iv q1, iv q2, iv q3, iv 2, .unset, .unset, .unset, .unset, .unset] [])) _
          refine XS.iloadN X0.here hx rfl (hb hby at_4) rfl ?_
          show Steps _ _ _ (s₁.setTop (mkF m 5 #[iv q1, iv q2, iv q3, iv 2, .unset, .unset, .unset, .unset, .unset] [(.int q2)])) _
          refine XS.iconst X0.here hx rfl (hb hby at_5) ?_
          show Steps _ _ _ (s₁.setTop (mkF m 6 #[iv q1, iv q2, iv q3, iv 2, .unset, .unset, .unset, .unset, .unset] [(.int 3), (.int q2)])) _
          refine XS.iand X0.here hx rfl (hb hby at_6) rfl ?_
          show Steps _ _ _ (s₁.setTop (mkF m 7 #[iv q1, iv q2, iv q3, iv 2, .unset, .unset, .unset, .unset, .unset] [(.int (q2 &&& (3 : Int32)))])) _
          rw [hj]
          show Steps _ _ _ (s₁.setTop (mkF m 7 #[iv q1, iv q2, iv q3, iv 2, .unset, .unset, .unset, .unset, .unset] [(.int 0)])) _
          refine XS.istore X0.here hx rfl (hb hby at_7) rfl (l' := #[iv q1, iv q2, iv q3, iv 2, iv 0, .unset, .unset, .unset, .unset]) rfl ?_
          show Steps _ _ _ (s₁.setTop (mkF m 9 #[iv q1, iv q2, iv q3, iv 2, iv 0, .unset, .unset, .unset, .unset] [])) _
          refine XS.iloadN X0.here hx rfl (hb hby at_9) rfl ?_
          show Steps _ _ _ (s₁.setTop (mkF m 10 #[iv q1, iv q2, iv q3, iv 2, iv 0, .unset, .unset, .unset, .unset] [(.int q3)])) _
          refine XS.iconst X0.here hx rfl (hb hby at_10) ?_
          show Steps _ _ _ (s₁.setTop (mkF m 11 #[iv q1, iv q2, iv q3, iv 2, iv 0, .unset, .unset, .unset, .unset] [(.int 1), (.int q3)])) _
          refine XS.iand X0.here hx rfl (hb hby at_11) rfl ?_
          show Steps _ _ _ (s₁.setTop (mkF m 12 #[iv q1, iv q2, iv q3, iv 2, iv 0, .unset, .unset, .unset, .unset] [(.int (q3 &&& (1 : Int32)))])) _
          rw [hs]
          show Steps _ _ _ (s₁.setTop (mkF m 12 #[iv q1, iv q2, iv q3, iv 2, iv 0, .unset, .unset, .unset, .unset] [(.int 1)])) _
          refine XS.ifNo X0.here hx rfl (hb hby at_12) rfl (by decide) ?_
          show Steps _ _ _ (s₁.setTop (mkF m 15 #[iv q1, iv q2, iv q3, iv 2, iv 0, .unset, .unset, .unset, .unset] [])) _
          refine XS.iconst X0.here hx rfl (hb hby at_15) ?_
          show Steps _ _ _ (s₁.setTop (mkF m 16 #[iv q1, iv q2, iv q3, iv 2, iv 0, .unset, .unset, .unset, .unset] [(.int 1)])) _
          refine XS.goto X0.here hx rfl (pc0 := 16) (pc' := 20) rfl (hb hby at_16) (by decide) (by decide) ?_
          show Steps _ _ _ (s₁.setTop (mkF m 20 #[iv q1, iv q2, iv q3, iv 2, iv 0, .unset, .unset, .unset, .unset] [(.int 1)])) _
          refine XS.istore X0.here hx rfl (hb hby at_20) rfl (l' := #[iv q1, iv q2, iv q3, iv 2, iv 0, iv 1, .unset, .unset, .unset]) rfl ?_
          show Steps _ _ _ (s₁.setTop (mkF m 22 #[iv q1, iv q2, iv q3, iv 2, iv 0, iv 1, .unset, .unset, .unset] [])) _
          refine XS.iloadN X0.here hx rfl (hb hby at_22) rfl ?_
          show Steps _ _ _ (s₁.setTop (mkF m 23 #[iv q1, iv q2, iv q3, iv 2, iv 0, iv 1, .unset, .unset, .unset] [(.int 2)])) _
          refine XS.iconst X0.here hx rfl (hb hby at_23) ?_
          show Steps _ _ _ (s₁.setTop (mkF m 24 #[iv q1, iv q2, iv q3, iv 2, iv 0, iv 1, .unset, .unset, .unset] [(.int 3), (.int 2)])) _
          refine XS.icmpNo X0.here hx rfl (hb hby at_24) rfl (by decide) ?_
          show Steps _ _ _ (s₁.setTop (mkF m 27 #[iv q1, iv q2, iv q3, iv 2, iv 0, iv 1, .unset, .unset, .unset] [])) _
          refine XS.iload X0.here hx rfl (hb hby at_27) rfl ?_
          show Steps _ _ _ (s₁.setTop (mkF m 29 #[iv q1, iv q2, iv q3, iv 2, iv 0, iv 1, .unset, .unset, .unset] [(.int 0)])) _
          refine XS.iconst X0.here hx rfl (hb hby at_29) ?_
          show Steps _ _ _ (s₁.setTop (mkF m 30 #[iv q1, iv q2, iv q3, iv 2, iv 0, iv 1, .unset, .unset, .unset] [(.int 3), (.int 0)])) _
          refine XS.icmpYes X0.here hx rfl (pc0 := 30) (pc' := 39) rfl (hb hby at_30) rfl (by decide) (by decide) (by decide) ?_
          show Steps _ _ _ (s₁.setTop (mkF m 39 #[iv q1, iv q2, iv q3, iv 2, iv 0, iv 1, .unset, .unset, .unset] [])) _
          refine XS.iload X0.here hx rfl (hb hby at_39) rfl ?_
          show Steps _ _ _ (s₁.setTop (mkF m 41 #[iv q1, iv q2, iv q3, iv 2, iv 0, iv 1, .unset, .unset, .unset] [(.int 1)])) _
          refine XS.ifNo X0.here hx rfl (hb hby at_41) rfl (by decide) ?_
          show Steps _ _ _ (s₁.setTop (mkF m 44 #[iv q1, iv q2, iv q3, iv 2, iv 0, iv 1, .unset, .unset, .unset] [])) _
          refine XS.iconst X0.here hx rfl (hb hby at_44) ?_
          show Steps _ _ _ (s₁.setTop (mkF m 45 #[iv q1, iv q2, iv q3, iv 2, iv 0, iv 1, .unset, .unset, .unset] [(.int 1)])) _
          refine XS.istore X0.here hx rfl (hb hby at_45) rfl (l' := #[iv q1, iv q2, iv q3, iv 2, iv 0, iv 1, iv 1, .unset, .unset]) rfl ?_
          show Steps _ _ _ (s₁.setTop (mkF m 47 #[iv q1, iv q2, iv q3, iv 2, iv 0, iv 1, iv 1, .unset, .unset] [])) _
          refine XS.goto X0.here hx rfl (pc0 := 47) (pc' := 111) rfl (hb hby at_47) (by decide) (by decide) ?_
          show Steps _ _ _ (s₁.setTop (mkF m 111 #[iv q1, iv q2, iv q3, iv 2, iv 0, iv 1, iv 1, .unset, .unset] [])) _
          refine XS.iloadN X0.here hx rfl (hb hby at_111) rfl ?_
          show Steps _ _ _ (s₁.setTop (mkF m 112 #[iv q1, iv q2, iv q3, iv 2, iv 0, iv 1, iv 1, .unset, .unset] [(.int 2)])) _
          exact q
        obtain ⟨_, _, ⟨T541, L541, k541, n541⟩, -, X541, ⟨Lc541, hQ541, l541, y541, z541⟩, st541⟩ := Jvm.LawKit.callS X0 hx (y := y_2) hown (mvT hZ (hw _ (wd 0 rfl))) (mvT hZ (hw _ (wd 1 rfl))) (mvT hZ (hw _ (wd 2 rfl))) (mvT hZ (hw _ (wd 3 rfl))) (by decide) (backOf (W := 0) (kd l Z a0 hw [] a_NEXT_KEY a_GAP a_RECORD a_INSERT_INTENTION G (2 : Int32) 2 h0 n0 O0 (Or.inr (Or.inr (Or.inl ⟨by decide, rfl⟩)))) hZ (hw _ (wd 3 rfl)) (hw _ (wd 2 rfl)) (by decide) (by decide)) (g := (mkF m 112 #[iv q1, iv q2, iv q3, iv 2, iv 0, iv 1, iv 1, .unset, .unset] [(.int 2)])) rfl (by rw [hml]; rfl) (argsL := [(.int 2)]) (rest := []) (lenOf pd_1 rfl) rfl (by show 2 * 0 + _ ≤ _; exact Nat.le_of_eq rfl) (hb hby at_112) (fun _ _ => ⟨rfl, e0, (by decide : 0 + 1 ≤ _), (by decide : 0 + 4 ≤ _)⟩)
        dsimp only [Pt.U, Pt.locs, Pt.cells, Pt.slots] at X541 l541 y541 z541 st541 hQ541
        subst l541 y541 z541
        obtain ⟨rfl, N541q, K541⟩ := hQ541
        have N541 := Fr.app N0 N541q
        have O_542 := O0.keep K541 all0
        have K_543 := K0.trans K541 all0
        have k_544 : Go p.tables e below (s₁.setTop (entryFrame m #[(.int q1), (.int q2), (.int q3)] maxLocals)) (T541.setTop (mkF m 117 #[iv q1, iv q2, iv q3, iv 2, iv 0, iv 1, iv 1, .unset, .unset] [(.int 0), (.ref a_RECORD)])) := fun t q => by
          refine k_540 t ?_
          refine st541 _ ?_
          show Steps _ _ _ (T541.setTop (mkF m 115 #[iv q1, iv q2, iv q3, iv 2, iv 0, iv 1, iv 1, .unset, .unset] [(.ref a_RECORD)])) _
          refine XS.iload X541.here hx rfl (hb hby at_115) rfl ?_
          show Steps _ _ _ (T541.setTop (mkF m 117 #[iv q1, iv q2, iv q3, iv 2, iv 0, iv 1, iv 1, .unset, .unset] [(.int 0), (.ref a_RECORD)])) _
          exact q
        obtain ⟨_, _, ⟨T545, L545, k545, n545⟩, -, X545, ⟨Lc545, hQ545, l545, y545, z545⟩, st545⟩ := Jvm.LawKit.callS X541 hx (y := y_2) hown (mvT hZ (hw _ (wd 0 rfl))) (mvT hZ (hw _ (wd 1 rfl))) (mvT hZ (hw _ (wd 2 rfl))) (mvT hZ (hw _ (wd 3 rfl))) (by decide) (backOf (W := 1) (kd l Z a0 hw [] a_NEXT_KEY a_GAP a_RECORD a_INSERT_INTENTION G (0 : Int32) 0 T541.heap n0 O_542 (Or.inl ⟨by decide, rfl⟩)) hZ (hw _ (wd 3 rfl)) (hw _ (wd 2 rfl)) (by decide) (by decide)) (g := (mkF m 117 #[iv q1, iv q2, iv q3, iv 2, iv 0, iv 1, iv 1, .unset, .unset] [(.int 0), (.ref a_RECORD)])) rfl (by rw [hml]; rfl) (argsL := [(.int 0)]) (rest := [(.ref a_RECORD)]) (lenOf pd_1 rfl) rfl (by show 2 * 0 + _ ≤ _; exact Nat.le_of_eq rfl) (hb hby at_117) (fun _ _ => ⟨rfl, (rfl : T541.heap = _), (by decide : 1 + 1 ≤ _), (by decide : 4 + 4 ≤ _)⟩)
        dsimp only [Pt.U, Pt.locs, Pt.cells, Pt.slots] at X545 l545 y545 z545 st545 hQ545
        subst l545 y545 z545
        obtain ⟨rfl, N545q, K545⟩ := hQ545
        have N545 := Fr.app N541 N545q
        have O_546 := O_542.keep K545 all0
        have K_547 := K_543.trans K545 all0
        have k_548 : Go p.tables e below (s₁.setTop (entryFrame m #[(.int q1), (.int q2), (.int q3)] maxLocals)) (T545.setTop (mkF m 122 #[iv q1, iv q2, iv q3, iv 2, iv 0, iv 1, iv 1, .unset, .unset] [(.int 1), (.ref a_NEXT_KEY), (.ref a_RECORD)])) := fun t q => by
          refine k_544 t ?_
          refine st545 _ ?_
          show Steps _ _ _ (T545.setTop (mkF m 120 #[iv q1, iv q2, iv q3, iv 2, iv 0, iv 1, iv 1, .unset, .unset] [(.ref a_NEXT_KEY), (.ref a_RECORD)])) _
          refine XS.iload X545.here hx rfl (hb hby at_120) rfl ?_
          show Steps _ _ _ (T545.setTop (mkF m 122 #[iv q1, iv q2, iv q3, iv 2, iv 0, iv 1, iv 1, .unset, .unset] [(.int 1), (.ref a_NEXT_KEY), (.ref a_RECORD)])) _
          exact q
        obtain ⟨cq549, kq549, q549a, q549b, q549c⟩ := isOf hZ (rfl : T545.heap = _) (Exa.ext O_546.2 E_RECORD)
        obtain ⟨_, _, ⟨T549, L549, k549, n549⟩, -, X549, ⟨Lc549, hQ549, l549, y549, z549⟩, st549⟩ := X545.virtualBack hx (y := y_3) (z := y_3) hown (mvT hZ (hw _ (wd 16 rfl))) (mvT hZ (hw _ (wd 17 rfl))) (notFace_of_selects (args := #[]) (mvT hZ (hw _ (wd 19 rfl)))) (mvT hZ (hw _ (wd 19 rfl))) (mvT hZ (hw _ (wd 18 rfl))) (by decide) (backOf (W := 0) (cv_2_0_1 l Z a0 hw [] a_NEXT_KEY a_GAP a_RECORD a_INSERT_INTENTION G  T545.heap n0 O_546 ) hZ (hw _ (wd 20 rfl)) (hw _ (wd 7 rfl)) (by decide) (by decide)) q549a q549c (g := (mkF m 122 #[iv q1, iv q2, iv q3, iv 2, iv 0, iv 1, iv 1, .unset, .unset] [(.int 1), (.ref a_NEXT_KEY), (.ref a_RECORD)])) rfl (by rw [hml]; rfl) (Steps.refl _) (argsL := [(.ref a_NEXT_KEY), (.int 1)]) (rest := []) (lenOf pd_2 rfl) rfl (by show 2 * 0 + _ ≤ _; exact Nat.le_of_eq rfl) (hb hby at_122) (fun _ _ => ⟨rfl, (rfl : T545.heap = _), (by decide : 2 + 0 ≤ _), (by decide : 8 + 0 ≤ _)⟩)
        dsimp only [Pt.U, Pt.locs, Pt.cells, Pt.slots] at X549 l549 y549 z549 st549 hQ549
        subst l549 y549 z549
        obtain ⟨rfl, N549q, e549⟩ := hQ549
        have N549 := Fr.app N545 N549q
        have k_550 : Go p.tables e below (s₁.setTop (entryFrame m #[(.int q1), (.int q2), (.int q3)] maxLocals)) (T549.setTop (mkF m 139 #[iv q1, iv q2, iv q3, iv 2, iv 0, iv 1, iv 1, iv 1, .unset] [(.int 1)])) := fun t q => by
          refine k_548 t ?_
          refine st549.trans ?_
          show Steps _ _ _ (T549.setTop (mkF m 125 #[iv q1, iv q2, iv q3, iv 2, iv 0, iv 1, iv 1, .unset, .unset] [(.int 1)])) _
          refine XS.istore X549.here hx rfl (hb hby at_125) rfl (l' := #[iv q1, iv q2, iv q3, iv 2, iv 0, iv 1, iv 1, iv 1, .unset]) rfl ?_
          show Steps _ _ _ (T549.setTop (mkF m 127 #[iv q1, iv q2, iv q3, iv 2, iv 0, iv 1, iv 1, iv 1, .unset] [])) _
          refine XS.iload X549.here hx rfl (hb hby at_127) rfl ?_
          show Steps _ _ _ (T549.setTop (mkF m 129 #[iv q1, iv q2, iv q3, iv 2, iv 0, iv 1, iv 1, iv 1, .unset] [(.int 1)])) _
          refine XS.iload X549.here hx rfl (hb hby at_129) rfl ?_
          show Steps _ _ _ (T549.setTop (mkF m 131 #[iv q1, iv q2, iv q3, iv 2, iv 0, iv 1, iv 1, iv 1, .unset] [(.int 1), (.int 1)])) _
          refine XS.icmpNo X549.here hx rfl (hb hby at_131) rfl (by decide) ?_
          show Steps _ _ _ (T549.setTop (mkF m 134 #[iv q1, iv q2, iv q3, iv 2, iv 0, iv 1, iv 1, iv 1, .unset] [])) _
          refine XS.iconst X549.here hx rfl (hb hby at_134) ?_
          show Steps _ _ _ (T549.setTop (mkF m 135 #[iv q1, iv q2, iv q3, iv 2, iv 0, iv 1, iv 1, iv 1, .unset] [(.int 1)])) _
          refine XS.goto X549.here hx rfl (pc0 := 135) (pc' := 139) rfl (hb hby at_135) (by decide) (by decide) ?_
          show Steps _ _ _ (T549.setTop (mkF m 139 #[iv q1, iv q2, iv q3, iv 2, iv 0, iv 1, iv 1, iv 1, .unset] [(.int 1)])) _
          exact q
        obtain ⟨fs, hr, hrun, hended, hW, hsame⟩ := X549.leave (v := some (.int 1)) (fun h => by rw [Bd.returns] at h; cases h)
        refine ⟨_, _, k_550 _ ?_, hrun, hended, _, _, rfl, ?_, ⟨_, rfl⟩, hW, hsame.mono (by decide) (by decide)⟩
        · exact retN X549 hx (t := .boolean) Bd.returns (by simp) (hb hby at_139) hr
        · show Q0 n0 _ T549.heap _
          rw [e549]
          exact ⟨rfl, N549⟩
      · skip
        have k_551 : Go p.tables e below (s₁.setTop (entryFrame m #[(.int q1), (.int q2), (.int q3)] maxLocals)) (s₁.setTop (mkF m 112 #[iv q1, iv q2, iv q3, iv 2, iv 1, iv 1, iv 1, .unset, .unset] [(.int 2)])) := fun t q => by
          refine k0 t ?_
          refine XS.iloadN X0.here hx rfl (hb hby at_0) rfl ?_
          show Steps _ _ _ (s₁.setTop (mkF m 1 #[iv q1, iv q2, iv q3, .unset, .unset, .unset, .unset, .unset, .unset] [(.int q1)])) _
          refine XS.iconst X0.here hx rfl (hb hby at_1) ?_
          show Steps _ _ _ (s₁.setTop (mkF m 2 #[iv q1, iv q2, iv q3, .unset, .unset, .unset, .unset, .unset, .unset] [(.int 3), (.int q1)])) _
          refine XS.iand X0.here hx rfl (hb hby at_2) rfl ?_
          show Steps _ _ _ (s₁.setTop (mkF m 3 #[iv q1, iv q2, iv q3, .unset, .unset, .unset, .unset, .unset, .unset] [(.int (q1 &&& (3 : Int32)))])) _
          rw [hi]
          show Steps _ _ _ (s₁.setTop (mkF m 3 #[iv q1, iv q2, iv q3, .unset, .unset, .unset, .unset, .unset, .unset] [(.int 2)])) _
          refine XS.istoreN X0.here hx rfl (hb hby at_3) rfl (l' := #[iv q1, iv q2, iv q3, iv 2, .unset, .unset, .unset, .unset, .unset]) rfl ?_
          show Steps _ _ _ (s₁.setTop (mkF m 4 #[iv q1, iv q2, iv q3, iv 2, .unset, .unset, .unset, .unset, .unset] [])) _
          refine XS.iloadN X0.here hx rfl (hb hby at_4) rfl ?_
          show Steps _ _ _ (s₁.setTop (mkF m 5 #[iv q1, iv q2, iv q3, iv 2, .unset, .unset, .unset, .unset, .unset] [(.int q2)])) _
          refine XS.iconst X0.here hx rfl (hb hby at_5) ?_
          show Steps _ _ _ (s₁.setTop (mkF m 6 #[iv q1, iv q2, iv q3, iv 2, .unset, .unset, .unset, .unset, .unset] [(.int 3), (.int q2)])) _
          refine XS.iand X0.here hx rfl (hb hby at_6) rfl ?_
          show Steps _ _ _ (s₁.setTop (mkF m 7 #[iv q1, iv q2, iv q3, iv 2, .unset, .unset, .unset, .unset, .unset] [(.int (q2 &&& (3 : Int32)))])) _
          rw [hj]
          show Steps _ _ _ (s₁.setTop (mkF m 7 #[iv q1, iv q2, iv q3, iv 2, .unset, .unset, .unset, .unset, .unset] [(.int 1)])) _
          refine XS.istore X0.here hx rfl (hb hby at_7) rfl (l' := #[iv q1, iv q2, iv q3, iv 2, iv 1, .unset, .unset, .unset, .unset]) rfl ?_
          show Steps _ _ _ (s₁.setTop (mkF m 9 #[iv q1, iv q2, iv q3, iv 2, iv 1, .unset, .unset, .unset, .unset] [])) _
          refine XS.iloadN X0.here hx rfl (hb hby at_9) rfl ?_
          show Steps _ _ _ (s₁.setTop (mkF m 10 #[iv q1, iv q2, iv q3, iv 2, iv 1, .unset, .unset, .unset, .unset] [(.int q3)])) _
          refine XS.iconst X0.here hx rfl (hb hby at_10) ?_
          show Steps _ _ _ (s₁.setTop (mkF m 11 #[iv q1, iv q2, iv q3, iv 2, iv 1, .unset, .unset, .unset, .unset] [(.int 1), (.int q3)])) _
          refine XS.iand X0.here hx rfl (hb hby at_11) rfl ?_
          show Steps _ _ _ (s₁.setTop (mkF m 12 #[iv q1, iv q2, iv q3, iv 2, iv 1, .unset, .unset, .unset, .unset] [(.int (q3 &&& (1 : Int32)))])) _
          rw [hs]
          show Steps _ _ _ (s₁.setTop (mkF m 12 #[iv q1, iv q2, iv q3, iv 2, iv 1, .unset, .unset, .unset, .unset] [(.int 1)])) _
          refine XS.ifNo X0.here hx rfl (hb hby at_12) rfl (by decide) ?_
          show Steps _ _ _ (s₁.setTop (mkF m 15 #[iv q1, iv q2, iv q3, iv 2, iv 1, .unset, .unset, .unset, .unset] [])) _
          refine XS.iconst X0.here hx rfl (hb hby at_15) ?_
          show Steps _ _ _ (s₁.setTop (mkF m 16 #[iv q1, iv q2, iv q3, iv 2, iv 1, .unset, .unset, .unset, .unset] [(.int 1)])) _
          refine XS.goto X0.here hx rfl (pc0 := 16) (pc' := 20) rfl (hb hby at_16) (by decide) (by decide) ?_
          show Steps _ _ _ (s₁.setTop (mkF m 20 #[iv q1, iv q2, iv q3, iv 2, iv 1, .unset, .unset, .unset, .unset] [(.int 1)])) _
          refine XS.istore X0.here hx rfl (hb hby at_20) rfl (l' := #[iv q1, iv q2, iv q3, iv 2, iv 1, iv 1, .unset, .unset, .unset]) rfl ?_
          show Steps _ _ _ (s₁.setTop (mkF m 22 #[iv q1, iv q2, iv q3, iv 2, iv 1, iv 1, .unset, .unset, .unset] [])) _
          refine XS.iloadN X0.here hx rfl (hb hby at_22) rfl ?_
          show Steps _ _ _ (s₁.setTop (mkF m 23 #[iv q1, iv q2, iv q3, iv 2, iv 1, iv 1, .unset, .unset, .unset] [(.int 2)])) _
          refine XS.iconst X0.here hx rfl (hb hby at_23) ?_
          show Steps _ _ _ (s₁.setTop (mkF m 24 #[iv q1, iv q2, iv q3, iv 2, iv 1, iv 1, .unset, .unset, .unset] [(.int 3), (.int 2)])) _
          refine XS.icmpNo X0.here hx rfl (hb hby at_24) rfl (by decide) ?_
          show Steps _ _ _ (s₁.setTop (mkF m 27 #[iv q1, iv q2, iv q3, iv 2, iv 1, iv 1, .unset, .unset, .unset] [])) _
          refine XS.iload X0.here hx rfl (hb hby at_27) rfl ?_
          show Steps _ _ _ (s₁.setTop (mkF m 29 #[iv q1, iv q2, iv q3, iv 2, iv 1, iv 1, .unset, .unset, .unset] [(.int 1)])) _
          refine XS.iconst X0.here hx rfl (hb hby at_29) ?_
          show Steps _ _ _ (s₁.setTop (mkF m 30 #[iv q1, iv q2, iv q3, iv 2, iv 1, iv 1, .unset, .unset, .unset] [(.int 3), (.int 1)])) _
          refine XS.icmpYes X0.here hx rfl (pc0 := 30) (pc' := 39) rfl (hb hby at_30) rfl (by decide) (by decide) (by decide) ?_
          show Steps _ _ _ (s₁.setTop (mkF m 39 #[iv q1, iv q2, iv q3, iv 2, iv 1, iv 1, .unset, .unset, .unset] [])) _
          refine XS.iload X0.here hx rfl (hb hby at_39) rfl ?_
          show Steps _ _ _ (s₁.setTop (mkF m 41 #[iv q1, iv q2, iv q3, iv 2, iv 1, iv 1, .unset, .unset, .unset] [(.int 1)])) _
          refine XS.ifNo X0.here hx rfl (hb hby at_41) rfl (by decide) ?_
          show Steps _ _ _ (s₁.setTop (mkF m 44 #[iv q1, iv q2, iv q3, iv 2, iv 1, iv 1, .unset, .unset, .unset] [])) _
          refine XS.iconst X0.here hx rfl (hb hby at_44) ?_
          show Steps _ _ _ (s₁.setTop (mkF m 45 #[iv q1, iv q2, iv q3, iv 2, iv 1, iv 1, .unset, .unset, .unset] [(.int 1)])) _
          refine XS.istore X0.here hx rfl (hb hby at_45) rfl (l' := #[iv q1, iv q2, iv q3, iv 2, iv 1, iv 1, iv 1, .unset, .unset]) rfl ?_
          show Steps _ _ _ (s₁.setTop (mkF m 47 #[iv q1, iv q2, iv q3, iv 2, iv 1, iv 1, iv 1, .unset, .unset] [])) _
          refine XS.goto X0.here hx rfl (pc0 := 47) (pc' := 111) rfl (hb hby at_47) (by decide) (by decide) ?_
          show Steps _ _ _ (s₁.setTop (mkF m 111 #[iv q1, iv q2, iv q3, iv 2, iv 1, iv 1, iv 1, .unset, .unset] [])) _
          refine XS.iloadN X0.here hx rfl (hb hby at_111) rfl ?_
          show Steps _ _ _ (s₁.setTop (mkF m 112 #[iv q1, iv q2, iv q3, iv 2, iv 1, iv 1, iv 1, .unset, .unset] [(.int 2)])) _
          exact q
        obtain ⟨_, _, ⟨T552, L552, k552, n552⟩, -, X552, ⟨Lc552, hQ552, l552, y552, z552⟩, st552⟩ := Jvm.LawKit.callS X0 hx (y := y_2) hown (mvT hZ (hw _ (wd 0 rfl))) (mvT hZ (hw _ (wd 1 rfl))) (mvT hZ (hw _ (wd 2 rfl))) (mvT hZ (hw _ (wd 3 rfl))) (by decide) (backOf (W := 0) (kd l Z a0 hw [] a_NEXT_KEY a_GAP a_RECORD a_INSERT_INTENTION G (2 : Int32) 2 h0 n0 O0 (Or.inr (Or.inr (Or.inl ⟨by decide, rfl⟩)))) hZ (hw _ (wd 3 rfl)) (hw _ (wd 2 rfl)) (by decide) (by decide)) (g := (mkF m 112 #[iv q1, iv q2, iv q3, iv 2, iv 1, iv 1, iv 1, .unset, .unset] [(.int 2)])) rfl (by rw [hml]; rfl) (argsL := [(.int 2)]) (rest := []) (lenOf pd_1 rfl) rfl (by show 2 * 0 + _ ≤ _; exact Nat.le_of_eq rfl) (hb hby at_112) (fun _ _ => ⟨rfl, e0, (by decide : 0 + 1 ≤ _), (by decide : 0 + 4 ≤ _)⟩)
        dsimp only [Pt.U, Pt.locs, Pt.cells, Pt.slots] at X552 l552 y552 z552 st552 hQ552
        subst l552 y552 z552
        obtain ⟨rfl, N552q, K552⟩ := hQ552
        have N552 := Fr.app N0 N552q
        have O_553 := O0.keep K552 all0
        have K_554 := K0.trans K552 all0
        have k_555 : Go p.tables e below (s₁.setTop (entryFrame m #[(.int q1), (.int q2), (.int q3)] maxLocals)) (T552.setTop (mkF m 117 #[iv q1, iv q2, iv q3, iv 2, iv 1, iv 1, iv 1, .unset, .unset] [(.int 1), (.ref a_RECORD)])) := fun t q => by
          refine k_551 t ?_
          refine st552 _ ?_
          show Steps _ _ _ (T552.setTop (mkF m 115 #[iv q1, iv q2, iv q3, iv 2, iv 1, iv 1, iv 1, .unset, .unset] [(.ref a_RECORD)])) _
          refine XS.iload X552.here hx rfl (hb hby at_115) rfl ?_
          show Steps _ _ _ (T552.setTop (mkF m 117 #[iv q1, iv q2, iv q3, iv 2, iv 1, iv 1, iv 1, .unset, .unset] [(.int 1), (.ref a_RECORD)])) _
          exact q
        obtain ⟨_, _, ⟨T556, L556, k556, n556⟩, -, X556, ⟨Lc556, hQ556, l556, y556, z556⟩, st556⟩ := Jvm.LawKit.callS X552 hx (y := y_2) hown (mvT hZ (hw _ (wd 0 rfl))) (mvT hZ (hw _ (wd 1 rfl))) (mvT hZ (hw _ (wd 2 rfl))) (mvT hZ (hw _ (wd 3 rfl))) (by decide) (backOf (W := 1) (kd l Z a0 hw [] a_NEXT_KEY a_GAP a_RECORD a_INSERT_INTENTION G (1 : Int32) 1 T552.heap n0 O_553 (Or.inr (Or.inl ⟨by decide, rfl⟩))) hZ (hw _ (wd 3 rfl)) (hw _ (wd 2 rfl)) (by decide) (by decide)) (g := (mkF m 117 #[iv q1, iv q2, iv q3, iv 2, iv 1, iv 1, iv 1, .unset, .unset] [(.int 1), (.ref a_RECORD)])) rfl (by rw [hml]; rfl) (argsL := [(.int 1)]) (rest := [(.ref a_RECORD)]) (lenOf pd_1 rfl) rfl (by show 2 * 0 + _ ≤ _; exact Nat.le_of_eq rfl) (hb hby at_117) (fun _ _ => ⟨rfl, (rfl : T552.heap = _), (by decide : 1 + 1 ≤ _), (by decide : 4 + 4 ≤ _)⟩)
        dsimp only [Pt.U, Pt.locs, Pt.cells, Pt.slots] at X556 l556 y556 z556 st556 hQ556
        subst l556 y556 z556
        obtain ⟨rfl, N556q, K556⟩ := hQ556
        have N556 := Fr.app N552 N556q
        have O_557 := O_553.keep K556 all0
        have K_558 := K_554.trans K556 all0
        have k_559 : Go p.tables e below (s₁.setTop (entryFrame m #[(.int q1), (.int q2), (.int q3)] maxLocals)) (T556.setTop (mkF m 122 #[iv q1, iv q2, iv q3, iv 2, iv 1, iv 1, iv 1, .unset, .unset] [(.int 1), (.ref a_GAP), (.ref a_RECORD)])) := fun t q => by
          refine k_555 t ?_
          refine st556 _ ?_
          show Steps _ _ _ (T556.setTop (mkF m 120 #[iv q1, iv q2, iv q3, iv 2, iv 1, iv 1, iv 1, .unset, .unset] [(.ref a_GAP), (.ref a_RECORD)])) _
          refine XS.iload X556.here hx rfl (hb hby at_120) rfl ?_
          show Steps _ _ _ (T556.setTop (mkF m 122 #[iv q1, iv q2, iv q3, iv 2, iv 1, iv 1, iv 1, .unset, .unset] [(.int 1), (.ref a_GAP), (.ref a_RECORD)])) _
          exact q
        obtain ⟨cq560, kq560, q560a, q560b, q560c⟩ := isOf hZ (rfl : T556.heap = _) (Exa.ext O_557.2 E_RECORD)
        obtain ⟨_, _, ⟨T560, L560, k560, n560⟩, -, X560, ⟨Lc560, hQ560, l560, y560, z560⟩, st560⟩ := X556.virtualBack hx (y := y_3) (z := y_3) hown (mvT hZ (hw _ (wd 16 rfl))) (mvT hZ (hw _ (wd 17 rfl))) (notFace_of_selects (args := #[]) (mvT hZ (hw _ (wd 19 rfl)))) (mvT hZ (hw _ (wd 19 rfl))) (mvT hZ (hw _ (wd 18 rfl))) (by decide) (backOf (W := 0) (cv_2_1_1 l Z a0 hw [] a_NEXT_KEY a_GAP a_RECORD a_INSERT_INTENTION G  T556.heap n0 O_557 ) hZ (hw _ (wd 20 rfl)) (hw _ (wd 7 rfl)) (by decide) (by decide)) q560a q560c (g := (mkF m 122 #[iv q1, iv q2, iv q3, iv 2, iv 1, iv 1, iv 1, .unset, .unset] [(.int 1), (.ref a_GAP), (.ref a_RECORD)])) rfl (by rw [hml]; rfl) (Steps.refl _) (argsL := [(.ref a_GAP), (.int 1)]) (rest := []) (lenOf pd_2 rfl) rfl (by show 2 * 0 + _ ≤ _; exact Nat.le_of_eq rfl) (hb hby at_122) (fun _ _ => ⟨rfl, (rfl : T556.heap = _), (by decide : 2 + 0 ≤ _), (by decide : 8 + 0 ≤ _)⟩)
        dsimp only [Pt.U, Pt.locs, Pt.cells, Pt.slots] at X560 l560 y560 z560 st560 hQ560
        subst l560 y560 z560
        obtain ⟨rfl, N560q, e560⟩ := hQ560
        have N560 := Fr.app N556 N560q
        have k_561 : Go p.tables e below (s₁.setTop (entryFrame m #[(.int q1), (.int q2), (.int q3)] maxLocals)) (T560.setTop (mkF m 139 #[iv q1, iv q2, iv q3, iv 2, iv 1, iv 1, iv 1, iv 1, .unset] [(.int 1)])) := fun t q => by
          refine k_559 t ?_
          refine st560.trans ?_
          show Steps _ _ _ (T560.setTop (mkF m 125 #[iv q1, iv q2, iv q3, iv 2, iv 1, iv 1, iv 1, .unset, .unset] [(.int 1)])) _
          refine XS.istore X560.here hx rfl (hb hby at_125) rfl (l' := #[iv q1, iv q2, iv q3, iv 2, iv 1, iv 1, iv 1, iv 1, .unset]) rfl ?_
          show Steps _ _ _ (T560.setTop (mkF m 127 #[iv q1, iv q2, iv q3, iv 2, iv 1, iv 1, iv 1, iv 1, .unset] [])) _
          refine XS.iload X560.here hx rfl (hb hby at_127) rfl ?_
          show Steps _ _ _ (T560.setTop (mkF m 129 #[iv q1, iv q2, iv q3, iv 2, iv 1, iv 1, iv 1, iv 1, .unset] [(.int 1)])) _
          refine XS.iload X560.here hx rfl (hb hby at_129) rfl ?_
          show Steps _ _ _ (T560.setTop (mkF m 131 #[iv q1, iv q2, iv q3, iv 2, iv 1, iv 1, iv 1, iv 1, .unset] [(.int 1), (.int 1)])) _
          refine XS.icmpNo X560.here hx rfl (hb hby at_131) rfl (by decide) ?_
          show Steps _ _ _ (T560.setTop (mkF m 134 #[iv q1, iv q2, iv q3, iv 2, iv 1, iv 1, iv 1, iv 1, .unset] [])) _
          refine XS.iconst X560.here hx rfl (hb hby at_134) ?_
          show Steps _ _ _ (T560.setTop (mkF m 135 #[iv q1, iv q2, iv q3, iv 2, iv 1, iv 1, iv 1, iv 1, .unset] [(.int 1)])) _
          refine XS.goto X560.here hx rfl (pc0 := 135) (pc' := 139) rfl (hb hby at_135) (by decide) (by decide) ?_
          show Steps _ _ _ (T560.setTop (mkF m 139 #[iv q1, iv q2, iv q3, iv 2, iv 1, iv 1, iv 1, iv 1, .unset] [(.int 1)])) _
          exact q
        obtain ⟨fs, hr, hrun, hended, hW, hsame⟩ := X560.leave (v := some (.int 1)) (fun h => by rw [Bd.returns] at h; cases h)
        refine ⟨_, _, k_561 _ ?_, hrun, hended, _, _, rfl, ?_, ⟨_, rfl⟩, hW, hsame.mono (by decide) (by decide)⟩
        · exact retN X560 hx (t := .boolean) Bd.returns (by simp) (hb hby at_139) hr
        · show Q0 n0 _ T560.heap _
          rw [e560]
          exact ⟨rfl, N560⟩
      · skip
        have k_562 : Go p.tables e below (s₁.setTop (entryFrame m #[(.int q1), (.int q2), (.int q3)] maxLocals)) (s₁.setTop (mkF m 112 #[iv q1, iv q2, iv q3, iv 2, iv 2, iv 1, iv 1, .unset, .unset] [(.int 2)])) := fun t q => by
          refine k0 t ?_
          refine XS.iloadN X0.here hx rfl (hb hby at_0) rfl ?_
          show Steps _ _ _ (s₁.setTop (mkF m 1 #[iv q1, iv q2, iv q3, .unset, .unset, .unset, .unset, .unset, .unset] [(.int q1)])) _
          refine XS.iconst X0.here hx rfl (hb hby at_1) ?_
          show Steps _ _ _ (s₁.setTop (mkF m 2 #[iv q1, iv q2, iv q3, .unset, .unset, .unset, .unset, .unset, .unset] [(.int 3), (.int q1)])) _
          refine XS.iand X0.here hx rfl (hb hby at_2) rfl ?_
          show Steps _ _ _ (s₁.setTop (mkF m 3 #[iv q1, iv q2, iv q3, .unset, .unset, .unset, .unset, .unset, .unset] [(.int (q1 &&& (3 : Int32)))])) _
          rw [hi]
          show Steps _ _ _ (s₁.setTop (mkF m 3 #[iv q1, iv q2, iv q3, .unset, .unset, .unset, .unset, .unset, .unset] [(.int 2)])) _
          refine XS.istoreN X0.here hx rfl (hb hby at_3) rfl (l' := #[iv q1, iv q2, iv q3, iv 2, .unset, .unset, .unset, .unset, .unset]) rfl ?_
          show Steps _ _ _ (s₁.setTop (mkF m 4 #[iv q1, iv q2, iv q3, iv 2, .unset, .unset, .unset, .unset, .unset] [])) _
          refine XS.iloadN X0.here hx rfl (hb hby at_4) rfl ?_
          show Steps _ _ _ (s₁.setTop (mkF m 5 #[iv q1, iv q2, iv q3, iv 2, .unset, .unset, .unset, .unset, .unset] [(.int q2)])) _
          refine XS.iconst X0.here hx rfl (hb hby at_5) ?_
          show Steps _ _ _ (s₁.setTop (mkF m 6 #[iv q1, iv q2, iv q3, iv 2, .unset, .unset, .unset, .unset, .unset] [(.int 3), (.int q2)])) _
          refine XS.iand X0.here hx rfl (hb hby at_6) rfl ?_
          show Steps _ _ _ (s₁.setTop (mkF m 7 #[iv q1, iv q2, iv q3, iv 2, .unset, .unset, .unset, .unset, .unset] [(.int (q2 &&& (3 : Int32)))])) _
          rw [hj]
          show Steps _ _ _ (s₁.setTop (mkF m 7 #[iv q1, iv q2, iv q3, iv 2, .unset, .unset, .unset, .unset, .unset] [(.int 2)])) _
          refine XS.istore X0.here hx rfl (hb hby at_7) rfl (l' := #[iv q1, iv q2, iv q3, iv 2, iv 2, .unset, .unset, .unset, .unset]) rfl ?_
          show Steps _ _ _ (s₁.setTop (mkF m 9 #[iv q1, iv q2, iv q3, iv 2, iv 2, .unset, .unset, .unset, .unset] [])) _
          refine XS.iloadN X0.here hx rfl (hb hby at_9) rfl ?_
          show Steps _ _ _ (s₁.setTop (mkF m 10 #[iv q1, iv q2, iv q3, iv 2, iv 2, .unset, .unset, .unset, .unset] [(.int q3)])) _
          refine XS.iconst X0.here hx rfl (hb hby at_10) ?_
          show Steps _ _ _ (s₁.setTop (mkF m 11 #[iv q1, iv q2, iv q3, iv 2, iv 2, .unset, .unset, .unset, .unset] [(.int 1), (.int q3)])) _
          refine XS.iand X0.here hx rfl (hb hby at_11) rfl ?_
          show Steps _ _ _ (s₁.setTop (mkF m 12 #[iv q1, iv q2, iv q3, iv 2, iv 2, .unset, .unset, .unset, .unset] [(.int (q3 &&& (1 : Int32)))])) _
          rw [hs]
          show Steps _ _ _ (s₁.setTop (mkF m 12 #[iv q1, iv q2, iv q3, iv 2, iv 2, .unset, .unset, .unset, .unset] [(.int 1)])) _
          refine XS.ifNo X0.here hx rfl (hb hby at_12) rfl (by decide) ?_
          show Steps _ _ _ (s₁.setTop (mkF m 15 #[iv q1, iv q2, iv q3, iv 2, iv 2, .unset, .unset, .unset, .unset] [])) _
          refine XS.iconst X0.here hx rfl (hb hby at_15) ?_
          show Steps _ _ _ (s₁.setTop (mkF m 16 #[iv q1, iv q2, iv q3, iv 2, iv 2, .unset, .unset, .unset, .unset] [(.int 1)])) _
          refine XS.goto X0.here hx rfl (pc0 := 16) (pc' := 20) rfl (hb hby at_16) (by decide) (by decide) ?_
          show Steps _ _ _ (s₁.setTop (mkF m 20 #[iv q1, iv q2, iv q3, iv 2, iv 2, .unset, .unset, .unset, .unset] [(.int 1)])) _
          refine XS.istore X0.here hx rfl (hb hby at_20) rfl (l' := #[iv q1, iv q2, iv q3, iv 2, iv 2, iv 1, .unset, .unset, .unset]) rfl ?_
          show Steps _ _ _ (s₁.setTop (mkF m 22 #[iv q1, iv q2, iv q3, iv 2, iv 2, iv 1, .unset, .unset, .unset] [])) _
          refine XS.iloadN X0.here hx rfl (hb hby at_22) rfl ?_
          show Steps _ _ _ (s₁.setTop (mkF m 23 #[iv q1, iv q2, iv q3, iv 2, iv 2, iv 1, .unset, .unset, .unset] [(.int 2)])) _
          refine XS.iconst X0.here hx rfl (hb hby at_23) ?_
          show Steps _ _ _ (s₁.setTop (mkF m 24 #[iv q1, iv q2, iv q3, iv 2, iv 2, iv 1, .unset, .unset, .unset] [(.int 3), (.int 2)])) _
          refine XS.icmpNo X0.here hx rfl (hb hby at_24) rfl (by decide) ?_
          show Steps _ _ _ (s₁.setTop (mkF m 27 #[iv q1, iv q2, iv q3, iv 2, iv 2, iv 1, .unset, .unset, .unset] [])) _
          refine XS.iload X0.here hx rfl (hb hby at_27) rfl ?_
          show Steps _ _ _ (s₁.setTop (mkF m 29 #[iv q1, iv q2, iv q3, iv 2, iv 2, iv 1, .unset, .unset, .unset] [(.int 2)])) _
          refine XS.iconst X0.here hx rfl (hb hby at_29) ?_
          show Steps _ _ _ (s₁.setTop (mkF m 30 #[iv q1, iv q2, iv q3, iv 2, iv 2, iv 1, .unset, .unset, .unset] [(.int 3), (.int 2)])) _
          refine XS.icmpYes X0.here hx rfl (pc0 := 30) (pc' := 39) rfl (hb hby at_30) rfl (by decide) (by decide) (by decide) ?_
          show Steps _ _ _ (s₁.setTop (mkF m 39 #[iv q1, iv q2, iv q3, iv 2, iv 2, iv 1, .unset, .unset, .unset] [])) _
          refine XS.iload X0.here hx rfl (hb hby at_39) rfl ?_
          show Steps _ _ _ (s₁.setTop (mkF m 41 #[iv q1, iv q2, iv q3, iv 2, iv 2, iv 1, .unset, .unset, .unset] [(.int 1)])) _
          refine XS.ifNo X0.here hx rfl (hb hby at_41) rfl (by decide) ?_
          show Steps _ _ _ (s₁.setTop (mkF m 44 #[iv q1, iv q2, iv q3, iv 2, iv 2, iv 1, .unset, .unset, .unset] [])) _
          refine XS.iconst X0.here hx rfl (hb hby at_44) ?_
          show Steps _ _ _ (s₁.setTop (mkF m 45 #[iv q1, iv q2, iv q3, iv 2, iv 2, iv 1, .unset, .unset, .unset] [(.int 1)])) _
          refine XS.istore X0.here hx rfl (hb hby at_45) rfl (l' := #[iv q1, iv q2, iv q3, iv 2, iv 2, iv 1, iv 1, .unset, .unset]) rfl ?_
          show Steps _ _ _ (s₁.setTop (mkF m 47 #[iv q1, iv q2, iv q3, iv 2, iv 2, iv 1, iv 1, .unset, .unset] [])) _
          refine XS.goto X0.here hx rfl (pc0 := 47) (pc' := 111) rfl (hb hby at_47) (by decide) (by decide) ?_
          show Steps _ _ _ (s₁.setTop (mkF m 111 #[iv q1, iv q2, iv q3, iv 2, iv 2, iv 1, iv 1, .unset, .unset] [])) _
          refine XS.iloadN X0.here hx rfl (hb hby at_111) rfl ?_
          show Steps _ _ _ (s₁.setTop (mkF m 112 #[iv q1, iv q2, iv q3, iv 2, iv 2, iv 1, iv 1, .unset, .unset] [(.int 2)])) _
          exact q
        obtain ⟨_, _, ⟨T563, L563, k563, n563⟩, -, X563, ⟨Lc563, hQ563, l563, y563, z563⟩, st563⟩ := Jvm.LawKit.callS X0 hx (y := y_2) hown (mvT hZ (hw _ (wd 0 rfl))) (mvT hZ (hw _ (wd 1 rfl))) (mvT hZ (hw _ (wd 2 rfl))) (mvT hZ (hw _ (wd 3 rfl))) (by decide) (backOf (W := 0) (kd l Z a0 hw [] a_NEXT_KEY a_GAP a_RECORD a_INSERT_INTENTION G (2 : Int32) 2 h0 n0 O0 (Or.inr (Or.inr (Or.inl ⟨by decide, rfl⟩)))) hZ (hw _ (wd 3 rfl)) (hw _ (wd 2 rfl)) (by decide) (by decide)) (g := (mkF m 112 #[iv q1, iv q2, iv q3, iv 2, iv 2, iv 1, iv 1, .unset, .unset] [(.int 2)])) rfl (by rw [hml]; rfl) (argsL := [(.int 2)]) (rest := []) (lenOf pd_1 rfl) rfl (by show 2 * 0 + _ ≤ _; exact Nat.le_of_eq rfl) (hb hby at_112) (fun _ _ => ⟨rfl, e0, (by decide : 0 + 1 ≤ _), (by decide : 0 + 4 ≤ _)⟩)
        dsimp only [Pt.U, Pt.locs, Pt.cells, Pt.slots] at X563 l563 y563 z563 st563 hQ563
        subst l563 y563 z563
        obtain ⟨rfl, N563q, K563⟩ := hQ563
        have N563 := Fr.app N0 N563q
        have O_564 := O0.keep K563 all0
        have K_565 := K0.trans K563 all0
        have k_566 : Go p.tables e below (s₁.setTop (entryFrame m #[(.int q1), (.int q2), (.int q3)] maxLocals)) (T563.setTop (mkF m 117 #[iv q1, iv q2, iv q3, iv 2, iv 2, iv 1, iv 1, .unset, .unset] [(.int 2), (.ref a_RECORD)])) := fun t q => by
          refine k_562 t ?_
          refine st563 _ ?_
          show Steps _ _ _ (T563.setTop (mkF m 115 #[iv q1, iv q2, iv q3, iv 2, iv 2, iv 1, iv 1, .unset, .unset] [(.ref a_RECORD)])) _
          refine XS.iload X563.here hx rfl (hb hby at_115) rfl ?_
          show Steps _ _ _ (T563.setTop (mkF m 117 #[iv q1, iv q2, iv q3, iv 2, iv 2, iv 1, iv 1, .unset, .unset] [(.int 2), (.ref a_RECORD)])) _
          exact q
        obtain ⟨_, _, ⟨T567, L567, k567, n567⟩, -, X567, ⟨Lc567, hQ567, l567, y567, z567⟩, st567⟩ := Jvm.LawKit.callS X563 hx (y := y_2) hown (mvT hZ (hw _ (wd 0 rfl))) (mvT hZ (hw _ (wd 1 rfl))) (mvT hZ (hw _ (wd 2 rfl))) (mvT hZ (hw _ (wd 3 rfl))) (by decide) (backOf (W := 1) (kd l Z a0 hw [] a_NEXT_KEY a_GAP a_RECORD a_INSERT_INTENTION G (2 : Int32) 2 T563.heap n0 O_564 (Or.inr (Or.inr (Or.inl ⟨by decide, rfl⟩)))) hZ (hw _ (wd 3 rfl)) (hw _ (wd 2 rfl)) (by decide) (by decide)) (g := (mkF m 117 #[iv q1, iv q2, iv q3, iv 2, iv 2, iv 1, iv 1, .unset, .unset] [(.int 2), (.ref a_RECORD)])) rfl (by rw [hml]; rfl) (argsL := [(.int 2)]) (rest := [(.ref a_RECORD)]) (lenOf pd_1 rfl) rfl (by show 2 * 0 + _ ≤ _; exact Nat.le_of_eq rfl) (hb hby at_117) (fun _ _ => ⟨rfl, (rfl : T563.heap = _), (by decide : 1 + 1 ≤ _), (by decide : 4 + 4 ≤ _)⟩)
        dsimp only [Pt.U, Pt.locs, Pt.cells, Pt.slots] at X567 l567 y567 z567 st567 hQ567
        subst l567 y567 z567
        obtain ⟨rfl, N567q, K567⟩ := hQ567
        have N567 := Fr.app N563 N567q
        have O_568 := O_564.keep K567 all0
        have K_569 := K_565.trans K567 all0
        have k_570 : Go p.tables e below (s₁.setTop (entryFrame m #[(.int q1), (.int q2), (.int q3)] maxLocals)) (T567.setTop (mkF m 122 #[iv q1, iv q2, iv q3, iv 2, iv 2, iv 1, iv 1, .unset, .unset] [(.int 1), (.ref a_RECORD), (.ref a_RECORD)])) := fun t q => by
          refine k_566 t ?_
          refine st567 _ ?_
          show Steps _ _ _ (T567.setTop (mkF m 120 #[iv q1, iv q2, iv q3, iv 2, iv 2, iv 1, iv 1, .unset, .unset] [(.ref a_RECORD), (.ref a_RECORD)])) _
          refine XS.iload X567.here hx rfl (hb hby at_120) rfl ?_
          show Steps _ _ _ (T567.setTop (mkF m 122 #[iv q1, iv q2, iv q3, iv 2, iv 2, iv 1, iv 1, .unset, .unset] [(.int 1), (.ref a_RECORD), (.ref a_RECORD)])) _
          exact q
        obtain ⟨cq571, kq571, q571a, q571b, q571c⟩ := isOf hZ (rfl : T567.heap = _) (Exa.ext O_568.2 E_RECORD)
        obtain ⟨_, _, ⟨T571, L571, k571, n571⟩, -, X571, ⟨Lc571, hQ571, l571, y571, z571⟩, st571⟩ := X567.virtualBack hx (y := y_3) (z := y_3) hown (mvT hZ (hw _ (wd 16 rfl))) (mvT hZ (hw _ (wd 17 rfl))) (notFace_of_selects (args := #[]) (mvT hZ (hw _ (wd 19 rfl)))) (mvT hZ (hw _ (wd 19 rfl))) (mvT hZ (hw _ (wd 18 rfl))) (by decide) (backOf (W := 0) (cv_2_2_1 l Z a0 hw [] a_NEXT_KEY a_GAP a_RECORD a_INSERT_INTENTION G  T567.heap n0 O_568 ) hZ (hw _ (wd 20 rfl)) (hw _ (wd 7 rfl)) (by decide) (by decide)) q571a q571c (g := (mkF m 122 #[iv q1, iv q2, iv q3, iv 2, iv 2, iv 1, iv 1, .unset, .unset] [(.int 1), (.ref a_RECORD), (.ref a_RECORD)])) rfl (by rw [hml]; rfl) (Steps.refl _) (argsL := [(.ref a_RECORD), (.int 1)]) (rest := []) (lenOf pd_2 rfl) rfl (by show 2 * 0 + _ ≤ _; exact Nat.le_of_eq rfl) (hb hby at_122) (fun _ _ => ⟨rfl, (rfl : T567.heap = _), (by decide : 2 + 0 ≤ _), (by decide : 8 + 0 ≤ _)⟩)
        dsimp only [Pt.U, Pt.locs, Pt.cells, Pt.slots] at X571 l571 y571 z571 st571 hQ571
        subst l571 y571 z571
        obtain ⟨rfl, N571q, e571⟩ := hQ571
        have N571 := Fr.app N567 N571q
        have k_572 : Go p.tables e below (s₁.setTop (entryFrame m #[(.int q1), (.int q2), (.int q3)] maxLocals)) (T571.setTop (mkF m 139 #[iv q1, iv q2, iv q3, iv 2, iv 2, iv 1, iv 1, iv 1, .unset] [(.int 1)])) := fun t q => by
          refine k_570 t ?_
          refine st571.trans ?_
          show Steps _ _ _ (T571.setTop (mkF m 125 #[iv q1, iv q2, iv q3, iv 2, iv 2, iv 1, iv 1, .unset, .unset] [(.int 1)])) _
          refine XS.istore X571.here hx rfl (hb hby at_125) rfl (l' := #[iv q1, iv q2, iv q3, iv 2, iv 2, iv 1, iv 1, iv 1, .unset]) rfl ?_
          show Steps _ _ _ (T571.setTop (mkF m 127 #[iv q1, iv q2, iv q3, iv 2, iv 2, iv 1, iv 1, iv 1, .unset] [])) _
          refine XS.iload X571.here hx rfl (hb hby at_127) rfl ?_
          show Steps _ _ _ (T571.setTop (mkF m 129 #[iv q1, iv q2, iv q3, iv 2, iv 2, iv 1, iv 1, iv 1, .unset] [(.int 1)])) _
          refine XS.iload X571.here hx rfl (hb hby at_129) rfl ?_
          show Steps _ _ _ (T571.setTop (mkF m 131 #[iv q1, iv q2, iv q3, iv 2, iv 2, iv 1, iv 1, iv 1, .unset] [(.int 1), (.int 1)])) _
          refine XS.icmpNo X571.here hx rfl (hb hby at_131) rfl (by decide) ?_
          show Steps _ _ _ (T571.setTop (mkF m 134 #[iv q1, iv q2, iv q3, iv 2, iv 2, iv 1, iv 1, iv 1, .unset] [])) _
          refine XS.iconst X571.here hx rfl (hb hby at_134) ?_
          show Steps _ _ _ (T571.setTop (mkF m 135 #[iv q1, iv q2, iv q3, iv 2, iv 2, iv 1, iv 1, iv 1, .unset] [(.int 1)])) _
          refine XS.goto X571.here hx rfl (pc0 := 135) (pc' := 139) rfl (hb hby at_135) (by decide) (by decide) ?_
          show Steps _ _ _ (T571.setTop (mkF m 139 #[iv q1, iv q2, iv q3, iv 2, iv 2, iv 1, iv 1, iv 1, .unset] [(.int 1)])) _
          exact q
        obtain ⟨fs, hr, hrun, hended, hW, hsame⟩ := X571.leave (v := some (.int 1)) (fun h => by rw [Bd.returns] at h; cases h)
        refine ⟨_, _, k_572 _ ?_, hrun, hended, _, _, rfl, ?_, ⟨_, rfl⟩, hW, hsame.mono (by decide) (by decide)⟩
        · exact retN X571 hx (t := .boolean) Bd.returns (by simp) (hb hby at_139) hr
        · show Q0 n0 _ T571.heap _
          rw [e571]
          exact ⟨rfl, N571⟩
      · skip
        have k_573 : Go p.tables e below (s₁.setTop (entryFrame m #[(.int q1), (.int q2), (.int q3)] maxLocals)) (s₁.setTop (mkF m 112 #[iv q1, iv q2, iv q3, iv 2, iv 3, iv 1, iv 0, .unset, .unset] [(.int 2)])) := fun t q => by
          refine k0 t ?_
          refine XS.iloadN X0.here hx rfl (hb hby at_0) rfl ?_
          show Steps _ _ _ (s₁.setTop (mkF m 1 #[iv q1, iv q2, iv q3, .unset, .unset, .unset, .unset, .unset, .unset] [(.int q1)])) _
          refine XS.iconst X0.here hx rfl (hb hby at_1) ?_
          show Steps _ _ _ (s₁.setTop (mkF m 2 #[iv q1, iv q2, iv q3, .unset, .unset, .unset, .unset, .unset, .unset] [(.int 3), (.int q1)])) _
          refine XS.iand X0.here hx rfl (hb hby at_2) rfl ?_
          show Steps _ _ _ (s₁.setTop (mkF m 3 #[iv q1, iv q2, iv q3, .unset, .unset, .unset, .unset, .unset, .unset] [(.int (q1 &&& (3 : Int32)))])) _
          rw [hi]
          show Steps _ _ _ (s₁.setTop (mkF m 3 #[iv q1, iv q2, iv q3, .unset, .unset, .unset, .unset, .unset, .unset] [(.int 2)])) _
          refine XS.istoreN X0.here hx rfl (hb hby at_3) rfl (l' := #[iv q1, iv q2, iv q3, iv 2, .unset, .unset, .unset, .unset, .unset]) rfl ?_
          show Steps _ _ _ (s₁.setTop (mkF m 4 #[iv q1, iv q2, iv q3, iv 2, .unset, .unset, .unset, .unset, .unset] [])) _
          refine XS.iloadN X0.here hx rfl (hb hby at_4) rfl ?_
          show Steps _ _ _ (s₁.setTop (mkF m 5 #[iv q1, iv q2, iv q3, iv 2, .unset, .unset, .unset, .unset, .unset] [(.int q2)])) _
          refine XS.iconst X0.here hx rfl (hb hby at_5) ?_
          show Steps _ _ _ (s₁.setTop (mkF m 6 #[iv q1, iv q2, iv q3, iv 2, .unset, .unset, .unset, .unset, .unset] [(.int 3), (.int q2)])) _
          refine XS.iand X0.here hx rfl (hb hby at_6) rfl ?_
          show Steps _ _ _ (s₁.setTop (mkF m 7 #[iv q1, iv q2, iv q3, iv 2, .unset, .unset, .unset, .unset, .unset] [(.int (q2 &&& (3 : Int32)))])) _
          rw [hj]
          show Steps _ _ _ (s₁.setTop (mkF m 7 #[iv q1, iv q2, iv q3, iv 2, .unset, .unset, .unset, .unset, .unset] [(.int 3)])) _
          refine XS.istore X0.here hx rfl (hb hby at_7) rfl (l' := #[iv q1, iv q2, iv q3, iv 2, iv 3, .unset, .unset, .unset, .unset]) rfl ?_
          show Steps _ _ _ (s₁.setTop (mkF m 9 #[iv q1, iv q2, iv q3, iv 2, iv 3, .unset, .unset, .unset, .unset] [])) _
          refine XS.iloadN X0.here hx rfl (hb hby at_9) rfl ?_
          show Steps _ _ _ (s₁.setTop (mkF m 10 #[iv q1, iv q2, iv q3, iv 2, iv 3, .unset, .unset, .unset, .unset] [(.int q3)])) _
          refine XS.iconst X0.here hx rfl (hb hby at_10) ?_
          show Steps _ _ _ (s₁.setTop (mkF m 11 #[iv q1, iv q2, iv q3, iv 2, iv 3, .unset, .unset, .unset, .unset] [(.int 1), (.int q3)])) _
          refine XS.iand X0.here hx rfl (hb hby at_11) rfl ?_
          show Steps _ _ _ (s₁.setTop (mkF m 12 #[iv q1, iv q2, iv q3, iv 2, iv 3, .unset, .unset, .unset, .unset] [(.int (q3 &&& (1 : Int32)))])) _
          rw [hs]
          show Steps _ _ _ (s₁.setTop (mkF m 12 #[iv q1, iv q2, iv q3, iv 2, iv 3, .unset, .unset, .unset, .unset] [(.int 1)])) _
          refine XS.ifNo X0.here hx rfl (hb hby at_12) rfl (by decide) ?_
          show Steps _ _ _ (s₁.setTop (mkF m 15 #[iv q1, iv q2, iv q3, iv 2, iv 3, .unset, .unset, .unset, .unset] [])) _
          refine XS.iconst X0.here hx rfl (hb hby at_15) ?_
          show Steps _ _ _ (s₁.setTop (mkF m 16 #[iv q1, iv q2, iv q3, iv 2, iv 3, .unset, .unset, .unset, .unset] [(.int 1)])) _
          refine XS.goto X0.here hx rfl (pc0 := 16) (pc' := 20) rfl (hb hby at_16) (by decide) (by decide) ?_
          show Steps _ _ _ (s₁.setTop (mkF m 20 #[iv q1, iv q2, iv q3, iv 2, iv 3, .unset, .unset, .unset, .unset] [(.int 1)])) _
          refine XS.istore X0.here hx rfl (hb hby at_20) rfl (l' := #[iv q1, iv q2, iv q3, iv 2, iv 3, iv 1, .unset, .unset, .unset]) rfl ?_
          show Steps _ _ _ (s₁.setTop (mkF m 22 #[iv q1, iv q2, iv q3, iv 2, iv 3, iv 1, .unset, .unset, .unset] [])) _
          refine XS.iloadN X0.here hx rfl (hb hby at_22) rfl ?_
          show Steps _ _ _ (s₁.setTop (mkF m 23 #[iv q1, iv q2, iv q3, iv 2, iv 3, iv 1, .unset, .unset, .unset] [(.int 2)])) _
          refine XS.iconst X0.here hx rfl (hb hby at_23) ?_
          show Steps _ _ _ (s₁.setTop (mkF m 24 #[iv q1, iv q2, iv q3, iv 2, iv 3, iv 1, .unset, .unset, .unset] [(.int 3), (.int 2)])) _
          refine XS.icmpNo X0.here hx rfl (hb hby at_24) rfl (by decide) ?_
          show Steps _ _ _ (s₁.setTop (mkF m 27 #[iv q1, iv q2, iv q3, iv 2, iv 3, iv 1, .unset, .unset, .unset] [])) _
          refine XS.iload X0.here hx rfl (hb hby at_27) rfl ?_
          show Steps _ _ _ (s₁.setTop (mkF m 29 #[iv q1, iv q2, iv q3, iv 2, iv 3, iv 1, .unset, .unset, .unset] [(.int 3)])) _
          refine XS.iconst X0.here hx rfl (hb hby at_29) ?_
          show Steps _ _ _ (s₁.setTop (mkF m 30 #[iv q1, iv q2, iv q3, iv 2, iv 3, iv 1, .unset, .unset, .unset] [(.int 3), (.int 3)])) _
          refine XS.icmpNo X0.here hx rfl (hb hby at_30) rfl (by decide) ?_
          show Steps _ _ _ (s₁.setTop (mkF m 33 #[iv q1, iv q2, iv q3, iv 2, iv 3, iv 1, .unset, .unset, .unset] [])) _
          refine XS.iconst X0.here hx rfl (hb hby at_33) ?_
          show Steps _ _ _ (s₁.setTop (mkF m 34 #[iv q1, iv q2, iv q3, iv 2, iv 3, iv 1, .unset, .unset, .unset] [(.int 0)])) _
          refine XS.istore X0.here hx rfl (hb hby at_34) rfl (l' := #[iv q1, iv q2, iv q3, iv 2, iv 3, iv 1, iv 0, .unset, .unset]) rfl ?_
          show Steps _ _ _ (s₁.setTop (mkF m 36 #[iv q1, iv q2, iv q3, iv 2, iv 3, iv 1, iv 0, .unset, .unset] [])) _
          refine XS.goto X0.here hx rfl (pc0 := 36) (pc' := 111) rfl (hb hby at_36) (by decide) (by decide) ?_
          show Steps _ _ _ (s₁.setTop (mkF m 111 #[iv q1, iv q2, iv q3, iv 2, iv 3, iv 1, iv 0, .unset, .unset] [])) _
          refine XS.iloadN X0.here hx rfl (hb hby at_111) rfl ?_
          show Steps _ _ _ (s₁.setTop (mkF m 112 #[iv q1, iv q2, iv q3, iv 2, iv 3, iv 1, iv 0, .unset, .unset] [(.int 2)])) _
          exact q
        obtain ⟨_, _, ⟨T574, L574, k574, n574⟩, -, X574, ⟨Lc574, hQ574, l574, y574, z574⟩, st574⟩ := Jvm.LawKit.callS X0 hx (y := y_2) hown (mvT hZ (hw _ (wd 0 rfl))) (mvT hZ (hw _ (wd 1 rfl))) (mvT hZ (hw _ (wd 2 rfl))) (mvT hZ (hw _ (wd 3 rfl))) (by decide) (backOf (W := 0) (kd l Z a0 hw [] a_NEXT_KEY a_GAP a_RECORD a_INSERT_INTENTION G (2 : Int32) 2 h0 n0 O0 (Or.inr (Or.inr (Or.inl ⟨by decide, rfl⟩)))) hZ (hw _ (wd 3 rfl)) (hw _ (wd 2 rfl)) (by decide) (by decide)) (g := (mkF m 112 #[iv q1, iv q2, iv q3, iv 2, iv 3, iv 1, iv 0, .unset, .unset] [(.int 2)])) rfl (by rw [hml]; rfl) (argsL := [(.int 2)]) (rest := []) (lenOf pd_1 rfl) rfl (by show 2 * 0 + _ ≤ _; exact Nat.le_of_eq rfl) (hb hby at_112) (fun _ _ => ⟨rfl, e0, (by decide : 0 + 1 ≤ _), (by decide : 0 + 4 ≤ _)⟩)
        dsimp only [Pt.U, Pt.locs, Pt.cells, Pt.slots] at X574 l574 y574 z574 st574 hQ574
        subst l574 y574 z574
        obtain ⟨rfl, N574q, K574⟩ := hQ574
        have N574 := Fr.app N0 N574q
        have O_575 := O0.keep K574 all0
        have K_576 := K0.trans K574 all0
        have k_577 : Go p.tables e below (s₁.setTop (entryFrame m #[(.int q1), (.int q2), (.int q3)] maxLocals)) (T574.setTop (mkF m 117 #[iv q1, iv q2, iv q3, iv 2, iv 3, iv 1, iv 0, .unset, .unset] [(.int 3), (.ref a_RECORD)])) := fun t q => by
          refine k_573 t ?_
          refine st574 _ ?_
          show Steps _ _ _ (T574.setTop (mkF m 115 #[iv q1, iv q2, iv q3, iv 2, iv 3, iv 1, iv 0, .unset, .unset] [(.ref a_RECORD)])) _
          refine XS.iload X574.here hx rfl (hb hby at_115) rfl ?_
          show Steps _ _ _ (T574.setTop (mkF m 117 #[iv q1, iv q2, iv q3, iv 2, iv 3, iv 1, iv 0, .unset, .unset] [(.int 3), (.ref a_RECORD)])) _
          exact q
        obtain ⟨_, _, ⟨T578, L578, k578, n578⟩, -, X578, ⟨Lc578, hQ578, l578, y578, z578⟩, st578⟩ := Jvm.LawKit.callS X574 hx (y := y_2) hown (mvT hZ (hw _ (wd 0 rfl))) (mvT hZ (hw _ (wd 1 rfl))) (mvT hZ (hw _ (wd 2 rfl))) (mvT hZ (hw _ (wd 3 rfl))) (by decide) (backOf (W := 1) (kd l Z a0 hw [] a_NEXT_KEY a_GAP a_RECORD a_INSERT_INTENTION G (3 : Int32) 3 T574.heap n0 O_575 (Or.inr (Or.inr (Or.inr ⟨by decide, rfl⟩)))) hZ (hw _ (wd 3 rfl)) (hw _ (wd 2 rfl)) (by decide) (by decide)) (g := (mkF m 117 #[iv q1, iv q2, iv q3, iv 2, iv 3, iv 1, iv 0, .unset, .unset] [(.int 3), (.ref a_RECORD)])) rfl (by rw [hml]; rfl) (argsL := [(.int 3)]) (rest := [(.ref a_RECORD)]) (lenOf pd_1 rfl) rfl (by show 2 * 0 + _ ≤ _; exact Nat.le_of_eq rfl) (hb hby at_117) (fun _ _ => ⟨rfl, (rfl : T574.heap = _), (by decide : 1 + 1 ≤ _), (by decide : 4 + 4 ≤ _)⟩)
        dsimp only [Pt.U, Pt.locs, Pt.cells, Pt.slots] at X578 l578 y578 z578 st578 hQ578
        subst l578 y578 z578
        obtain ⟨rfl, N578q, K578⟩ := hQ578
        have N578 := Fr.app N574 N578q
        have O_579 := O_575.keep K578 all0
        have K_580 := K_576.trans K578 all0
        have k_581 : Go p.tables e below (s₁.setTop (entryFrame m #[(.int q1), (.int q2), (.int q3)] maxLocals)) (T578.setTop (mkF m 122 #[iv q1, iv q2, iv q3, iv 2, iv 3, iv 1, iv 0, .unset, .unset] [(.int 1), (.ref a_INSERT_INTENTION), (.ref a_RECORD)])) := fun t q => by
          refine k_577 t ?_
          refine st578 _ ?_
          show Steps _ _ _ (T578.setTop (mkF m 120 #[iv q1, iv q2, iv q3, iv 2, iv 3, iv 1, iv 0, .unset, .unset] [(.ref a_INSERT_INTENTION), (.ref a_RECORD)])) _
          refine XS.iload X578.here hx rfl (hb hby at_120) rfl ?_
          show Steps _ _ _ (T578.setTop (mkF m 122 #[iv q1, iv q2, iv q3, iv 2, iv 3, iv 1, iv 0, .unset, .unset] [(.int 1), (.ref a_INSERT_INTENTION), (.ref a_RECORD)])) _
          exact q
        obtain ⟨cq582, kq582, q582a, q582b, q582c⟩ := isOf hZ (rfl : T578.heap = _) (Exa.ext O_579.2 E_RECORD)
        obtain ⟨_, _, ⟨T582, L582, k582, n582⟩, -, X582, ⟨Lc582, hQ582, l582, y582, z582⟩, st582⟩ := X578.virtualBack hx (y := y_3) (z := y_3) hown (mvT hZ (hw _ (wd 16 rfl))) (mvT hZ (hw _ (wd 17 rfl))) (notFace_of_selects (args := #[]) (mvT hZ (hw _ (wd 19 rfl)))) (mvT hZ (hw _ (wd 19 rfl))) (mvT hZ (hw _ (wd 18 rfl))) (by decide) (backOf (W := 0) (cv_2_3_1 l Z a0 hw [] a_NEXT_KEY a_GAP a_RECORD a_INSERT_INTENTION G  T578.heap n0 O_579 ) hZ (hw _ (wd 20 rfl)) (hw _ (wd 7 rfl)) (by decide) (by decide)) q582a q582c (g := (mkF m 122 #[iv q1, iv q2, iv q3, iv 2, iv 3, iv 1, iv 0, .unset, .unset] [(.int 1), (.ref a_INSERT_INTENTION), (.ref a_RECORD)])) rfl (by rw [hml]; rfl) (Steps.refl _) (argsL := [(.ref a_INSERT_INTENTION), (.int 1)]) (rest := []) (lenOf pd_2 rfl) rfl (by show 2 * 0 + _ ≤ _; exact Nat.le_of_eq rfl) (hb hby at_122) (fun _ _ => ⟨rfl, (rfl : T578.heap = _), (by decide : 2 + 0 ≤ _), (by decide : 8 + 0 ≤ _)⟩)
        dsimp only [Pt.U, Pt.locs, Pt.cells, Pt.slots] at X582 l582 y582 z582 st582 hQ582
        subst l582 y582 z582
        obtain ⟨rfl, N582q, e582⟩ := hQ582
        have N582 := Fr.app N578 N582q
        have k_583 : Go p.tables e below (s₁.setTop (entryFrame m #[(.int q1), (.int q2), (.int q3)] maxLocals)) (T582.setTop (mkF m 139 #[iv q1, iv q2, iv q3, iv 2, iv 3, iv 1, iv 0, iv 0, .unset] [(.int 1)])) := fun t q => by
          refine k_581 t ?_
          refine st582.trans ?_
          show Steps _ _ _ (T582.setTop (mkF m 125 #[iv q1, iv q2, iv q3, iv 2, iv 3, iv 1, iv 0, .unset, .unset] [(.int 0)])) _
          refine XS.istore X582.here hx rfl (hb hby at_125) rfl (l' := #[iv q1, iv q2, iv q3, iv 2, iv 3, iv 1, iv 0, iv 0, .unset]) rfl ?_
          show Steps _ _ _ (T582.setTop (mkF m 127 #[iv q1, iv q2, iv q3, iv 2, iv 3, iv 1, iv 0, iv 0, .unset] [])) _
          refine XS.iload X582.here hx rfl (hb hby at_127) rfl ?_
          show Steps _ _ _ (T582.setTop (mkF m 129 #[iv q1, iv q2, iv q3, iv 2, iv 3, iv 1, iv 0, iv 0, .unset] [(.int 0)])) _
          refine XS.iload X582.here hx rfl (hb hby at_129) rfl ?_
          show Steps _ _ _ (T582.setTop (mkF m 131 #[iv q1, iv q2, iv q3, iv 2, iv 3, iv 1, iv 0, iv 0, .unset] [(.int 0), (.int 0)])) _
          refine XS.icmpNo X582.here hx rfl (hb hby at_131) rfl (by decide) ?_
          show Steps _ _ _ (T582.setTop (mkF m 134 #[iv q1, iv q2, iv q3, iv 2, iv 3, iv 1, iv 0, iv 0, .unset] [])) _
          refine XS.iconst X582.here hx rfl (hb hby at_134) ?_
          show Steps _ _ _ (T582.setTop (mkF m 135 #[iv q1, iv q2, iv q3, iv 2, iv 3, iv 1, iv 0, iv 0, .unset] [(.int 1)])) _
          refine XS.goto X582.here hx rfl (pc0 := 135) (pc' := 139) rfl (hb hby at_135) (by decide) (by decide) ?_
          show Steps _ _ _ (T582.setTop (mkF m 139 #[iv q1, iv q2, iv q3, iv 2, iv 3, iv 1, iv 0, iv 0, .unset] [(.int 1)])) _
          exact q
        obtain ⟨fs, hr, hrun, hended, hW, hsame⟩ := X582.leave (v := some (.int 1)) (fun h => by rw [Bd.returns] at h; cases h)
        refine ⟨_, _, k_583 _ ?_, hrun, hended, _, _, rfl, ?_, ⟨_, rfl⟩, hW, hsame.mono (by decide) (by decide)⟩
        · exact retN X582 hx (t := .boolean) Bd.returns (by simp) (hb hby at_139) hr
        · show Q0 n0 _ T582.heap _
          rw [e582]
          exact ⟨rfl, N582⟩
    · skip
      rcases own_mask_4 q2 with hj | hj | hj | hj
      · skip
        have k_584 : Go p.tables e below (s₁.setTop (entryFrame m #[(.int q1), (.int q2), (.int q3)] maxLocals)) (s₁.setTop (mkF m 112 #[iv q1, iv q2, iv q3, iv 3, iv 0, iv 1, iv 0, .unset, .unset] [(.int 3)])) := fun t q => by
          refine k0 t ?_
          refine XS.iloadN X0.here hx rfl (hb hby at_0) rfl ?_
          show Steps _ _ _ (s₁.setTop (mkF m 1 #[iv q1, iv q2, iv q3, .unset, .unset, .unset, .unset, .unset, .unset] [(.int q1)])) _
          refine XS.iconst X0.here hx rfl (hb hby at_1) ?_
          show Steps _ _ _ (s₁.setTop (mkF m 2 #[iv q1, iv q2, iv q3, .unset, .unset, .unset, .unset, .unset, .unset] [(.int 3), (.int q1)])) _
          refine XS.iand X0.here hx rfl (hb hby at_2) rfl ?_
          show Steps _ _ _ (s₁.setTop (mkF m 3 #[iv q1, iv q2, iv q3, .unset, .unset, .unset, .unset, .unset, .unset] [(.int (q1 &&& (3 : Int32)))])) _
          rw [hi]
          show Steps _ _ _ (s₁.setTop (mkF m 3 #[iv q1, iv q2, iv q3, .unset, .unset, .unset, .unset, .unset, .unset] [(.int 3)])) _
          refine XS.istoreN X0.here hx rfl (hb hby at_3) rfl (l' := #[iv q1, iv q2, iv q3, iv 3, .unset, .unset, .unset, .unset, .unset]) rfl ?_
          show Steps _ _ _ (s₁.setTop (mkF m 4 #[iv q1, iv q2, iv q3, iv 3, .unset, .unset, .unset, .unset, .unset] [])) _
          refine XS.iloadN X0.here hx rfl (hb hby at_4) rfl ?_
          show Steps _ _ _ (s₁.setTop (mkF m 5 #[iv q1, iv q2, iv q3, iv 3, .unset, .unset, .unset, .unset, .unset] [(.int q2)])) _
          refine XS.iconst X0.here hx rfl (hb hby at_5) ?_
          show Steps _ _ _ (s₁.setTop (mkF m 6 #[iv q1, iv q2, iv q3, iv 3, .unset, .unset, .unset, .unset, .unset] [(.int 3), (.int q2)])) _
          refine XS.iand X0.here hx rfl (hb hby at_6) rfl ?_
          show Steps _ _ _ (s₁.setTop (mkF m 7 #[iv q1, iv q2, iv q3, iv 3, .unset, .unset, .unset, .unset, .unset] [(.int (q2 &&& (3 : Int32)))])) _
          rw [hj]
          show Steps _ _ _ (s₁.setTop (mkF m 7 #[iv q1, iv q2, iv q3, iv 3, .unset, .unset, .unset, .unset, .unset] [(.int 0)])) _
          refine XS.istore X0.here hx rfl (hb hby at_7) rfl (l' := #[iv q1, iv q2, iv q3, iv 3, iv 0, .unset, .unset, .unset, .unset]) rfl ?_
          show Steps _ _ _ (s₁.setTop (mkF m 9 #[iv q1, iv q2, iv q3, iv 3, iv 0, .unset, .unset, .unset, .unset] [])) _
          refine XS.iloadN X0.here hx rfl (hb hby at_9) rfl ?_
          show Steps _ _ _ (s₁.setTop (mkF m 10 #[iv q1, iv q2, iv q3, iv 3, iv 0, .unset, .unset, .unset, .unset] [(.int q3)])) _
          refine XS.iconst X0.here hx rfl (hb hby at_10) ?_
          show Steps _ _ _ (s₁.setTop (mkF m 11 #[iv q1, iv q2, iv q3, iv 3, iv 0, .unset, .unset, .unset, .unset] [(.int 1), (.int q3)])) _
          refine XS.iand X0.here hx rfl (hb hby at_11) rfl ?_
          show Steps _ _ _ (s₁.setTop (mkF m 12 #[iv q1, iv q2, iv q3, iv 3, iv 0, .unset, .unset, .unset, .unset] [(.int (q3 &&& (1 : Int32)))])) _
          rw [hs]
          show Steps _ _ _ (s₁.setTop (mkF m 12 #[iv q1, iv q2, iv q3, iv 3, iv 0, .unset, .unset, .unset, .unset] [(.int 1)])) _
          refine XS.ifNo X0.here hx rfl (hb hby at_12) rfl (by decide) ?_
          show Steps _ _ _ (s₁.setTop (mkF m 15 #[iv q1, iv q2, iv q3, iv 3, iv 0, .unset, .unset, .unset, .unset] [])) _
          refine XS.iconst X0.here hx rfl (hb hby at_15) ?_
          show Steps _ _ _ (s₁.setTop (mkF m 16 #[iv q1, iv q2, iv q3, iv 3, iv 0, .unset, .unset, .unset, .unset] [(.int 1)])) _
          refine XS.goto X0.here hx rfl (pc0 := 16) (pc' := 20) rfl (hb hby at_16) (by decide) (by decide) ?_
          show Steps _ _ _ (s₁.setTop (mkF m 20 #[iv q1, iv q2, iv q3, iv 3, iv 0, .unset, .unset, .unset, .unset] [(.int 1)])) _
          refine XS.istore X0.here hx rfl (hb hby at_20) rfl (l' := #[iv q1, iv q2, iv q3, iv 3, iv 0, iv 1, .unset, .unset, .unset]) rfl ?_
          show Steps _ _ _ (s₁.setTop (mkF m 22 #[iv q1, iv q2, iv q3, iv 3, iv 0, iv 1, .unset, .unset, .unset] [])) _
          refine XS.iloadN X0.here hx rfl (hb hby at_22) rfl ?_
          show Steps _ _ _ (s₁.setTop (mkF m 23 #[iv q1, iv q2, iv q3, iv 3, iv 0, iv 1, .unset, .unset, .unset] [(.int 3)])) _
          refine XS.iconst X0.here hx rfl (hb hby at_23) ?_
          show Steps _ _ _ (s₁.setTop (mkF m 24 #[iv q1, iv q2, iv q3, iv 3, iv 0, iv 1, .unset, .unset, .unset] [(.int 3), (.int 3)])) _
          refine XS.icmpYes X0.here hx rfl (pc0 := 24) (pc' := 33) rfl (hb hby at_24) rfl (by decide) (by decide) (by decide) ?_
          show Steps _ _ _ (s₁.setTop (mkF m 33 #[iv q1, iv q2, iv q3, iv 3, iv 0, iv 1, .unset, .unset, .unset] [])) _
          refine XS.iconst X0.here hx rfl (hb hby at_33) ?_
          show Steps _ _ _ (s₁.setTop (mkF m 34 #[iv q1, iv q2, iv q3, iv 3, iv 0, iv 1, .unset, .unset, .unset] [(.int 0)])) _
          refine XS.istore X0.here hx rfl (hb hby at_34) rfl (l' := #[iv q1, iv q2, iv q3, iv 3, iv 0, iv 1, iv 0, .unset, .unset]) rfl ?_
          show Steps _ _ _ (s₁.setTop (mkF m 36 #[iv q1, iv q2, iv q3, iv 3, iv 0, iv 1, iv 0, .unset, .unset] [])) _
          refine XS.goto X0.here hx rfl (pc0 := 36) (pc' := 111) rfl (hb hby at_36) (by decide) (by decide) ?_
          show Steps _ _ _ (s₁.setTop (mkF m 111 #[iv q1, iv q2, iv q3, iv 3, iv 0, iv 1, iv 0, .unset, .unset] [])) _
          refine XS.iloadN X0.here hx rfl (hb hby at_111) rfl ?_
          show Steps _ _ _ (s₁.setTop (mkF m 112 #[iv q1, iv q2, iv q3, iv 3, iv 0, iv 1, iv 0, .unset, .unset] [(.int 3)])) _
          exact q
        obtain ⟨_, _, ⟨T585, L585, k585, n585⟩, -, X585, ⟨Lc585, hQ585, l585, y585, z585⟩, st585⟩ := Jvm.LawKit.callS X0 hx (y := y_2) hown (mvT hZ (hw _ (wd 0 rfl))) (mvT hZ (hw _ (wd 1 rfl))) (mvT hZ (hw _ (wd 2 rfl))) (mvT hZ (hw _ (wd 3 rfl))) (by decide) (backOf (W := 0) (kd l Z a0 hw [] a_NEXT_KEY a_GAP a_RECORD a_INSERT_INTENTION G (3 : Int32) 3 h0 n0 O0 (Or.inr (Or.inr (Or.inr ⟨by decide, rfl⟩)))) hZ (hw _ (wd 3 rfl)) (hw _ (wd 2 rfl)) (by decide) (by decide)) (g := (mkF m 112 #[iv q1, iv q2, iv q3, iv 3, iv 0, iv 1, iv 0, .unset, .unset] [(.int 3)])) rfl (by rw [hml]; rfl) (argsL := [(.int 3)]) (rest := []) (lenOf pd_1 rfl) rfl (by show 2 * 0 + _ ≤ _; exact Nat.le_of_eq rfl) (hb hby at_112) (fun _ _ => ⟨rfl, e0, (by decide : 0 + 1 ≤ _), (by decide : 0 + 4 ≤ _)⟩)
        dsimp only [Pt.U, Pt.locs, Pt.cells, Pt.slots] at X585 l585 y585 z585 st585 hQ585
        subst l585 y585 z585
        obtain ⟨rfl, N585q, K585⟩ := hQ585
        have N585 := Fr.app N0 N585q
        have O_586 := O0.keep K585 all0
        have K_587 := K0.trans K585 all0
        have k_588 : Go p.tables e below (s₁.setTop (entryFrame m #[(.int q1), (.int q2), (.int q3)] maxLocals)) (T585.setTop (mkF m 117 #[iv q1, iv q2, iv q3, iv 3, iv 0, iv 1, iv 0, .unset, .unset] [(.int 0), (.ref a_INSERT_INTENTION)])) := fun t q => by
          refine k_584 t ?_
          refine st585 _ ?_
          show Steps _ _ _ (T585.setTop (mkF m 115 #[iv q1, iv q2, iv q3, iv 3, iv 0, iv 1, iv 0, .unset, .unset] [(.ref a_INSERT_INTENTION)])) _
          refine XS.iload X585.here hx rfl (hb hby at_115) rfl ?_
          show Steps _ _ _ (T585.setTop (mkF m 117 #[iv q1, iv q2, iv q3, iv 3, iv 0, iv 1, iv 0, .unset, .unset] [(.int 0), (.ref a_INSERT_INTENTION)])) _
          exact q
        obtain ⟨_, _, ⟨T589, L589, k589, n589⟩, -, X589, ⟨Lc589, hQ589, l589, y589, z589⟩, st589⟩ := Jvm.LawKit.callS X585 hx (y := y_2) hown (mvT hZ (hw _ (wd 0 rfl))) (mvT hZ (hw _ (wd 1 rfl))) (mvT hZ (hw _ (wd 2 rfl))) (mvT hZ (hw _ (wd 3 rfl))) (by decide) (backOf (W := 1) (kd l Z a0 hw [] a_NEXT_KEY a_GAP a_RECORD a_INSERT_INTENTION G (0 : Int32) 0 T585.heap n0 O_586 (Or.inl ⟨by decide, rfl⟩)) hZ (hw _ (wd 3 rfl)) (hw _ (wd 2 rfl)) (by decide) (by decide)) (g := (mkF m 117 #[iv q1, iv q2, iv q3, iv 3, iv 0, iv 1, iv 0, .unset, .unset] [(.int 0), (.ref a_INSERT_INTENTION)])) rfl (by rw [hml]; rfl) (argsL := [(.int 0)]) (rest := [(.ref a_INSERT_INTENTION)]) (lenOf pd_1 rfl) rfl (by show 2 * 0 + _ ≤ _; exact Nat.le_of_eq rfl) (hb hby at_117) (fun _ _ => ⟨rfl, (rfl : T585.heap = _), (by decide : 1 + 1 ≤ _), (by decide : 4 + 4 ≤ _)⟩)
        dsimp only [Pt.U, Pt.locs, Pt.cells, Pt.slots] at X589 l589 y589 z589 st589 hQ589
        subst l589 y589 z589
        obtain ⟨rfl, N589q, K589⟩ := hQ589
        have N589 := Fr.app N585 N589q
        have O_590 := O_586.keep K589 all0
        have K_591 := K_587.trans K589 all0
        have k_592 : Go p.tables e below (s₁.setTop (entryFrame m #[(.int q1), (.int q2), (.int q3)] maxLocals)) (T589.setTop (mkF m 122 #[iv q1, iv q2, iv q3, iv 3, iv 0, iv 1, iv 0, .unset, .unset] [(.int 1), (.ref a_NEXT_KEY), (.ref a_INSERT_INTENTION)])) := fun t q => by
          refine k_588 t ?_
          refine st589 _ ?_
          show Steps _ _ _ (T589.setTop (mkF m 120 #[iv q1, iv q2, iv q3, iv 3, iv 0, iv 1, iv 0, .unset, .unset] [(.ref a_NEXT_KEY), (.ref a_INSERT_INTENTION)])) _
          refine XS.iload X589.here hx rfl (hb hby at_120) rfl ?_
          show Steps _ _ _ (T589.setTop (mkF m 122 #[iv q1, iv q2, iv q3, iv 3, iv 0, iv 1, iv 0, .unset, .unset] [(.int 1), (.ref a_NEXT_KEY), (.ref a_INSERT_INTENTION)])) _
          exact q
        obtain ⟨cq593, kq593, q593a, q593b, q593c⟩ := isOf hZ (rfl : T589.heap = _) (Exa.ext O_590.2 E_INSERT_INTENTION)
        obtain ⟨_, _, ⟨T593, L593, k593, n593⟩, -, X593, ⟨Lc593, hQ593, l593, y593, z593⟩, st593⟩ := X589.virtualBack hx (y := y_3) (z := y_3) hown (mvT hZ (hw _ (wd 16 rfl))) (mvT hZ (hw _ (wd 17 rfl))) (notFace_of_selects (args := #[]) (mvT hZ (hw _ (wd 19 rfl)))) (mvT hZ (hw _ (wd 19 rfl))) (mvT hZ (hw _ (wd 18 rfl))) (by decide) (backOf (W := 0) (cv_3_0_1 l Z a0 hw [] a_NEXT_KEY a_GAP a_RECORD a_INSERT_INTENTION G  T589.heap n0 O_590 ) hZ (hw _ (wd 20 rfl)) (hw _ (wd 7 rfl)) (by decide) (by decide)) q593a q593c (g := (mkF m 122 #[iv q1, iv q2, iv q3, iv 3, iv 0, iv 1, iv 0, .unset, .unset] [(.int 1), (.ref a_NEXT_KEY), (.ref a_INSERT_INTENTION)])) rfl (by rw [hml]; rfl) (Steps.refl _) (argsL := [(.ref a_NEXT_KEY), (.int 1)]) (rest := []) (lenOf pd_2 rfl) rfl (by show 2 * 0 + _ ≤ _; exact Nat.le_of_eq rfl) (hb hby at_122) (fun _ _ => ⟨rfl, (rfl : T589.heap = _), (by decide : 2 + 0 ≤ _), (by decide : 8 + 0 ≤ _)⟩)
        dsimp only [Pt.U, Pt.locs, Pt.cells, Pt.slots] at X593 l593 y593 z593 st593 hQ593
        subst l593 y593 z593
        obtain ⟨rfl, N593q, e593⟩ := hQ593
        have N593 := Fr.app N589 N593q
        have k_594 : Go p.tables e below (s₁.setTop (entryFrame m #[(.int q1), (.int q2), (.int q3)] maxLocals)) (T593.setTop (mkF m 139 #[iv q1, iv q2, iv q3, iv 3, iv 0, iv 1, iv 0, iv 0, .unset] [(.int 1)])) := fun t q => by
          refine k_592 t ?_
          refine st593.trans ?_
          show Steps _ _ _ (T593.setTop (mkF m 125 #[iv q1, iv q2, iv q3, iv 3, iv 0, iv 1, iv 0, .unset, .unset] [(.int 0)])) _
          refine XS.istore X593.here hx rfl (hb hby at_125) rfl (l' := #[iv q1, iv q2, iv q3, iv 3, iv 0, iv 1, iv 0, iv 0, .unset]) rfl ?_
          show Steps _ _ _ (T593.setTop (mkF m 127 #[iv q1, iv q2, iv q3, iv 3, iv 0, iv 1, iv 0, iv 0, .unset] [])) _
          refine XS.iload X593.here hx rfl (hb hby at_127) rfl ?_
          show Steps _ _ _ (T593.setTop (mkF m 129 #[iv q1, iv q2, iv q3, iv 3, iv 0, iv 1, iv 0, iv 0, .unset] [(.int 0)])) _
          refine XS.iload X593.here hx rfl (hb hby at_129) rfl ?_
          show Steps _ _ _ (T593.setTop (mkF m 131 #[iv q1, iv q2, iv q3, iv 3, iv 0, iv 1, iv 0, iv 0, .unset] [(.int 0), (.int 0)])) _
          refine XS.icmpNo X593.here hx rfl (hb hby at_131) rfl (by decide) ?_
          show Steps _ _ _ (T593.setTop (mkF m 134 #[iv q1, iv q2, iv q3, iv 3, iv 0, iv 1, iv 0, iv 0, .unset] [])) _
          refine XS.iconst X593.here hx rfl (hb hby at_134) ?_
          show Steps _ _ _ (T593.setTop (mkF m 135 #[iv q1, iv q2, iv q3, iv 3, iv 0, iv 1, iv 0, iv 0, .unset] [(.int 1)])) _
          refine XS.goto X593.here hx rfl (pc0 := 135) (pc' := 139) rfl (hb hby at_135) (by decide) (by decide) ?_
          show Steps _ _ _ (T593.setTop (mkF m 139 #[iv q1, iv q2, iv q3, iv 3, iv 0, iv 1, iv 0, iv 0, .unset] [(.int 1)])) _
          exact q
        obtain ⟨fs, hr, hrun, hended, hW, hsame⟩ := X593.leave (v := some (.int 1)) (fun h => by rw [Bd.returns] at h; cases h)
        refine ⟨_, _, k_594 _ ?_, hrun, hended, _, _, rfl, ?_, ⟨_, rfl⟩, hW, hsame.mono (by decide) (by decide)⟩
        · exact retN X593 hx (t := .boolean) Bd.returns (by simp) (hb hby at_139) hr
        · show Q0 n0 _ T593.heap _
          rw [e593]
          exact ⟨rfl, N593⟩
      · skip
        have k_595 : Go p.tables e below (s₁.setTop (entryFrame m #[(.int q1), (.int q2), (.int q3)] maxLocals)) (s₁.setTop (mkF m 112 #[iv q1, iv q2, iv q3, iv 3, iv 1, iv 1, iv 0, .unset, .unset] [(.int 3)])) := fun t q => by
          refine k0 t ?_
          refine XS.iloadN X0.here hx rfl (hb hby at_0) rfl ?_
          show Steps _ _ _ (s₁.setTop (mkF m 1 #[iv q1, iv q2, iv q3, .unset, .unset, .unset, .unset, .unset, .unset] [(.int q1)])) _
          refine XS.iconst X0.here hx rfl (hb hby at_1) ?_
          show Steps _ _ _ (s₁.setTop (mkF m 2 #[iv q1, iv q2, iv q3, .unset, .unset, .unset, .unset, .unset, .unset] [(.int 3), (.int q1)])) _
          refine XS.iand X0.here hx rfl (hb hby at_2) rfl ?_
          show Steps _ _ _ (s₁.setTop (mkF m 3 #[iv q1, iv q2, iv q3, .unset, .unset, .unset, .unset, .unset, .unset] [(.int (q1 &&& (3 : Int32)))])) _
          rw [hi]
          show Steps _ _ _ (s₁.setTop (mkF m 3 #[iv q1, iv q2, iv q3, .unset, .unset, .unset, .unset, .unset, .unset] [(.int 3)])) _
          refine XS.istoreN X0.here hx rfl (hb hby at_3) rfl (l' := #[iv q1, iv q2, iv q3, iv 3, .unset, .unset, .unset, .unset, .unset]) rfl ?_
          show Steps _ _ _ (s₁.setTop (mkF m 4 #[iv q1, iv q2, iv q3, iv 3, .unset, .unset, .unset, .unset, .unset] [])) _
          refine XS.iloadN X0.here hx rfl (hb hby at_4) rfl ?_
          show Steps _ _ _ (s₁.setTop (mkF m 5 #[iv q1, iv q2, iv q3, iv 3, .unset, .unset, .unset, .unset, .unset] [(.int q2)])) _
          refine XS.iconst X0.here hx rfl (hb hby at_5) ?_
          show Steps _ _ _ (s₁.setTop (mkF m 6 #[iv q1, iv q2, iv q3, iv 3, .unset, .unset, .unset, .unset, .unset] [(.int 3), (.int q2)])) _
          refine XS.iand X0.here hx rfl (hb hby at_6) rfl ?_
          show Steps _ _ _ (s₁.setTop (mkF m 7 #[iv q1, iv q2, iv q3, iv 3, .unset, .unset, .unset, .unset, .unset] [(.int (q2 &&& (3 : Int32)))])) _
          rw [hj]
          show Steps _ _ _ (s₁.setTop (mkF m 7 #[iv q1, iv q2, iv q3, iv 3, .unset, .unset, .unset, .unset, .unset] [(.int 1)])) _
          refine XS.istore X0.here hx rfl (hb hby at_7) rfl (l' := #[iv q1, iv q2, iv q3, iv 3, iv 1, .unset, .unset, .unset, .unset]) rfl ?_
          show Steps _ _ _ (s₁.setTop (mkF m 9 #[iv q1, iv q2, iv q3, iv 3, iv 1, .unset, .unset, .unset, .unset] [])) _
          refine XS.iloadN X0.here hx rfl (hb hby at_9) rfl ?_
          show Steps _ _ _ (s₁.setTop (mkF m 10 #[iv q1, iv q2, iv q3, iv 3, iv 1, .unset, .unset, .unset, .unset] [(.int q3)])) _
          refine XS.iconst X0.here hx rfl (hb hby at_10) ?_
          show Steps _ _ _ (s₁.setTop (mkF m 11 #[iv q1, iv q2, iv q3, iv 3, iv 1, .unset, .unset, .unset, .unset] [(.int 1), (.int q3)])) _
          refine XS.iand X0.here hx rfl (hb hby at_11) rfl ?_
          show Steps _ _ _ (s₁.setTop (mkF m 12 #[iv q1, iv q2, iv q3, iv 3, iv 1, .unset, .unset, .unset, .unset] [(.int (q3 &&& (1 : Int32)))])) _
          rw [hs]
          show Steps _ _ _ (s₁.setTop (mkF m 12 #[iv q1, iv q2, iv q3, iv 3, iv 1, .unset, .unset, .unset, .unset] [(.int 1)])) _
          refine XS.ifNo X0.here hx rfl (hb hby at_12) rfl (by decide) ?_
          show Steps _ _ _ (s₁.setTop (mkF m 15 #[iv q1, iv q2, iv q3, iv 3, iv 1, .unset, .unset, .unset, .unset] [])) _
          refine XS.iconst X0.here hx rfl (hb hby at_15) ?_
          show Steps _ _ _ (s₁.setTop (mkF m 16 #[iv q1, iv q2, iv q3, iv 3, iv 1, .unset, .unset, .unset, .unset] [(.int 1)])) _
          refine XS.goto X0.here hx rfl (pc0 := 16) (pc' := 20) rfl (hb hby at_16) (by decide) (by decide) ?_
          show Steps _ _ _ (s₁.setTop (mkF m 20 #[iv q1, iv q2, iv q3, iv 3, iv 1, .unset, .unset, .unset, .unset] [(.int 1)])) _
          refine XS.istore X0.here hx rfl (hb hby at_20) rfl (l' := #[iv q1, iv q2, iv q3, iv 3, iv 1, iv 1, .unset, .unset, .unset]) rfl ?_
          show Steps _ _ _ (s₁.setTop (mkF m 22 #[iv q1, iv q2, iv q3, iv 3, iv 1, iv 1, .unset, .unset, .unset] [])) _
          refine XS.iloadN X0.here hx rfl (hb hby at_22) rfl ?_
          show Steps _ _ _ (s₁.setTop (mkF m 23 #[iv q1, iv q2, iv q3, iv 3, iv 1, iv 1, .unset, .unset, .unset] [(.int 3)])) _
          refine XS.iconst X0.here hx rfl (hb hby at_23) ?_
          show Steps _ _ _ (s₁.setTop (mkF m 24 #[iv q1, iv q2, iv q3, iv 3, iv 1, iv 1, .unset, .unset, .unset] [(.int 3), (.int 3)])) _
          refine XS.icmpYes X0.here hx rfl (pc0 := 24) (pc' := 33) rfl (hb hby at_24) rfl (by decide) (by decide) (by decide) ?_
          show Steps _ _ _ (s₁.setTop (mkF m 33 #[iv q1, iv q2, iv q3, iv 3, iv 1, iv 1, .unset, .unset, .unset] [])) _
          refine XS.iconst X0.here hx rfl (hb hby at_33) ?_
          show Steps _ _ _ (s₁.setTop (mkF m 34 #[iv q1, iv q2, iv q3, iv 3, iv 1, iv 1, .unset, .unset, .unset] [(.int 0)])) _
          refine XS.istore X0.here hx rfl (hb hby at_34) rfl (l' := #[iv q1, iv q2, iv q3, iv 3, iv 1, iv 1, iv 0, .unset, .unset]) rfl ?_
          show Steps _ _ _ (s₁.setTop (mkF m 36 #[iv q1, iv q2, iv q3, iv 3, iv 1, iv 1, iv 0, .unset, .unset] [])) _
          refine XS.goto X0.here hx rfl (pc0 := 36) (pc' := 111) rfl (hb hby at_36) (by decide) (by decide) ?_
          show Steps _ _ _ (s₁.setTop (mkF m 111 #[iv q1, iv q2, iv q3, iv 3, iv 1, iv 1, iv 0, .unset, .unset] [])) _
          refine XS.iloadN X0.here hx rfl (hb hby at_111) rfl ?_
          show Steps _ _ _ (s₁.setTop (mkF m 112 #[iv q1, iv q2, iv q3, iv 3, iv 1, iv 1, iv 0, .unset, .unset] [(.int 3)])) _
          exact q
        obtain ⟨_, _, ⟨T596, L596, k596, n596⟩, -, X596, ⟨Lc596, hQ596, l596, y596, z596⟩, st596⟩ := Jvm.LawKit.callS X0 hx (y := y_2) hown (mvT hZ (hw _ (wd 0 rfl))) (mvT hZ (hw _ (wd 1 rfl))) (mvT hZ (hw _ (wd 2 rfl))) (mvT hZ (hw _ (wd 3 rfl))) (by decide) (backOf (W := 0) (kd l Z a0 hw [] a_NEXT_KEY a_GAP a_RECORD a_INSERT_INTENTION G (3 : Int32) 3 h0 n0 O0 (Or.inr (Or.inr (Or.inr ⟨by decide, rfl⟩)))) hZ (hw _ (wd 3 rfl)) (hw _ (wd 2 rfl)) (by decide) (by decide)) (g := (mkF m 112 #[iv q1, iv q2, iv q3, iv 3, iv 1, iv 1, iv 0, .unset, .unset] [(.int 3)])) rfl (by rw [hml]; rfl) (argsL := [(.int 3)]) (rest := []) (lenOf pd_1 rfl) rfl (by show 2 * 0 + _ ≤ _; exact Nat.le_of_eq rfl) (hb hby at_112) (fun _ _ => ⟨rfl, e0, (by decide : 0 + 1 ≤ _), (by decide : 0 + 4 ≤ _)⟩)
        dsimp only [Pt.U, Pt.locs, Pt.cells, Pt.slots] at X596 l596 y596 z596 st596 hQ596
        subst l596 y596 z596
        obtain ⟨rfl, N596q, K596⟩ := hQ596
        have N596 := Fr.app N0 N596q
        have O_597 := O0.keep K596 all0
        have K_598 := K0.trans K596 all0
        have k_599 : Go p.tables e below (s₁.setTop (entryFrame m #[(.int q1), (.int q2), (.int q3)] maxLocals)) (T596.setTop (mkF m 117 #[iv q1, iv q2, iv q3, iv 3, iv 1, iv 1, iv 0, .unset, .unset] [(.int 1), (.ref a_INSERT_INTENTION)])) := fun t q => by
          refine k_595 t ?_
          refine st596 _ ?_
          show Steps _ _ _ (T596.setTop (mkF m 115 #[iv q1, iv q2, iv q3, iv 3, iv 1, iv 1, iv 0, .unset, .unset] [(.ref a_INSERT_INTENTION)])) _
          refine XS.iload X596.here hx rfl (hb hby at_115) rfl ?_
          show Steps _ _ _ (T596.setTop (mkF m 117 #[iv q1, iv q2, iv q3, iv 3, iv 1, iv 1, iv 0, .unset, .unset] [(.int 1), (.ref a_INSERT_INTENTION)])) _
          exact q
        obtain ⟨_, _, ⟨T600, L600, k600, n600⟩, -, X600, ⟨Lc600, hQ600, l600, y600, z600⟩, st600⟩ := Jvm.LawKit.callS X596 hx (y := y_2) hown (mvT hZ (hw _ (wd 0 rfl))) (mvT hZ (hw _ (wd 1 rfl))) (mvT hZ (hw _ (wd 2 rfl))) (mvT hZ (hw _ (wd 3 rfl))) (by decide) (backOf (W := 1) (kd l Z a0 hw [] a_NEXT_KEY a_GAP a_RECORD a_INSERT_INTENTION G (1 : Int32) 1 T596.heap n0 O_597 (Or.inr (Or.inl ⟨by decide, rfl⟩))) hZ (hw _ (wd 3 rfl)) (hw _ (wd 2 rfl)) (by decide) (by decide)) (g := (mkF m 117 #[iv q1, iv q2, iv q3, iv 3, iv 1, iv 1, iv 0, .unset, .unset] [(.int 1), (.ref a_INSERT_INTENTION)])) rfl (by rw [hml]; rfl) (argsL := [(.int 1)]) (rest := [(.ref a_INSERT_INTENTION)]) (lenOf pd_1 rfl) rfl (by show 2 * 0 + _ ≤ _; exact Nat.le_of_eq rfl) (hb hby at_117) (fun _ _ => ⟨rfl, (rfl : T596.heap = _), (by decide : 1 + 1 ≤ _), (by decide : 4 + 4 ≤ _)⟩)
        dsimp only [Pt.U, Pt.locs, Pt.cells, Pt.slots] at X600 l600 y600 z600 st600 hQ600
        subst l600 y600 z600
        obtain ⟨rfl, N600q, K600⟩ := hQ600
        have N600 := Fr.app N596 N600q
        have O_601 := O_597.keep K600 all0
        have K_602 := K_598.trans K600 all0
        have k_603 : Go p.tables e below (s₁.setTop (entryFrame m #[(.int q1), (.int q2), (.int q3)] maxLocals)) (T600.setTop (mkF m 122 #[iv q1, iv q2, iv q3, iv 3, iv 1, iv 1, iv 0, .unset, .unset] [(.int 1), (.ref a_GAP), (.ref a_INSERT_INTENTION)])) := fun t q => by
          refine k_599 t ?_
          refine st600 _ ?_
          show Steps _ _ _ (T600.setTop (mkF m 120 #[iv q1, iv q2, iv q3, iv 3, iv 1, iv 1, iv 0, .unset, .unset] [(.ref a_GAP), (.ref a_INSERT_INTENTION)])) _
          refine XS.iload X600.here hx rfl (hb hby at_120) rfl ?_
          show Steps _ _ _ (T600.setTop (mkF m 122 #[iv q1, iv q2, iv q3, iv 3, iv 1, iv 1, iv 0, .unset, .unset] [(.int 1), (.ref a_GAP), (.ref a_INSERT_INTENTION)])) _
          exact q
        obtain ⟨cq604, kq604, q604a, q604b, q604c⟩ := isOf hZ (rfl : T600.heap = _) (Exa.ext O_601.2 E_INSERT_INTENTION)
        obtain ⟨_, _, ⟨T604, L604, k604, n604⟩, -, X604, ⟨Lc604, hQ604, l604, y604, z604⟩, st604⟩ := X600.virtualBack hx (y := y_3) (z := y_3) hown (mvT hZ (hw _ (wd 16 rfl))) (mvT hZ (hw _ (wd 17 rfl))) (notFace_of_selects (args := #[]) (mvT hZ (hw _ (wd 19 rfl)))) (mvT hZ (hw _ (wd 19 rfl))) (mvT hZ (hw _ (wd 18 rfl))) (by decide) (backOf (W := 0) (cv_3_1_1 l Z a0 hw [] a_NEXT_KEY a_GAP a_RECORD a_INSERT_INTENTION G  T600.heap n0 O_601 ) hZ (hw _ (wd 20 rfl)) (hw _ (wd 7 rfl)) (by decide) (by decide)) q604a q604c (g := (mkF m 122 #[iv q1, iv q2, iv q3, iv 3, iv 1, iv 1, iv 0, .unset, .unset] [(.int 1), (.ref a_GAP), (.ref a_INSERT_INTENTION)])) rfl (by rw [hml]; rfl) (Steps.refl _) (argsL := [(.ref a_GAP), (.int 1)]) (rest := []) (lenOf pd_2 rfl) rfl (by show 2 * 0 + _ ≤ _; exact Nat.le_of_eq rfl) (hb hby at_122) (fun _ _ => ⟨rfl, (rfl : T600.heap = _), (by decide : 2 + 0 ≤ _), (by decide : 8 + 0 ≤ _)⟩)
        dsimp only [Pt.U, Pt.locs, Pt.cells, Pt.slots] at X604 l604 y604 z604 st604 hQ604
        subst l604 y604 z604
        obtain ⟨rfl, N604q, e604⟩ := hQ604
        have N604 := Fr.app N600 N604q
        have k_605 : Go p.tables e below (s₁.setTop (entryFrame m #[(.int q1), (.int q2), (.int q3)] maxLocals)) (T604.setTop (mkF m 139 #[iv q1, iv q2, iv q3, iv 3, iv 1, iv 1, iv 0, iv 0, .unset] [(.int 1)])) := fun t q => by
          refine k_603 t ?_
          refine st604.trans ?_
          show Steps _ _ _ (T604.setTop (mkF m 125 #[iv q1, iv q2, iv q3, iv 3, iv 1, iv 1, iv 0, .unset, .unset] [(.int 0)])) _
          refine XS.istore X604.here hx rfl (hb hby at_125) rfl (l' := #[iv q1, iv q2, iv q3, iv 3, iv 1, iv 1, iv 0, iv 0, .unset]) rfl ?_
          show Steps _ _ _ (T604.setTop (mkF m 127 #[iv q1, iv q2, iv q3, iv 3, iv 1, iv 1, iv 0, iv 0, .unset] [])) _
          refine XS.iload X604.here hx rfl (hb hby at_127) rfl ?_
          show Steps _ _ _ (T604.setTop (mkF m 129 #[iv q1, iv q2, iv q3, iv 3, iv 1, iv 1, iv 0, iv 0, .unset] [(.int 0)])) _
          refine XS.iload X604.here hx rfl (hb hby at_129) rfl ?_
          show Steps _ _ _ (T604.setTop (mkF m 131 #[iv q1, iv q2, iv q3, iv 3, iv 1, iv 1, iv 0, iv 0, .unset] [(.int 0), (.int 0)])) _
          refine XS.icmpNo X604.here hx rfl (hb hby at_131) rfl (by decide) ?_
          show Steps _ _ _ (T604.setTop (mkF m 134 #[iv q1, iv q2, iv q3, iv 3, iv 1, iv 1, iv 0, iv 0, .unset] [])) _
          refine XS.iconst X604.here hx rfl (hb hby at_134) ?_
          show Steps _ _ _ (T604.setTop (mkF m 135 #[iv q1, iv q2, iv q3, iv 3, iv 1, iv 1, iv 0, iv 0, .unset] [(.int 1)])) _
          refine XS.goto X604.here hx rfl (pc0 := 135) (pc' := 139) rfl (hb hby at_135) (by decide) (by decide) ?_
          show Steps _ _ _ (T604.setTop (mkF m 139 #[iv q1, iv q2, iv q3, iv 3, iv 1, iv 1, iv 0, iv 0, .unset] [(.int 1)])) _
          exact q
        obtain ⟨fs, hr, hrun, hended, hW, hsame⟩ := X604.leave (v := some (.int 1)) (fun h => by rw [Bd.returns] at h; cases h)
        refine ⟨_, _, k_605 _ ?_, hrun, hended, _, _, rfl, ?_, ⟨_, rfl⟩, hW, hsame.mono (by decide) (by decide)⟩
        · exact retN X604 hx (t := .boolean) Bd.returns (by simp) (hb hby at_139) hr
        · show Q0 n0 _ T604.heap _
          rw [e604]
          exact ⟨rfl, N604⟩
      · skip
        have k_606 : Go p.tables e below (s₁.setTop (entryFrame m #[(.int q1), (.int q2), (.int q3)] maxLocals)) (s₁.setTop (mkF m 112 #[iv q1, iv q2, iv q3, iv 3, iv 2, iv 1, iv 0, .unset, .unset] [(.int 3)])) := fun t q => by
          refine k0 t ?_
          refine XS.iloadN X0.here hx rfl (hb hby at_0) rfl ?_
          show Steps _ _ _ (s₁.setTop (mkF m 1 #[iv q1, iv q2, iv q3, .unset, .unset, .unset, .unset, .unset, .unset] [(.int q1)])) _
          refine XS.iconst X0.here hx rfl (hb hby at_1) ?_
          show Steps _ _ _ (s₁.setTop (mkF m 2 #[iv q1, iv q2, iv q3, .unset, .unset, .unset, .unset, .unset, .unset] [(.int 3), (.int q1)])) _
          refine XS.iand X0.here hx rfl (hb hby at_2) rfl ?_
          show Steps _ _ _ (s₁.setTop (mkF m 3 #[iv q1, iv q2, iv q3, .unset, .unset, .unset, .unset, .unset, .unset] [(.int (q1 &&& (3 : Int32)))])) _
          rw [hi]
          show Steps _ _ _ (s₁.setTop (mkF m 3 #[iv q1, iv q2, iv q3, .unset, .unset, .unset, .unset, .unset, .unset] [(.int 3)])) _
          refine XS.istoreN X0.here hx rfl (hb hby at_3) rfl (l' := #[iv q1, iv q2, iv q3, iv 3, .unset, .unset, .unset, .unset, .unset]) rfl ?_
          show Steps _ _ _ (s₁.setTop (mkF m 4 #[iv q1, iv q2, iv q3, iv 3, .unset, .unset, .unset, .unset, .unset] [])) _
          refine XS.iloadN X0.here hx rfl (hb hby at_4) rfl ?_
          show Steps _ _ _ (s₁.setTop (mkF m 5 #[iv q1, iv q2, iv q3, iv 3, .unset, .unset, .unset, .unset, .unset] [(.int q2)])) _
          refine XS.iconst X0.here hx rfl (hb hby at_5) ?_
          show Steps _ _ _ (s₁.setTop (mkF m 6 #[iv q1, iv q2, iv q3, iv 3, .unset, .unset, .unset, .unset, .unset] [(.int 3), (.int q2)])) _
          refine XS.iand X0.here hx rfl (hb hby at_6) rfl ?_
          show Steps _ _ _ (s₁.setTop (mkF m 7 #[iv q1, iv q2, iv q3, iv 3, .unset, .unset, .unset, .unset, .unset] [(.int (q2 &&& (3 : Int32)))])) _
          rw [hj]
          show Steps _ _ _ (s₁.setTop (mkF m 7 #[iv q1, iv q2, iv q3, iv 3, .unset, .unset, .unset, .unset, .unset] [(.int 2)])) _
          refine XS.istore X0.here hx rfl (hb hby at_7) rfl (l' := #[iv q1, iv q2, iv q3, iv 3, iv 2, .unset, .unset, .unset, .unset]) rfl ?_
          show Steps _ _ _ (s₁.setTop (mkF m 9 #[iv q1, iv q2, iv q3, iv 3, iv 2, .unset, .unset, .unset, .unset] [])) _
          refine XS.iloadN X0.here hx rfl (hb hby at_9) rfl ?_
          show Steps _ _ _ (s₁.setTop (mkF m 10 #[iv q1, iv q2, iv q3, iv 3, iv 2, .unset, .unset, .unset, .unset] [(.int q3)])) _
          refine XS.iconst X0.here hx rfl (hb hby at_10) ?_
          show Steps _ _ _ (s₁.setTop (mkF m 11 #[iv q1, iv q2, iv q3, iv 3, iv 2, .unset, .unset, .unset, .unset] [(.int 1), (.int q3)])) _
          refine XS.iand X0.here hx rfl (hb hby at_11) rfl ?_
          show Steps _ _ _ (s₁.setTop (mkF m 12 #[iv q1, iv q2, iv q3, iv 3, iv 2, .unset, .unset, .unset, .unset] [(.int (q3 &&& (1 : Int32)))])) _
          rw [hs]
          show Steps _ _ _ (s₁.setTop (mkF m 12 #[iv q1, iv q2, iv q3, iv 3, iv 2, .unset, .unset, .unset, .unset] [(.int 1)])) _
          refine XS.ifNo X0.here hx rfl (hb hby at_12) rfl (by decide) ?_
          show Steps _ _ _ (s₁.setTop (mkF m 15 #[iv q1, iv q2, iv q3, iv 3, iv 2, .unset, .unset, .unset, .unset] [])) _
          refine XS.iconst X0.here hx rfl (hb hby at_15) ?_
          show Steps _ _ _ (s₁.setTop (mkF m 16 #[iv q1, iv q2, iv q3, iv 3, iv 2, .unset, .unset, .unset, .unset] [(.int 1)])) _
          refine XS.goto X0.here hx rfl (pc0 := 16) (pc' := 20) rfl (hb hby at_16) (by decide) (by decide) ?_
          show Steps _ _ _ (s₁.setTop (mkF m 20 #[iv q1, iv q2, iv q3, iv 3, iv 2, .unset, .unset, .unset, .unset] [(.int 1)])) _
          refine XS.istore X0.here hx rfl (hb hby at_20) rfl (l' := #[iv q1, iv q2, iv q3, iv 3, iv 2, iv 1, .unset, .unset, .unset]) rfl ?_
          show Steps _ _ _ (s₁.setTop (mkF m 22 #[iv q1, iv q2, iv q3, iv 3, iv 2, iv 1, .unset, .unset, .unset] [])) _
          refine XS.iloadN X0.here hx rfl (hb hby at_22) rfl ?_
          show Steps _ _ _ (s₁.setTop (mkF m 23 #[iv q1, iv q2, iv q3, iv 3, iv 2, iv 1, .unset, .unset, .unset] [(.int 3)])) _
          refine XS.iconst X0.here hx rfl (hb hby at_23) ?_
          show Steps _ _ _ (s₁.setTop (mkF m 24 #[iv q1, iv q2, iv q3, iv 3, iv 2, iv 1, .unset, .unset, .unset] [(.int 3), (.int 3)])) _
          refine XS.icmpYes X0.here hx rfl (pc0 := 24) (pc' := 33) rfl (hb hby at_24) rfl (by decide) (by decide) (by decide) ?_
          show Steps _ _ _ (s₁.setTop (mkF m 33 #[iv q1, iv q2, iv q3, iv 3, iv 2, iv 1, .unset, .unset, .unset] [])) _
          refine XS.iconst X0.here hx rfl (hb hby at_33) ?_
          show Steps _ _ _ (s₁.setTop (mkF m 34 #[iv q1, iv q2, iv q3, iv 3, iv 2, iv 1, .unset, .unset, .unset] [(.int 0)])) _
          refine XS.istore X0.here hx rfl (hb hby at_34) rfl (l' := #[iv q1, iv q2, iv q3, iv 3, iv 2, iv 1, iv 0, .unset, .unset]) rfl ?_
          show Steps _ _ _ (s₁.setTop (mkF m 36 #[iv q1, iv q2, iv q3, iv 3, iv 2, iv 1, iv 0, .unset, .unset] [])) _
          refine XS.goto X0.here hx rfl (pc0 := 36) (pc' := 111) rfl (hb hby at_36) (by decide) (by decide) ?_
          show Steps _ _ _ (s₁.setTop (mkF m 111 #[iv q1, iv q2, iv q3, iv 3, iv 2, iv 1, iv 0, .unset, .unset] [])) _
          refine XS.iloadN X0.here hx rfl (hb hby at_111) rfl ?_
          show Steps _ _ _ (s₁.setTop (mkF m 112 #[iv q1, iv q2, iv q3, iv 3, iv 2, iv 1, iv 0, .unset, .unset] [(.int 3)])) _
          exact q
        obtain ⟨_, _, ⟨T607, L607, k607, n607⟩, -, X607, ⟨Lc607, hQ607, l607, y607, z607⟩, st607⟩ := Jvm.LawKit.callS X0 hx (y := y_2) hown (mvT hZ (hw _ (wd 0 rfl))) (mvT hZ (hw _ (wd 1 rfl))) (mvT hZ (hw _ (wd 2 rfl))) (mvT hZ (hw _ (wd 3 rfl))) (by decide) (backOf (W := 0) (kd l Z a0 hw [] a_NEXT_KEY a_GAP a_RECORD a_INSERT_INTENTION G (3 : Int32) 3 h0 n0 O0 (Or.inr (Or.inr (Or.inr ⟨by decide, rfl⟩)))) hZ (hw _ (wd 3 rfl)) (hw _ (wd 2 rfl)) (by decide) (by decide)) (g := (mkF m 112 #[iv q1, iv q2, iv q3, iv 3, iv 2, iv 1, iv 0, .unset, .unset] [(.int 3)])) rfl (by rw [hml]; rfl) (argsL := [(.int 3)]) (rest := []) (lenOf pd_1 rfl) rfl (by show 2 * 0 + _ ≤ _; exact Nat.le_of_eq rfl) (hb hby at_112) (fun _ _ => ⟨rfl, e0, (by decide : 0 + 1 ≤ _), (by decide : 0 + 4 ≤ _)⟩)
        dsimp only [Pt.U, Pt.locs, Pt.cells, Pt.slots] at X607 l607 y607 z607 st607 hQ607
        subst l607 y607 z607
        obtain ⟨rfl, N607q, K607⟩ := hQ607
        have N607 := Fr.app N0 N607q
        have O_608 := O0.keep K607 all0
        have K_609 := K0.trans K607 all0
        have k_610 : Go p.tables e below (s₁.setTop (entryFrame m #[(.int q1), (.int q2), (.int q3)] maxLocals)) (T607.setTop (mkF m 117 #[iv q1, iv q2, iv q3, iv 3, iv 2, iv 1, iv 0, .unset, .unset] [(.int 2), (.ref a_INSERT_INTENTION)])) := fun t q => by
          refine k_606 t ?_
          refine st607 _ ?_
          show Steps _ _ _ (T607.setTop (mkF m 115 #[iv q1, iv q2, iv q3, iv 3, iv 2, iv 1, iv 0, .unset, .unset] [(.ref a_INSERT_INTENTION)])) _
          refine XS.iload X607.here hx rfl (hb hby at_115) rfl ?_
          show Steps _ _ _ (T607.setTop (mkF m 117 #[iv q1, iv q2, iv q3, iv 3, iv 2, iv 1, iv 0, .unset, .unset] [(.int 2), (.ref a_INSERT_INTENTION)])) _
          exact q
        obtain ⟨_, _, ⟨T611, L611, k611, n611⟩, -, X611, ⟨Lc611, hQ611, l611, y611, z611⟩, st611⟩ := Jvm.LawKit.callS X607 hx (y := y_2) hown (mvT hZ (hw _ (wd 0 rfl))) (mvT hZ (hw _ (wd 1 rfl))) (mvT hZ (hw _ (wd 2 rfl))) (mvT hZ (hw _ (wd 3 rfl))) (by decide) (backOf (W := 1) (kd l Z a0 hw [] a_NEXT_KEY a_GAP a_RECORD a_INSERT_INTENTION G (2 : Int32) 2 T607.heap n0 O_608 (Or.inr (Or.inr (Or.inl ⟨by decide, rfl⟩)))) hZ (hw _ (wd 3 rfl)) (hw _ (wd 2 rfl)) (by decide) (by decide)) (g := (mkF m 117 #[iv q1, iv q2, iv q3, iv 3, iv 2, iv 1, iv 0, .unset, .unset] [(.int 2), (.ref a_INSERT_INTENTION)])) rfl (by rw [hml]; rfl) (argsL := [(.int 2)]) (rest := [(.ref a_INSERT_INTENTION)]) (lenOf pd_1 rfl) rfl (by show 2 * 0 + _ ≤ _; exact Nat.le_of_eq rfl) (hb hby at_117) (fun _ _ => ⟨rfl, (rfl : T607.heap = _), (by decide : 1 + 1 ≤ _), (by decide : 4 + 4 ≤ _)⟩)
        dsimp only [Pt.U, Pt.locs, Pt.cells, Pt.slots] at X611 l611 y611 z611 st611 hQ611
        subst l611 y611 z611
        obtain ⟨rfl, N611q, K611⟩ := hQ611
        have N611 := Fr.app N607 N611q
        have O_612 := O_608.keep K611 all0
        have K_613 := K_609.trans K611 all0
        have k_614 : Go p.tables e below (s₁.setTop (entryFrame m #[(.int q1), (.int q2), (.int q3)] maxLocals)) (T611.setTop (mkF m 122 #[iv q1, iv q2, iv q3, iv 3, iv 2, iv 1, iv 0, .unset, .unset] [(.int 1), (.ref a_RECORD), (.ref a_INSERT_INTENTION)])) := fun t q => by
          refine k_610 t ?_
          refine st611 _ ?_
          show Steps _ _ _ (T611.setTop (mkF m 120 #[iv q1, iv q2, iv q3, iv 3, iv 2, iv 1, iv 0, .unset, .unset] [(.ref a_RECORD), (.ref a_INSERT_INTENTION)])) _
          refine XS.iload X611.here hx rfl (hb hby at_120) rfl ?_
          show Steps _ _ _ (T611.setTop (mkF m 122 #[iv q1, iv q2, iv q3, iv 3, iv 2, iv 1, iv 0, .unset, .unset] [(.int 1), (.ref a_RECORD), (.ref a_INSERT_INTENTION)])) _
          exact q
        obtain ⟨cq615, kq615, q615a, q615b, q615c⟩ := isOf hZ (rfl : T611.heap = _) (Exa.ext O_612.2 E_INSERT_INTENTION)
        obtain ⟨_, _, ⟨T615, L615, k615, n615⟩, -, X615, ⟨Lc615, hQ615, l615, y615, z615⟩, st615⟩ := X611.virtualBack hx (y := y_3) (z := y_3) hown (mvT hZ (hw _ (wd 16 rfl))) (mvT hZ (hw _ (wd 17 rfl))) (notFace_of_selects (args := #[]) (mvT hZ (hw _ (wd 19 rfl)))) (mvT hZ (hw _ (wd 19 rfl))) (mvT hZ (hw _ (wd 18 rfl))) (by decide) (backOf (W := 0) (cv_3_2_1 l Z a0 hw [] a_NEXT_KEY a_GAP a_RECORD a_INSERT_INTENTION G  T611.heap n0 O_612 ) hZ (hw _ (wd 20 rfl)) (hw _ (wd 7 rfl)) (by decide) (by decide)) q615a q615c (g := (mkF m 122 #[iv q1, iv q2, iv q3, iv 3, iv 2, iv 1, iv 0, .unset, .unset] [(.int 1), (.ref a_RECORD), (.ref a_INSERT_INTENTION)])) rfl (by rw [hml]; rfl) (Steps.refl _) (argsL := [(.ref a_RECORD), (.int 1)]) (rest := []) (lenOf pd_2 rfl) rfl (by show 2 * 0 + _ ≤ _; exact Nat.le_of_eq rfl) (hb hby at_122) (fun _ _ => ⟨rfl, (rfl : T611.heap = _), (by decide : 2 + 0 ≤ _), (by decide : 8 + 0 ≤ _)⟩)
        dsimp only [Pt.U, Pt.locs, Pt.cells, Pt.slots] at X615 l615 y615 z615 st615 hQ615
        subst l615 y615 z615
        obtain ⟨rfl, N615q, e615⟩ := hQ615
        have N615 := Fr.app N611 N615q
        have k_616 : Go p.tables e below (s₁.setTop (entryFrame m #[(.int q1), (.int q2), (.int q3)] maxLocals)) (T615.setTop (mkF m 139 #[iv q1, iv q2, iv q3, iv 3, iv 2, iv 1, iv 0, iv 0, .unset] [(.int 1)])) := fun t q => by
          refine k_614 t ?_
          refine st615.trans ?_
          show Steps _ _ _ (T615.setTop (mkF m 125 #[iv q1, iv q2, iv q3, iv 3, iv 2, iv 1, iv 0, .unset, .unset] [(.int 0)])) _
          refine XS.istore X615.here hx rfl (hb hby at_125) rfl (l' := #[iv q1, iv q2, iv q3, iv 3, iv 2, iv 1, iv 0, iv 0, .unset]) rfl ?_
          show Steps _ _ _ (T615.setTop (mkF m 127 #[iv q1, iv q2, iv q3, iv 3, iv 2, iv 1, iv 0, iv 0, .unset] [])) _
          refine XS.iload X615.here hx rfl (hb hby at_127) rfl ?_
          show Steps _ _ _ (T615.setTop (mkF m 129 #[iv q1, iv q2, iv q3, iv 3, iv 2, iv 1, iv 0, iv 0, .unset] [(.int 0)])) _
          refine XS.iload X615.here hx rfl (hb hby at_129) rfl ?_
          show Steps _ _ _ (T615.setTop (mkF m 131 #[iv q1, iv q2, iv q3, iv 3, iv 2, iv 1, iv 0, iv 0, .unset] [(.int 0), (.int 0)])) _
          refine XS.icmpNo X615.here hx rfl (hb hby at_131) rfl (by decide) ?_
          show Steps _ _ _ (T615.setTop (mkF m 134 #[iv q1, iv q2, iv q3, iv 3, iv 2, iv 1, iv 0, iv 0, .unset] [])) _
          refine XS.iconst X615.here hx rfl (hb hby at_134) ?_
          show Steps _ _ _ (T615.setTop (mkF m 135 #[iv q1, iv q2, iv q3, iv 3, iv 2, iv 1, iv 0, iv 0, .unset] [(.int 1)])) _
          refine XS.goto X615.here hx rfl (pc0 := 135) (pc' := 139) rfl (hb hby at_135) (by decide) (by decide) ?_
          show Steps _ _ _ (T615.setTop (mkF m 139 #[iv q1, iv q2, iv q3, iv 3, iv 2, iv 1, iv 0, iv 0, .unset] [(.int 1)])) _
          exact q
        obtain ⟨fs, hr, hrun, hended, hW, hsame⟩ := X615.leave (v := some (.int 1)) (fun h => by rw [Bd.returns] at h; cases h)
        refine ⟨_, _, k_616 _ ?_, hrun, hended, _, _, rfl, ?_, ⟨_, rfl⟩, hW, hsame.mono (by decide) (by decide)⟩
        · exact retN X615 hx (t := .boolean) Bd.returns (by simp) (hb hby at_139) hr
        · show Q0 n0 _ T615.heap _
          rw [e615]
          exact ⟨rfl, N615⟩
      · skip
        have k_617 : Go p.tables e below (s₁.setTop (entryFrame m #[(.int q1), (.int q2), (.int q3)] maxLocals)) (s₁.setTop (mkF m 112 #[iv q1, iv q2, iv q3, iv 3, iv 3, iv 1, iv 0, .unset, .unset] [(.int 3)])) := fun t q => by
          refine k0 t ?_
          refine XS.iloadN X0.here hx rfl (hb hby at_0) rfl ?_
          show Steps _ _ _ (s₁.setTop (mkF m 1 #[iv q1, iv q2, iv q3, .unset, .unset, .unset, .unset, .unset, .unset] [(.int q1)])) _
          refine XS.iconst X0.here hx rfl (hb hby at_1) ?_
          show Steps _ _ _ (s₁.setTop (mkF m 2 #[iv q1, iv q2, iv q3, .unset, .unset, .unset, .unset, .unset, .unset] [(.int 3), (.int q1)])) _
          refine XS.iand X0.here hx rfl (hb hby at_2) rfl ?_
          show Steps _ _ _ (s₁.setTop (mkF m 3 #[iv q1, iv q2, iv q3, .unset, .unset, .unset, .unset, .unset, .unset] [(.int (q1 &&& (3 : Int32)))])) _
          rw [hi]
          show Steps _ _ _ (s₁.setTop (mkF m 3 #[iv q1, iv q2, iv q3, .unset, .unset, .unset, .unset, .unset, .unset] [(.int 3)])) _
          refine XS.istoreN X0.here hx rfl (hb hby at_3) rfl (l' := #[iv q1, iv q2, iv q3, iv 3, .unset, .unset, .unset, .unset, .unset]) rfl ?_
          show Steps _ _ _ (s₁.setTop (mkF m 4 #[iv q1, iv q2, iv q3, iv 3, .unset, .unset, .unset, .unset, .unset] [])) _
          refine XS.iloadN X0.here hx rfl (hb hby at_4) rfl ?_
          show Steps _ _ _ (s₁.setTop (mkF m 5 #[iv q1, iv q2, iv q3, iv 3, .unset, .unset, .unset, .unset, .unset] [(.int q2)])) _
          refine XS.iconst X0.here hx rfl (hb hby at_5) ?_
          show Steps _ _ _ (s₁.setTop (mkF m 6 #[iv q1, iv q2, iv q3, iv 3, .unset, .unset, .unset, .unset, .unset] [(.int 3), (.int q2)])) _
          refine XS.iand X0.here hx rfl (hb hby at_6) rfl ?_
          show Steps _ _ _ (s₁.setTop (mkF m 7 #[iv q1, iv q2, iv q3, iv 3, .unset, .unset, .unset, .unset, .unset] [(.int (q2 &&& (3 : Int32)))])) _
          rw [hj]
          show Steps _ _ _ (s₁.setTop (mkF m 7 #[iv q1, iv q2, iv q3, iv 3, .unset, .unset, .unset, .unset, .unset] [(.int 3)])) _
          refine XS.istore X0.here hx rfl (hb hby at_7) rfl (l' := #[iv q1, iv q2, iv q3, iv 3, iv 3, .unset, .unset, .unset, .unset]) rfl ?_
          show Steps _ _ _ (s₁.setTop (mkF m 9 #[iv q1, iv q2, iv q3, iv 3, iv 3, .unset, .unset, .unset, .unset] [])) _
          refine XS.iloadN X0.here hx rfl (hb hby at_9) rfl ?_
          show Steps _ _ _ (s₁.setTop (mkF m 10 #[iv q1, iv q2, iv q3, iv 3, iv 3, .unset, .unset, .unset, .unset] [(.int q3)])) _
          refine XS.iconst X0.here hx rfl (hb hby at_10) ?_
          show Steps _ _ _ (s₁.setTop (mkF m 11 #[iv q1, iv q2, iv q3, iv 3, iv 3, .unset, .unset, .unset, .unset] [(.int 1), (.int q3)])) _
          refine XS.iand X0.here hx rfl (hb hby at_11) rfl ?_
          show Steps _ _ _ (s₁.setTop (mkF m 12 #[iv q1, iv q2, iv q3, iv 3, iv 3, .unset, .unset, .unset, .unset] [(.int (q3 &&& (1 : Int32)))])) _
          rw [hs]
          show Steps _ _ _ (s₁.setTop (mkF m 12 #[iv q1, iv q2, iv q3, iv 3, iv 3, .unset, .unset, .unset, .unset] [(.int 1)])) _
          refine XS.ifNo X0.here hx rfl (hb hby at_12) rfl (by decide) ?_
          show Steps _ _ _ (s₁.setTop (mkF m 15 #[iv q1, iv q2, iv q3, iv 3, iv 3, .unset, .unset, .unset, .unset] [])) _
          refine XS.iconst X0.here hx rfl (hb hby at_15) ?_
          show Steps _ _ _ (s₁.setTop (mkF m 16 #[iv q1, iv q2, iv q3, iv 3, iv 3, .unset, .unset, .unset, .unset] [(.int 1)])) _
          refine XS.goto X0.here hx rfl (pc0 := 16) (pc' := 20) rfl (hb hby at_16) (by decide) (by decide) ?_
          show Steps _ _ _ (s₁.setTop (mkF m 20 #[iv q1, iv q2, iv q3, iv 3, iv 3, .unset, .unset, .unset, .unset] [(.int 1)])) _
          refine XS.istore X0.here hx rfl (hb hby at_20) rfl (l' := #[iv q1, iv q2, iv q3, iv 3, iv 3, iv 1, .unset, .unset, .unset]) rfl ?_
          show Steps _ _ _ (s₁.setTop (mkF m 22 #[iv q1, iv q2, iv q3, iv 3, iv 3, iv 1, .unset, .unset, .unset] [])) _
          refine XS.iloadN X0.here hx rfl (hb hby at_22) rfl ?_
          show Steps _ _ _ (s₁.setTop (mkF m 23 #[iv q1, iv q2, iv q3, iv 3, iv 3, iv 1, .unset, .unset, .unset] [(.int 3)])) _
          refine XS.iconst X0.here hx rfl (hb hby at_23) ?_
          show Steps _ _ _ (s₁.setTop (mkF m 24 #[iv q1, iv q2, iv q3, iv 3, iv 3, iv 1, .unset, .unset, .unset] [(.int 3), (.int 3)])) _
          refine XS.icmpYes X0.here hx rfl (pc0 := 24) (pc' := 33) rfl (hb hby at_24) rfl (by decide) (by decide) (by decide) ?_
          show Steps _ _ _ (s₁.setTop (mkF m 33 #[iv q1, iv q2, iv q3, iv 3, iv 3, iv 1, .unset, .unset, .unset] [])) _
          refine XS.iconst X0.here hx rfl (hb hby at_33) ?_
          show Steps _ _ _ (s₁.setTop (mkF m 34 #[iv q1, iv q2, iv q3, iv 3, iv 3, iv 1, .unset, .unset, .unset] [(.int 0)])) _
          refine XS.istore X0.here hx rfl (hb hby at_34) rfl (l' := #[iv q1, iv q2, iv q3, iv 3, iv 3, iv 1, iv 0, .unset, .unset]) rfl ?_
          show Steps _ _ _ (s₁.setTop (mkF m 36 #[iv q1, iv q2, iv q3, iv 3, iv 3, iv 1, iv 0, .unset, .unset] [])) _
          refine XS.goto X0.here hx rfl (pc0 := 36) (pc' := 111) rfl (hb hby at_36) (by decide) (by decide) ?_
          show Steps _ _ _ (s₁.setTop (mkF m 111 #[iv q1, iv q2, iv q3, iv 3, iv 3, iv 1, iv 0, .unset, .unset] [])) _
          refine XS.iloadN X0.here hx rfl (hb hby at_111) rfl ?_
          show Steps _ _ _ (s₁.setTop (mkF m 112 #[iv q1, iv q2, iv q3, iv 3, iv 3, iv 1, iv 0, .unset, .unset] [(.int 3)])) _
          exact q
        obtain ⟨_, _, ⟨T618, L618, k618, n618⟩, -, X618, ⟨Lc618, hQ618, l618, y618, z618⟩, st618⟩ := Jvm.LawKit.callS X0 hx (y := y_2) hown (mvT hZ (hw _ (wd 0 rfl))) (mvT hZ (hw _ (wd 1 rfl))) (mvT hZ (hw _ (wd 2 rfl))) (mvT hZ (hw _ (wd 3 rfl))) (by decide) (backOf (W := 0) (kd l Z a0 hw [] a_NEXT_KEY a_GAP a_RECORD a_INSERT_INTENTION G (3 : Int32) 3 h0 n0 O0 (Or.inr (Or.inr (Or.inr ⟨by decide, rfl⟩)))) hZ (hw _ (wd 3 rfl)) (hw _ (wd 2 rfl)) (by decide) (by decide)) (g := (mkF m 112 #[iv q1, iv q2, iv q3, iv 3, iv 3, iv 1, iv 0, .unset, .unset] [(.int 3)])) rfl (by rw [hml]; rfl) (argsL := [(.int 3)]) (rest := []) (lenOf pd_1 rfl) rfl (by show 2 * 0 + _ ≤ _; exact Nat.le_of_eq rfl) (hb hby at_112) (fun _ _ => ⟨rfl, e0, (by decide : 0 + 1 ≤ _), (by decide : 0 + 4 ≤ _)⟩)
        dsimp only [Pt.U, Pt.locs, Pt.cells, Pt.slots] at X618 l618 y618 z618 st618 hQ618
        subst l618 y618 z618
        obtain ⟨rfl, N618q, K618⟩ := hQ618
        have N618 := Fr.app N0 N618q
        have O_619 := O0.keep K618 all0
        have K_620 := K0.trans K618 all0
        have k_621 : Go p.tables e below (s₁.setTop (entryFrame m #[(.int q1), (.int q2), (.int q3)] maxLocals)) (T618.setTop (mkF m 117 #[iv q1, iv q2, iv q3, iv 3, iv 3, iv 1, iv 0, .unset, .unset] [(.int 3), (.ref a_INSERT_INTENTION)])) := fun t q => by
          refine k_617 t ?_
          refine st618 _ ?_
          show Steps _ _ _ (T618.setTop (mkF m 115 #[iv q1, iv q2, iv q3, iv 3, iv 3, iv 1, iv 0, .unset, .unset] [(.ref a_INSERT_INTENTION)])) _
          refine XS.iload X618.here hx rfl (hb hby at_115) rfl ?_
          show Steps _ _ _ (T618.setTop (mkF m 117 #[iv q1, iv q2, iv q3, iv 3, iv 3, iv 1, iv 0, .unset, .unset] [(.int 3), (.ref a_INSERT_INTENTION)])) _
          exact q
        obtain ⟨_, _, ⟨T622, L622, k622, n622⟩, -, X622, ⟨Lc622, hQ622, l622, y622, z622⟩, st622⟩ := Jvm.LawKit.callS X618 hx (y := y_2) hown (mvT hZ (hw _ (wd 0 rfl))) (mvT hZ (hw _ (wd 1 rfl))) (mvT hZ (hw _ (wd 2 rfl))) (mvT hZ (hw _ (wd 3 rfl))) (by decide) (backOf (W := 1) (kd l Z a0 hw [] a_NEXT_KEY a_GAP a_RECORD a_INSERT_INTENTION G (3 : Int32) 3 T618.heap n0 O_619 (Or.inr (Or.inr (Or.inr ⟨by decide, rfl⟩)))) hZ (hw _ (wd 3 rfl)) (hw _ (wd 2 rfl)) (by decide) (by decide)) (g := (mkF m 117 #[iv q1, iv q2, iv q3, iv 3, iv 3, iv 1, iv 0, .unset, .unset] [(.int 3), (.ref a_INSERT_INTENTION)])) rfl (by rw [hml]; rfl) (argsL := [(.int 3)]) (rest := [(.ref a_INSERT_INTENTION)]) (lenOf pd_1 rfl) rfl (by show 2 * 0 + _ ≤ _; exact Nat.le_of_eq rfl) (hb hby at_117) (fun _ _ => ⟨rfl, (rfl : T618.heap = _), (by decide : 1 + 1 ≤ _), (by decide : 4 + 4 ≤ _)⟩)
        dsimp only [Pt.U, Pt.locs, Pt.cells, Pt.slots] at X622 l622 y622 z622 st622 hQ622
        subst l622 y622 z622
        obtain ⟨rfl, N622q, K622⟩ := hQ622
        have N622 := Fr.app N618 N622q
        have O_623 := O_619.keep K622 all0
        have K_624 := K_620.trans K622 all0
        have k_625 : Go p.tables e below (s₁.setTop (entryFrame m #[(.int q1), (.int q2), (.int q3)] maxLocals)) (T622.setTop (mkF m 122 #[iv q1, iv q2, iv q3, iv 3, iv 3, iv 1, iv 0, .unset, .unset] [(.int 1), (.ref a_INSERT_INTENTION), (.ref a_INSERT_INTENTION)])) := fun t q => by
          refine k_621 t ?_
          refine st622 _ ?_
          show Steps _ _ _ (T622.setTop (mkF m 120 #[iv q1, iv q2, iv q3, iv 3, iv 3, iv 1, iv 0, .unset, .unset] [(.ref a_INSERT_INTENTION), (.ref a_INSERT_INTENTION)])) _
          refine XS.iload X622.here hx rfl (hb hby at_120) rfl ?_
          show Steps _ _ _ (T622.setTop (mkF m 122 #[iv q1, iv q2, iv q3, iv 3, iv 3, iv 1, iv 0, .unset, .unset] [(.int 1), (.ref a_INSERT_INTENTION), (.ref a_INSERT_INTENTION)])) _
          exact q
        obtain ⟨cq626, kq626, q626a, q626b, q626c⟩ := isOf hZ (rfl : T622.heap = _) (Exa.ext O_623.2 E_INSERT_INTENTION)
        obtain ⟨_, _, ⟨T626, L626, k626, n626⟩, -, X626, ⟨Lc626, hQ626, l626, y626, z626⟩, st626⟩ := X622.virtualBack hx (y := y_3) (z := y_3) hown (mvT hZ (hw _ (wd 16 rfl))) (mvT hZ (hw _ (wd 17 rfl))) (notFace_of_selects (args := #[]) (mvT hZ (hw _ (wd 19 rfl)))) (mvT hZ (hw _ (wd 19 rfl))) (mvT hZ (hw _ (wd 18 rfl))) (by decide) (backOf (W := 0) (cv_3_3_1 l Z a0 hw [] a_NEXT_KEY a_GAP a_RECORD a_INSERT_INTENTION G  T622.heap n0 O_623 ) hZ (hw _ (wd 20 rfl)) (hw _ (wd 7 rfl)) (by decide) (by decide)) q626a q626c (g := (mkF m 122 #[iv q1, iv q2, iv q3, iv 3, iv 3, iv 1, iv 0, .unset, .unset] [(.int 1), (.ref a_INSERT_INTENTION), (.ref a_INSERT_INTENTION)])) rfl (by rw [hml]; rfl) (Steps.refl _) (argsL := [(.ref a_INSERT_INTENTION), (.int 1)]) (rest := []) (lenOf pd_2 rfl) rfl (by show 2 * 0 + _ ≤ _; exact Nat.le_of_eq rfl) (hb hby at_122) (fun _ _ => ⟨rfl, (rfl : T622.heap = _), (by decide : 2 + 0 ≤ _), (by decide : 8 + 0 ≤ _)⟩)
        dsimp only [Pt.U, Pt.locs, Pt.cells, Pt.slots] at X626 l626 y626 z626 st626 hQ626
        subst l626 y626 z626
        obtain ⟨rfl, N626q, e626⟩ := hQ626
        have N626 := Fr.app N622 N626q
        have k_627 : Go p.tables e below (s₁.setTop (entryFrame m #[(.int q1), (.int q2), (.int q3)] maxLocals)) (T626.setTop (mkF m 139 #[iv q1, iv q2, iv q3, iv 3, iv 3, iv 1, iv 0, iv 0, .unset] [(.int 1)])) := fun t q => by
          refine k_625 t ?_
          refine st626.trans ?_
          show Steps _ _ _ (T626.setTop (mkF m 125 #[iv q1, iv q2, iv q3, iv 3, iv 3, iv 1, iv 0, .unset, .unset] [(.int 0)])) _
          refine XS.istore X626.here hx rfl (hb hby at_125) rfl (l' := #[iv q1, iv q2, iv q3, iv 3, iv 3, iv 1, iv 0, iv 0, .unset]) rfl ?_
          show Steps _ _ _ (T626.setTop (mkF m 127 #[iv q1, iv q2, iv q3, iv 3, iv 3, iv 1, iv 0, iv 0, .unset] [])) _
          refine XS.iload X626.here hx rfl (hb hby at_127) rfl ?_
          show Steps _ _ _ (T626.setTop (mkF m 129 #[iv q1, iv q2, iv q3, iv 3, iv 3, iv 1, iv 0, iv 0, .unset] [(.int 0)])) _
          refine XS.iload X626.here hx rfl (hb hby at_129) rfl ?_
          show Steps _ _ _ (T626.setTop (mkF m 131 #[iv q1, iv q2, iv q3, iv 3, iv 3, iv 1, iv 0, iv 0, .unset] [(.int 0), (.int 0)])) _
          refine XS.icmpNo X626.here hx rfl (hb hby at_131) rfl (by decide) ?_
          show Steps _ _ _ (T626.setTop (mkF m 134 #[iv q1, iv q2, iv q3, iv 3, iv 3, iv 1, iv 0, iv 0, .unset] [])) _
          refine XS.iconst X626.here hx rfl (hb hby at_134) ?_
          show Steps _ _ _ (T626.setTop (mkF m 135 #[iv q1, iv q2, iv q3, iv 3, iv 3, iv 1, iv 0, iv 0, .unset] [(.int 1)])) _
          refine XS.goto X626.here hx rfl (pc0 := 135) (pc' := 139) rfl (hb hby at_135) (by decide) (by decide) ?_
          show Steps _ _ _ (T626.setTop (mkF m 139 #[iv q1, iv q2, iv q3, iv 3, iv 3, iv 1, iv 0, iv 0, .unset] [(.int 1)])) _
          exact q
        obtain ⟨fs, hr, hrun, hended, hW, hsame⟩ := X626.leave (v := some (.int 1)) (fun h => by rw [Bd.returns] at h; cases h)
        refine ⟨_, _, k_627 _ ?_, hrun, hended, _, _, rfl, ?_, ⟨_, rfl⟩, hW, hsame.mono (by decide) (by decide)⟩
        · exact retN X626 hx (t := .boolean) Bd.returns (by simp) (hb hby at_139) hr
        · show Q0 n0 _ T626.heap _
          rw [e626]
          exact ⟨rfl, N626⟩
set_option maxRecDepth 65536 in
set_option maxHeartbeats 40000000 in
theorem comes_1 {Post : Tables → Env → Array Value → State → Outcome → State → Prop} (hpost : ∀ tb e args s v u, (limb_1_1.after args s (.returned v) u = true ∧ limb_1_2.after args s (.returned v) u = true ∧ True) → FrameEnd s (.returned v) u (Jvm.fieldLocs frame_1_writes args s ++ Jvm.arrayLocs frame_1_arrays args s ++ Jvm.staticLocs frame_1_statics s) 16 128 → Post tb e args s (.returned v) u) :
    ArmFor flags0 classFile x code maxLocals ret World_1 tables_1 room_1 Calls_1 rest_1 Pre_1 Post := by
  intro l hfl _ _ p e ha hc hk s m args below hf hA hF happ hP
  obtain ⟨hcalls, hrest, hpre⟩ := hP
  obtain ⟨-, -, -, hnamed, -, -, -, hat⟩ := (Spec.applies_iff hf).mp happ
  obtain ⟨hg, hn⟩ := and_e (Cond.before_iff.mp (show (Jvm.Cond.and given_1 narrow_1).before args s = true from hpre))
  obtain ⟨g0, c0⟩ := and_e hg
  obtain ⟨g1, c1⟩ := and_e c0
  obtain ⟨g2, c2⟩ := and_e c1
  obtain ⟨w0, w1, w2, rfl⟩ : ∃ w0 w1 w2 : Value, args = #[w0, w1, w2] := by
    have hs : args.size = 3 := by simpa [Cond.value, given_1] using g0
    obtain ⟨L⟩ := args
    match L, hs with
    | [w0, w1, w2], _ => exact ⟨w0, w1, w2, rfl⟩
  have hw := fun d (hd : d ∈ tables_1) => atoms_spec (ws := Jvm.Cond.code x code maxLocals ret :: tables_1) hat d (List.mem_cons_of_mem _ hd)
  obtain ⟨i0, ei0⟩ := is_v g1
  obtain rfl : w0 = (.int i0) := Option.some.inj ei0
  obtain ⟨i1, ei1⟩ := is_v g2
  obtain rfl : w1 = (.int i1) := Option.some.inj ei1
  obtain ⟨i2, ei2⟩ := is_v c2
  obtain rfl : w2 = (.int i2) := Option.some.inj ei2
  obtain ⟨n0, r0⟩ := and_e hn
  obtain ⟨n1, r1⟩ := and_e r0
  obtain ⟨n2, r2⟩ := and_e r1
  obtain ⟨n3, r3⟩ := and_e r2
  obtain ⟨n4, r4⟩ := and_e r3
  obtain ⟨n5, r5⟩ := and_e r4
  obtain ⟨n6, r6⟩ := and_e r5
  obtain ⟨a_NEXT_KEY, v_NEXT_KEY⟩ := exa_v n0
  have E_NEXT_KEY := Exa.start v_NEXT_KEY n0
  have S_NEXT_KEY := Sta.start v_NEXT_KEY (Or.inr ⟨(hw _ (wd 7 rfl)), (hw _ (wd 8 rfl))⟩)
  obtain ⟨a_GAP, v_GAP⟩ := exa_v n1
  have E_GAP := Exa.start v_GAP n1
  have S_GAP := Sta.start v_GAP (Or.inr ⟨(hw _ (wd 7 rfl)), (hw _ (wd 11 rfl))⟩)
  obtain ⟨a_RECORD, v_RECORD⟩ := exa_v n2
  have E_RECORD := Exa.start v_RECORD n2
  have S_RECORD := Sta.start v_RECORD (Or.inr ⟨(hw _ (wd 7 rfl)), (hw _ (wd 13 rfl))⟩)
  obtain ⟨a_INSERT_INTENTION, v_INSERT_INTENTION⟩ := exa_v n3
  have E_INSERT_INTENTION := Exa.start v_INSERT_INTENTION n3
  have S_INSERT_INTENTION := Sta.start v_INSERT_INTENTION (Or.inr ⟨(hw _ (wd 7 rfl)), (hw _ (wd 15 rfl))⟩)
  have R_NEXT_KEY_ordinal := own_fld v_NEXT_KEY n4
  have R_INSERT_INTENTION_ordinal := own_fld v_INSERT_INTENTION n5
  have R_GAP_ordinal := own_fld v_GAP n6
  have R_RECORD_ordinal := own_fld v_RECORD r6
  have G : Own s a_NEXT_KEY a_GAP a_RECORD a_INSERT_INTENTION := ⟨S_NEXT_KEY, E_NEXT_KEY, S_GAP, E_GAP, S_RECORD, E_RECORD, S_INSERT_INTENTION, E_INSERT_INTENTION, R_NEXT_KEY_ordinal, R_INSERT_INTENTION_ordinal, R_GAP_ordinal, R_RECORD_ordinal⟩
  obtain ⟨n, o, h1, h2, h3, _, L, rfl, ⟨rfl, N⟩, hq⟩ := rm0 l s _ hw tables_1 a_NEXT_KEY a_GAP a_RECORD a_INSERT_INTENTION G i0 i1 i2 s.heap s.heap.size (Old.start s) p e ha hc hk s m _ below hf ((Spec.applies_iff_loose hf).mp happ).1 ⟨rfl, State.Warmed39.refl s, rfl⟩ trivial
  refine ⟨n, _, h1, h2, h3, hpost _ _ _ _ _ _ ⟨Cond.after_iff.mpr rfl, Cond.after_iff.mpr (eq_i res_at (Term.int_eval (1)) rfl), trivial⟩ ⟨hq.1, hq.2.1, (hq.2.2.sift fun y hy => Or.inr (N y hy)).mono (by decide) (by decide)⟩⟩
theorem main_1_1 : Claimed_1_1 := comes_1 fun _ _ _ _ _ _ h hF => ⟨h.1, hF⟩
theorem main_1_2 : Claimed_1_2 := comes_1 fun _ _ _ _ _ _ h hF => ⟨h.2.1, hF⟩
end Jvm.Pilot.@@N@@
namespace Jvm.Pilot.@@N@@
open Jvm Jvm.ClassFile Sem Op Lib Jvm.Free Jvm.Stand Jvm.Pilot.@@N@@.Jvm.D
/-! MADE BY PROGRAM (witnessworld.py) out of the Statement's table words and the real class files: 13 classes; the members and pool entries that the words name. The judged class is class 1, her method 4. -/
namespace start1
open Jvm.ClassFile
def u (s : String) : CpInfo := .utf8 (stringToUtf16 s)
/-- a pool by its gaps: so many unusable entries, then the entry; so many at the end -/
def gap : Nat → List CpInfo → List CpInfo
  | 0, r => r
  | n + 1, r => .unusable :: gap n r
def poolList (es : List (Nat × CpInfo)) (last : Nat) : List CpInfo := es.foldr (fun e r => gap e.1 (e.2 :: r)) (gap last [])
def pool (es : List (Nat × CpInfo)) (last : Nat) : Array CpInfo := ⟨poolList es last⟩
def fileOf (pool : Array CpInfo) (this : Nat) (attrs : Array Attribute := #[]) (ms : Array MethodInfo := #[]) (fl : Nat := 33) (sup : Nat := 0) (ifs : Array Nat := #[]) (fds : Array FieldInfo := #[]) : ClassFile where
  minorVersion := 0
  majorVersion := 65
  constantPool := pool
  accessFlags := fl
  thisClass := this
  superClass := sup
  interfaces := ifs
  fields := fds
  methods := ms
  attributes := attrs
def plain (name : String) (sup : Option ClassId) : Class where
  name := name
  kind := .ordinary
  loader := none
  accessFlags := 33
  super := sup
  interfaces := #[]
  cf := none
  fields := #[]
  methods := #[]
  instanceTypes := #[]
  staticTypes := #[]
  resolved := #[]
  callSites := []
  init := .initialized
  statics := none
  mirror := none

def pool0 : Array CpInfo := pool [(5, u "<init>"), (0, u "()V"), (1, .class_ 10), (1, u "java/lang/Object")] 113

def k0m0 : Method := { name := "<init>", desc := "()V", sig := { parameters := [], returnType := none }, accessFlags := 1, code := none }
/-- java/lang/Object -/
def k0 : Class := { plain "java/lang/Object" none with
  accessFlags := 33
  interfaces := #[]
  cf := some (fileOf pool0 8 #[] #[{ accessFlags := 1, nameIndex := 5, descriptorIndex := 6, attributes := #[] }] 33 0 #[] #[])
  fields := #[]
  methods := #[k0m0]
  instanceTypes := #[]
  staticTypes := #[]
  resolved := Array.replicate 124 none
  statics := none }

def pool1 : Array CpInfo := pool [(2, .class_ 4), (1, u "java/lang/Object"), (0, u "<init>"), (0, u "()V"), (0, .class_ 8), (0, u "com/example/nkdb/nkdb/transaction/LockKind"), (0, .fieldref 7 10), (0, .nameAndType 11 12), (0, u "NEXT_KEY"), (0, u "Lcom/example/nkdb/nkdb/transaction/LockKind;"), (0, .fieldref 7 14), (0, .nameAndType 15 12), (0, u "GAP"), (0, .fieldref 7 17), (0, .nameAndType 18 12), (0, u "RECORD"), (0, .fieldref 7 20), (0, .nameAndType 21 12), (0, u "INSERT_INTENTION"), (0, .methodref 23 24), (0, .class_ 25), (0, .nameAndType 26 27), (0, u "com/example/nkdb/nkdb/transaction/LockKindCoversPinLaw"), (0, u "hasRow"), (0, u "(I)Z"), (0, .methodref 23 29), (0, .nameAndType 30 27), (0, u "hasGap"), (0, .methodref 23 32), (0, .nameAndType 33 34), (0, u "kind"), (0, u "(I)Lcom/example/nkdb/nkdb/transaction/LockKind;"), (0, .methodref 7 36), (0, .nameAndType 37 38), (0, u "covers"), (0, u "(Lcom/example/nkdb/nkdb/transaction/LockKind;Z)Z"), (3, u "law"), (0, u "(III)Z")] 2

def k1m0 : Method := { name := "<init>", desc := "()V", sig := { parameters := [], returnType := none }, accessFlags := 1, code := none }
def k1c1 : Code := { maxStack := 4, maxLocals := 2, code := method_2_code, exceptionTable := #[], attributes := #[] }
def k1m1 : Method := { name := "kind", desc := "(I)Lcom/example/nkdb/nkdb/transaction/LockKind;", sig := { parameters := [.int], returnType := some (.object "com/example/nkdb/nkdb/transaction/LockKind") }, accessFlags := 10, code := some k1c1 }
def k1c2 : Code := { maxStack := 2, maxLocals := 1, code := method_3_code, exceptionTable := #[], attributes := #[] }
def k1m2 : Method := { name := "hasGap", desc := "(I)Z", sig := { parameters := [.int], returnType := some .boolean }, accessFlags := 10, code := some k1c2 }
def k1c3 : Code := { maxStack := 2, maxLocals := 1, code := method_4_code, exceptionTable := #[], attributes := #[] }
def k1m3 : Method := { name := "hasRow", desc := "(I)Z", sig := { parameters := [.int], returnType := some .boolean }, accessFlags := 10, code := some k1c3 }
def k1c4 : Code := { maxStack := 3, maxLocals := 9, code := code, exceptionTable := #[], attributes := #[] }
def k1m4 : Method := { name := "law", desc := "(III)Z", sig := { parameters := [.int, .int, .int], returnType := some .boolean }, accessFlags := 9, code := some k1c4 }
/-- com/example/nkdb/nkdb/transaction/LockKindCoversPinLaw -/
def k1 : Class := { plain "com/example/nkdb/nkdb/transaction/LockKindCoversPinLaw" (some 0) with
  accessFlags := 49
  interfaces := #[]
  cf := some (fileOf pool1 23 #[] #[{ accessFlags := 1, nameIndex := 5, descriptorIndex := 6, attributes := #[] }, { accessFlags := 10, nameIndex := 33, descriptorIndex := 34, attributes := #[] }, { accessFlags := 10, nameIndex := 30, descriptorIndex := 27, attributes := #[] }, { accessFlags := 10, nameIndex := 26, descriptorIndex := 27, attributes := #[] }, { accessFlags := 9, nameIndex := 42, descriptorIndex := 43, attributes := #[] }] 49 2 #[] #[])
  fields := #[]
  methods := #[k1m0, k1m1, k1m2, k1m3, k1m4]
  instanceTypes := #[]
  staticTypes := #[]
  resolved := Array.replicate 46 none
  statics := none }

def pool2 : Array CpInfo := pool [(1, .class_ 2), (0, u "java/lang/constant/Constable"), (0, .class_ 4), (0, u "java/lang/Object")] 6

/-- java/lang/constant/Constable -/
def k2 : Class := { plain "java/lang/constant/Constable" (some 0) with
  accessFlags := 1537
  interfaces := #[]
  cf := some (fileOf pool2 1 #[] #[] 1537 3 #[] #[])
  fields := #[]
  methods := #[]
  instanceTypes := #[]
  staticTypes := #[]
  resolved := Array.replicate 11 none
  statics := none }

def pool3 : Array CpInfo := pool [(1, .class_ 2), (0, u "java/lang/Comparable"), (0, .class_ 4), (0, u "java/lang/Object")] 7

/-- java/lang/Comparable -/
def k3 : Class := { plain "java/lang/Comparable" (some 0) with
  accessFlags := 1537
  interfaces := #[]
  cf := some (fileOf pool3 1 #[] #[] 1537 3 #[] #[])
  fields := #[]
  methods := #[]
  instanceTypes := #[]
  staticTypes := #[]
  resolved := Array.replicate 12 none
  statics := none }

def pool4 : Array CpInfo := pool [(1, .class_ 2), (0, u "java/io/Serializable"), (0, .class_ 4), (0, u "java/lang/Object")] 2

/-- java/io/Serializable -/
def k4 : Class := { plain "java/io/Serializable" (some 0) with
  accessFlags := 1537
  interfaces := #[]
  cf := some (fileOf pool4 1 #[] #[] 1537 3 #[] #[])
  fields := #[]
  methods := #[]
  instanceTypes := #[]
  staticTypes := #[]
  resolved := Array.replicate 7 none
  statics := none }

def pool5 : Array CpInfo := pool [(2, .class_ 4), (1, u "java/lang/Enum"), (0, u "name"), (0, u "Ljava/lang/String;"), (2, u "ordinal"), (0, u "I"), (1, .class_ 14), (1, u "java/lang/Object"), (4, u "hash"), (86, .class_ 108), (1, u "java/lang/Enum$EnumDesc"), (2, .class_ 112), (0, u "java/lang/constant/Constable"), (0, .class_ 114), (0, u "java/lang/Comparable"), (0, .class_ 116), (0, u "java/io/Serializable")] 87

/-- java/lang/Enum -/
def k5 : Class := { plain "java/lang/Enum" (some 0) with
  accessFlags := 1057
  interfaces := #[2, 3, 4]
  cf := some (fileOf pool5 2 #[.nestMembers #[106]] #[] 1057 12 #[111, 113, 115] #[{ accessFlags := 18, nameIndex := 5, descriptorIndex := 6, attributes := #[] }, { accessFlags := 18, nameIndex := 9, descriptorIndex := 10, attributes := #[] }, { accessFlags := 2, nameIndex := 19, descriptorIndex := 10, attributes := #[] }])
  fields := #[{ name := "name", type := (.object "java/lang/String"), accessFlags := 18, slot := 0, constantValue := 0 }, { name := "ordinal", type := .int, accessFlags := 18, slot := 1, constantValue := 0 }, { name := "hash", type := .int, accessFlags := 2, slot := 2, constantValue := 0 }]
  methods := #[]
  instanceTypes := #[(.object "java/lang/String"), .int, .int]
  staticTypes := #[]
  resolved := Array.replicate 204 none
  statics := none }

def pool6 : Array CpInfo := pool [(1, .class_ 2), (0, u "com/example/nkdb/nkdb/transaction/LockKind"), (0, .fieldref 1 4), (0, .nameAndType 5 6), (0, u "NEXT_KEY"), (0, u "Lcom/example/nkdb/nkdb/transaction/LockKind;"), (2, u "GAP"), (2, u "RECORD"), (0, .fieldref 1 14), (0, .nameAndType 15 6), (0, u "INSERT_INTENTION"), (2, u "$VALUES"), (0, u "[Lcom/example/nkdb/nkdb/transaction/LockKind;"), (6, .class_ 28), (1, u "java/lang/Enum"), (27, u "(Lcom/example/nkdb/nkdb/transaction/LockKind;Z)Z"), (1, u "covers")] 5

def k6c0 : Code := { maxStack := 2, maxLocals := 4, code := prog_87_method_5_code, exceptionTable := #[], attributes := #[] }
def k6m0 : Method := { name := "covers", desc := "(Lcom/example/nkdb/nkdb/transaction/LockKind;Z)Z", sig := { parameters := [(.object "com/example/nkdb/nkdb/transaction/LockKind"), .boolean], returnType := some .boolean }, accessFlags := 0, code := some k6c0 }
/-- com/example/nkdb/nkdb/transaction/LockKind -/
def k6 : Class := { plain "com/example/nkdb/nkdb/transaction/LockKind" (some 5) with
  accessFlags := 16433
  interfaces := #[]
  cf := some (fileOf pool6 1 #[] #[{ accessFlags := 0, nameIndex := 58, descriptorIndex := 56, attributes := #[] }] 16433 26 #[] #[{ accessFlags := 16409, nameIndex := 5, descriptorIndex := 6, attributes := #[] }, { accessFlags := 16409, nameIndex := 9, descriptorIndex := 6, attributes := #[] }, { accessFlags := 16409, nameIndex := 12, descriptorIndex := 6, attributes := #[] }, { accessFlags := 16409, nameIndex := 15, descriptorIndex := 6, attributes := #[] }, { accessFlags := 4122, nameIndex := 18, descriptorIndex := 19, attributes := #[] }])
  fields := #[{ name := "NEXT_KEY", type := (.object "com/example/nkdb/nkdb/transaction/LockKind"), accessFlags := 16409, slot := 0, constantValue := 0 }, { name := "GAP", type := (.object "com/example/nkdb/nkdb/transaction/LockKind"), accessFlags := 16409, slot := 1, constantValue := 0 }, { name := "RECORD", type := (.object "com/example/nkdb/nkdb/transaction/LockKind"), accessFlags := 16409, slot := 2, constantValue := 0 }, { name := "INSERT_INTENTION", type := (.object "com/example/nkdb/nkdb/transaction/LockKind"), accessFlags := 16409, slot := 3, constantValue := 0 }, { name := "$VALUES", type := (.array (.object "com/example/nkdb/nkdb/transaction/LockKind")), accessFlags := 4122, slot := 4, constantValue := 0 }]
  methods := #[k6m0]
  instanceTypes := #[(.object "java/lang/String"), .int, .int]
  staticTypes := #[(.object "com/example/nkdb/nkdb/transaction/LockKind"), (.object "com/example/nkdb/nkdb/transaction/LockKind"), (.object "com/example/nkdb/nkdb/transaction/LockKind"), (.object "com/example/nkdb/nkdb/transaction/LockKind"), (.array (.object "com/example/nkdb/nkdb/transaction/LockKind"))]
  resolved := Array.replicate 64 none
  statics := some 0 }

def pool7 : Array CpInfo := pool [(1, u "java/lang/Cloneable"), (0, .class_ 1), (0, u "java/lang/Object"), (0, .class_ 3)] 3

/-- java/lang/Cloneable -/
def k7 : Class := { plain "java/lang/Cloneable" (some 0) with
  accessFlags := 1537
  interfaces := #[]
  cf := some (fileOf pool7 2 #[] #[] 1537 4 #[] #[])
  fields := #[]
  methods := #[]
  instanceTypes := #[]
  staticTypes := #[]
  resolved := Array.replicate 8 none
  statics := none }

/-- the primitive byte -/
def k8 : Class := { plain "byte" none with kind := .primitive 'B', accessFlags := 0x411 }
/-- [B -/
def k9 : Class := { plain "[B" (some 0) with kind := .array 8 .byte, interfaces := #[7, 4], accessFlags := 1041 }

/-- the primitive int -/
def k10 : Class := { plain "int" none with kind := .primitive 'I', accessFlags := 0x411 }
/-- [I -/
def k11 : Class := { plain "[I" (some 0) with kind := .array 10 .int, interfaces := #[7, 4], accessFlags := 1041 }

/-- [Lcom/example/nkdb/nkdb/transaction/LockKind; -/
def k12 : Class := { plain "[Lcom/example/nkdb/nkdb/transaction/LockKind;" (some 0) with kind := .array 6 (.object "com/example/nkdb/nkdb/transaction/LockKind"), interfaces := #[7, 4], accessFlags := 1041 }

def heap : Heap := #[{ cls := 6, slots := #[.ref 1, .ref 2, .ref 3, .ref 4, .null], vm := .statics 6 },
  { cls := 6, slots := #[.null, .int 0, .int 0], vm := .none },
  { cls := 6, slots := #[.null, .int 1, .int 0], vm := .none },
  { cls := 6, slots := #[.null, .int 2, .int 0], vm := .none },
  { cls := 6, slots := #[.null, .int 3, .int 0], vm := .none }]
def classes : Array Class := #[k0, k1, k2, k3, k4, k5, k6, k7, k8, k9, k10, k11, k12]
def interned : List (Array UInt16 × Addr) := []
def slotsUsed : Nat := 17
def theMethod : MethodId := ⟨1, 4⟩
def args0 : Array Value := #[.int 5, .int 6, .int 7]
def aboutOver (below : List Frame) : State where
  vm := { classes := classes, interned := interned.toArray }
  heap := heap
  slotsUsed := slotsUsed
  threads := #[{ frames := .invoking theMethod args0 :: below }]
def below0 : List Frame := [.native { method := ⟨0, 0⟩, args := #[] }]
def about1 : State := aboutOver below0
def p0 : Program := .bare "" "" ""
def e0 : Env := launch0.env 0 0 0
theorem w_frames : about1.frames = Frame.invoking theMethod args0 :: below0 := rfl
set_option maxRecDepth 65536 in
theorem w_args : argsFit about1.vm theMethod args0 = true := by decide +kernel
set_option maxRecDepth 65536 in
theorem w_heap : heapFits about1 = true := by decide +kernel
set_option maxRecDepth 65536 in
theorem w_runnable : about1.curStatus? = some .runnable := by decide +kernel
set_option maxRecDepth 65536 in
theorem w_alone : about1.alone = true := by decide +kernel
set_option maxRecDepth 65536 in
theorem w_named : about1.methodNamed? x = some theMethod := by decide +kernel
set_option maxRecDepth 65536 in
theorem w_hears : about1.hears theMethod below0 = true := by decide +kernel
set_option maxRecDepth 65536 in
theorem w_ripe : about1.ripe theMethod args0 below0 = true := by decide +kernel
theorem w_running : about1.status = .running := rfl
set_option maxRecDepth 65536 in
theorem w_room : about1.hasRoom e0.platform room_1 = true :=
  launch0.hasRoom_least _ room_1 (by decide +kernel) (by decide +kernel) (by decide +kernel) (by decide +kernel) (by decide +kernel) (by decide +kernel)
theorem allAtoms_all (ts : List Jvm.Cond) (a : Array Jvm.Value) (st : Jvm.State) : (allAtoms ts).before a st = ts.all (fun c => c.before a st) := by
  induction ts with
  | nil => rfl
  | cons c t ih =>
    show (Jvm.Cond.and c (allAtoms t)).before a st = _
    rw [Jvm.Cond.before_and, ih, List.all_cons]
def words1 : List Jvm.Cond := Jvm.Cond.code x code maxLocals ret :: tables_1
/-- a 'code' word, met by the world's own term for the bytes: nothing is compared byte by byte -/
theorem code_word {y : MethodName} {bytes : ByteArray} {mx : Nat} {rt : Option FieldType} {a : Array Value} {s : State} {m : MethodId} {meth : Method} {c : Code} (h1 : s.methodNamed? y = some m) (h2 : s.vm.method? m = some meth) (h3 : meth.code = some c) (h4 : c.code = bytes)
    (h5 : (c.maxLocals == mx && c.exceptionTable.isEmpty && decide (c.maxStack ≤ mostOperands) && decide (meth.sig.returnType = rt) && !meth.locks && decide (parseMethodDescriptor y.desc = some meth.sig)) = true) : (Jvm.Cond.code y bytes mx rt).before a s = true := by
  simp only [Bool.and_eq_true, beq_iff_eq, Bool.not_eq_true', decide_eq_true_eq] at h5
  obtain ⟨⟨⟨⟨⟨g1, g2⟩, g3⟩, g4⟩, g5⟩, g6⟩ := h5
  simp [Cond.before, Cond.holds, Cond.value, h1, h2, h3, h4, g1, g2, g3, g4, g5, g6]
def isCode : Jvm.Cond → Bool
  | .code _ _ _ _ => true
  | _ => false
theorem all_split {L : List Jvm.Cond} {P : Jvm.Cond → Bool} (h1 : L.all (fun c => isCode c || P c) = true) (h2 : ∀ c ∈ L.filter isCode, P c = true) : L.all P = true := by
  refine List.all_eq_true.mpr fun c hc => ?_
  have h := List.all_eq_true.mp h1 c hc
  rcases Bool.eq_false_or_eq_true (isCode c) with hi | hi
  · exact h2 c (List.mem_filter.mpr ⟨hc, hi⟩)
  · simpa [hi] using h
set_option maxRecDepth 65536 in
theorem w_c0 : (Jvm.Cond.code x code maxLocals ret).before args0 about1 = true := code_word (m := ⟨1, 4⟩) (meth := k1m4) (c := k1c4) (by decide +kernel) rfl rfl rfl (by decide +kernel)
set_option maxRecDepth 65536 in
theorem w_c1 : (Jvm.Cond.code ({ cls := "com/example/nkdb/nkdb/transaction/LockKindCoversPinLaw", name := "kind", desc := "(I)Lcom/example/nkdb/nkdb/transaction/LockKind;" } : Jvm.MethodName) method_2_code (2 : Nat) (Option.some (Jvm.ClassFile.FieldType.object "com/example/nkdb/nkdb/transaction/LockKind"))).before args0 about1 = true := code_word (m := ⟨1, 1⟩) (meth := k1m1) (c := k1c1) (by decide +kernel) rfl rfl rfl (by decide +kernel)
set_option maxRecDepth 65536 in
theorem w_c2 : (Jvm.Cond.code ({ cls := "com/example/nkdb/nkdb/transaction/LockKind", name := "covers", desc := "(Lcom/example/nkdb/nkdb/transaction/LockKind;Z)Z" } : Jvm.MethodName) prog_87_method_5_code (4 : Nat) (Option.some Jvm.ClassFile.FieldType.boolean)).before args0 about1 = true := code_word (m := ⟨6, 0⟩) (meth := k6m0) (c := k6c0) (by decide +kernel) rfl rfl rfl (by decide +kernel)
set_option maxRecDepth 65536 in
theorem w_c3 : (Jvm.Cond.code ({ cls := "com/example/nkdb/nkdb/transaction/LockKindCoversPinLaw", name := "hasRow", desc := "(I)Z" } : Jvm.MethodName) method_4_code (1 : Nat) (Option.some Jvm.ClassFile.FieldType.boolean)).before args0 about1 = true := code_word (m := ⟨1, 3⟩) (meth := k1m3) (c := k1c3) (by decide +kernel) rfl rfl rfl (by decide +kernel)
set_option maxRecDepth 65536 in
theorem w_c4 : (Jvm.Cond.code ({ cls := "com/example/nkdb/nkdb/transaction/LockKindCoversPinLaw", name := "hasGap", desc := "(I)Z" } : Jvm.MethodName) method_3_code (1 : Nat) (Option.some Jvm.ClassFile.FieldType.boolean)).before args0 about1 = true := code_word (m := ⟨1, 2⟩) (meth := k1m2) (c := k1c2) (by decide +kernel) rfl rfl rfl (by decide +kernel)
def codes1 : List Jvm.Cond := [Jvm.Cond.code x code maxLocals ret, Jvm.Cond.code ({ cls := "com/example/nkdb/nkdb/transaction/LockKindCoversPinLaw", name := "kind", desc := "(I)Lcom/example/nkdb/nkdb/transaction/LockKind;" } : Jvm.MethodName) method_2_code (2 : Nat) (Option.some (Jvm.ClassFile.FieldType.object "com/example/nkdb/nkdb/transaction/LockKind")), Jvm.Cond.code ({ cls := "com/example/nkdb/nkdb/transaction/LockKind", name := "covers", desc := "(Lcom/example/nkdb/nkdb/transaction/LockKind;Z)Z" } : Jvm.MethodName) prog_87_method_5_code (4 : Nat) (Option.some Jvm.ClassFile.FieldType.boolean), Jvm.Cond.code ({ cls := "com/example/nkdb/nkdb/transaction/LockKindCoversPinLaw", name := "hasRow", desc := "(I)Z" } : Jvm.MethodName) method_4_code (1 : Nat) (Option.some Jvm.ClassFile.FieldType.boolean), Jvm.Cond.code ({ cls := "com/example/nkdb/nkdb/transaction/LockKindCoversPinLaw", name := "hasGap", desc := "(I)Z" } : Jvm.MethodName) method_3_code (1 : Nat) (Option.some Jvm.ClassFile.FieldType.boolean)]
set_option maxRecDepth 65536 in
theorem codes_eq : words1.filter isCode = codes1 := rfl
theorem w_codes : ∀ c ∈ words1.filter isCode, c.before args0 about1 = true := by
  rw [codes_eq]
  intro c hc
  simp only [codes1, List.mem_cons, List.not_mem_nil, or_false] at hc
  rcases hc with rfl | rfl | rfl | rfl | rfl
  · exact w_c0
  · exact w_c1
  · exact w_c2
  · exact w_c3
  · exact w_c4
set_option maxRecDepth 65536 in
theorem w_t1 : (words1.take 24).all (fun c => isCode c || c.before args0 about1) = true := by decide +kernel
set_option maxRecDepth 65536 in
theorem w_t2 : (words1.drop 24).all (fun c => isCode c || c.before args0 about1) = true := by decide +kernel
theorem w_tables : (allAtoms (Jvm.Cond.code x code maxLocals ret :: tables_1)).before args0 about1 = true := by
  rw [allAtoms_all]
  show words1.all (fun c => c.before args0 about1) = true
  refine all_split ?_ w_codes
  rw [← List.take_append_drop 24 words1, List.all_append, w_t1, w_t2]
  rfl
set_option maxRecDepth 65536 in
theorem w_case : (Jvm.Cond.and given_1 narrow_1).before args0 about1 = true := by decide +kernel
theorem w_applies : (headSpec (Jvm.Cond.code x code maxLocals ret :: tables_1) room_1).applies x e0.platform about1 = true :=
  (Spec.applies_iff w_frames).mpr ⟨w_running, w_runnable, w_alone, w_named, w_hears, w_ripe, w_room, w_tables⟩
theorem atStart : AtStart classFile x code maxLocals ret World_1 tables_1 room_1 Calls_1 rest_1 Pre_1 launch0 p0 e0 about1 theMethod args0 below0 :=
  ⟨lists_1, trivial, launch0.admits_env _ _ _, launch0.least_env, fairChoices_fair.cas, fairChoices_fair.clock, w_frames, w_args, w_heap, w_applies, trivial, trivial, w_case⟩
end start1
theorem witness_1 : WitnessClaimed_1 := ⟨start1.p0, start1.e0, start1.about1, start1.theMethod, start1.args0, start1.below0, start1.atStart⟩
end Jvm.Pilot.@@N@@
