import JvmDerived
import JvmDerived.Pilot.@@N@@Statement
import JvmDerived.Pilot.@@N@@Code
set_option linter.unusedVariables false
set_option linter.unusedSimpArgs false
namespace Jvm.Pilot.@@N@@
open Jvm Jvm.ClassFile Sem Op Lib Jvm.Free Jvm.Stand Jvm.LawKit Jvm.RoadKit Bundle Jvm.Pilot.@@N@@.Jvm.D
theorem wd {d : Jvm.Cond} (i : Nat) (h : tables_1[i]? = some d) : d ∈ tables_1 := List.mem_of_getElem? h
def Go (tb : Tables) (e : Env) (below : List Frame) (S0 S : State) : Prop := ∀ t, Steps tb e below S t → Steps tb e below S0 t
theorem own_old_le {Z : State} {n0 : Nat} {h : Heap} (O : Old Z n0 h) : n0 ≤ h.size := O.1 ▸ O.2.1
theorem own_lcmp_self (x : Int64) : lcmpW x x = 0 := by rw [lcW, lc_eq]
theorem own_ne {Z : State} {h : Heap} {a b : Addr} {C n d : String} {i j : Int32} (F : Fld Z h a C n d (.int i)) (G : Fld Z h b C n d (.int j)) (q : i ≠ j) : a ≠ b := F.ne G fun e => q (Value.int.inj e)
theorem own_narrow_ref {v : Value} {n : String} (h : v.isRef = true) : narrow (.object n) v = v := by rcases ref_cases h with rfl | ⟨_, rfl⟩ <;> rfl
theorem own_fits_ref {v : Value} {n : String} (h : v.isRef = true) : fits (.object n) v = true := by rcases ref_cases h with rfl | ⟨_, rfl⟩ <;> rfl
theorem own_narrow_bool {z : Int32} (h : z = 0 ∨ z = 1) : narrow .boolean (.int z) = .int z := by rcases h with rfl | rfl <;> rfl
theorem own_fits_bool {z : Int32} (h : z = 0 ∨ z = 1) : fits .boolean (.int z) = true := by rcases h with rfl | rfl <;> rfl
def QV (w : Option Value) (h0 : Heap) (n0 : Nat) (v : Option Value) (h : Heap) (L : List Loc) : Prop := v = w ∧ Fr n0 L ∧ h = h0
def Q0 (n0 : Nat) (v : Option Value) (h : Heap) (L : List Loc) : Prop := v = some (.int (1 : Int32)) ∧ Fr n0 L
abbrev y_0 : MethodName := ⟨"com/example/nkdb/nkdb/transaction/LockKindLocksGapPinLaw", "pick", "(I)Lcom/example/nkdb/nkdb/transaction/LockKind;"⟩
abbrev y_1 : MethodName := ⟨"com/example/nkdb/nkdb/transaction/LockKind", "locksGap", "()Z"⟩
abbrev y_2 : MethodName := ⟨"com/example/nkdb/nkdb/transaction/LockKind", "waitsFor", "(Lcom/example/nkdb/nkdb/transaction/LockKind;Z)Z"⟩
theorem d1_0 : decode method_2_code 0 = .ok (.iload_n 0, 1) := by decide +kernel
theorem d1_1 : decode method_2_code 1 = .ok (.ifCond .ne 7, 3) := by decide +kernel
theorem d1_4 : decode method_2_code 4 = .ok (.getstatic 7, 3) := by decide +kernel
theorem d1_7 : decode method_2_code 7 = .ok (.areturn, 1) := by decide +kernel
theorem d1_8 : decode method_2_code 8 = .ok (.iload_n 0, 1) := by decide +kernel
theorem d1_9 : decode method_2_code 9 = .ok (.iconst 1, 1) := by decide +kernel
theorem d1_10 : decode method_2_code 10 = .ok (.if_icmp .ne 7, 3) := by decide +kernel
theorem d1_13 : decode method_2_code 13 = .ok (.getstatic 13, 3) := by decide +kernel
theorem d1_16 : decode method_2_code 16 = .ok (.areturn, 1) := by decide +kernel
theorem d1_17 : decode method_2_code 17 = .ok (.iload_n 0, 1) := by decide +kernel
theorem d1_18 : decode method_2_code 18 = .ok (.iconst 2, 1) := by decide +kernel
theorem d1_19 : decode method_2_code 19 = .ok (.if_icmp .ne 7, 3) := by decide +kernel
theorem d1_22 : decode method_2_code 22 = .ok (.getstatic 16, 3) := by decide +kernel
theorem d1_25 : decode method_2_code 25 = .ok (.areturn, 1) := by decide +kernel
theorem d1_26 : decode method_2_code 26 = .ok (.getstatic 19, 3) := by decide +kernel
theorem d1_29 : decode method_2_code 29 = .ok (.areturn, 1) := by decide +kernel
theorem d2_0 : decode prog_87_method_6_code 0 = .ok (.aload_n 0, 1) := by decide +kernel
theorem d2_1 : decode prog_87_method_6_code 1 = .ok (.getstatic 3, 3) := by decide +kernel
theorem d2_4 : decode prog_87_method_6_code 4 = .ok (.if_acmp .eq 10, 3) := by decide +kernel
theorem d2_7 : decode prog_87_method_6_code 7 = .ok (.aload_n 0, 1) := by decide +kernel
theorem d2_8 : decode prog_87_method_6_code 8 = .ok (.getstatic 7, 3) := by decide +kernel
theorem d2_11 : decode prog_87_method_6_code 11 = .ok (.if_acmp .ne 7, 3) := by decide +kernel
theorem d2_14 : decode prog_87_method_6_code 14 = .ok (.iconst 1, 1) := by decide +kernel
theorem d2_15 : decode prog_87_method_6_code 15 = .ok (.goto 4, 3) := by decide +kernel
theorem d2_18 : decode prog_87_method_6_code 18 = .ok (.iconst 0, 1) := by decide +kernel
theorem d2_19 : decode prog_87_method_6_code 19 = .ok (.ireturn, 1) := by decide +kernel
theorem d3_0 : decode prog_87_method_4_code 0 = .ok (.aload_n 0, 1) := by decide +kernel
theorem d3_1 : decode prog_87_method_4_code 1 = .ok (.getstatic 13, 3) := by decide +kernel
theorem d3_4 : decode prog_87_method_4_code 4 = .ok (.if_acmp .ne 26, 3) := by decide +kernel
theorem d3_7 : decode prog_87_method_4_code 7 = .ok (.aload_n 1, 1) := by decide +kernel
theorem d3_8 : decode prog_87_method_4_code 8 = .ok (.getstatic 3, 3) := by decide +kernel
theorem d3_11 : decode prog_87_method_4_code 11 = .ok (.if_acmp .eq 10, 3) := by decide +kernel
theorem d3_14 : decode prog_87_method_4_code 14 = .ok (.aload_n 1, 1) := by decide +kernel
theorem d3_15 : decode prog_87_method_4_code 15 = .ok (.getstatic 7, 3) := by decide +kernel
theorem d3_18 : decode prog_87_method_4_code 18 = .ok (.if_acmp .ne 7, 3) := by decide +kernel
theorem d3_21 : decode prog_87_method_4_code 21 = .ok (.iconst 1, 1) := by decide +kernel
theorem d3_22 : decode prog_87_method_4_code 22 = .ok (.goto 4, 3) := by decide +kernel
theorem d3_25 : decode prog_87_method_4_code 25 = .ok (.iconst 0, 1) := by decide +kernel
theorem d3_26 : decode prog_87_method_4_code 26 = .ok (.istore_n 3, 1) := by decide +kernel
theorem d3_27 : decode prog_87_method_4_code 27 = .ok (.goto 27, 3) := by decide +kernel
theorem d3_54 : decode prog_87_method_4_code 54 = .ok (.iload_n 3, 1) := by decide +kernel
theorem d3_55 : decode prog_87_method_4_code 55 = .ok (.ireturn, 1) := by decide +kernel
theorem pn_0 : plainName "com/example/nkdb/nkdb/transaction/LockKindLocksGapPinLaw" = true := by first | (simp [plainName, overriddenIn]; done) | decide +kernel
theorem pn_1 : plainName "com/example/nkdb/nkdb/transaction/LockKind" = true := by first | (simp [plainName, overriddenIn]; done) | decide +kernel
theorem pd_0 : parseMethodDescriptor "(I)Lcom/example/nkdb/nkdb/transaction/LockKind;" = some ⟨[.int], some (.object "com/example/nkdb/nkdb/transaction/LockKind")⟩ := by decide +kernel
theorem pd_1 : parseMethodDescriptor "()Z" = some ⟨[], some .boolean⟩ := by decide +kernel
theorem pd_2 : parseMethodDescriptor "(Lcom/example/nkdb/nkdb/transaction/LockKind;Z)Z" = some ⟨[(.object "com/example/nkdb/nkdb/transaction/LockKind"), .boolean], some .boolean⟩ := by decide +kernel
theorem own_cases_4 {y : Int32} (h0 : 0 ≤ y.toInt) (h1 : y.toInt < 4) : y = 0 ∨ y = 1 ∨ y = 2 ∨ y = 3 := by
  have h : y.toInt = 0 ∨ y.toInt = 1 ∨ y.toInt = 2 ∨ y.toInt = 3 := by omega
  rcases h with h | h | h | h
  · exact (Or.inl (Int32.toInt_inj.mp (h.trans (show (0 : Int) = (0 : Int32).toInt from by decide))))
  · exact (Or.inr (Or.inl (Int32.toInt_inj.mp (h.trans (show (1 : Int) = (1 : Int32).toInt from by decide)))))
  · exact (Or.inr (Or.inr (Or.inl (Int32.toInt_inj.mp (h.trans (show (2 : Int) = (2 : Int32).toInt from by decide))))))
  · exact (Or.inr (Or.inr (Or.inr (Int32.toInt_inj.mp (h.trans (show (3 : Int) = (3 : Int32).toInt from by decide))))))
theorem own_mask_4 (x : Int32) : x &&& 3 = 0 ∨ x &&& 3 = 1 ∨ x &&& 3 = 2 ∨ x &&& 3 = 3 := by
  have h := c_and x 3 (by decide)
  have e : (3 : Int32).toInt = 3 := by decide
  exact own_cases_4 h.1 (by omega)
def Own (Z : State) (a_NEXT_KEY a_INSERT_INTENTION a_RECORD a_GAP : Addr) : Prop := Sta Z Z.heap "com/example/nkdb/nkdb/transaction/LockKind" "NEXT_KEY" "Lcom/example/nkdb/nkdb/transaction/LockKind;" (.ref a_NEXT_KEY) ∧ Exa Z Z.heap a_NEXT_KEY "com/example/nkdb/nkdb/transaction/LockKind" ∧ Sta Z Z.heap "com/example/nkdb/nkdb/transaction/LockKind" "INSERT_INTENTION" "Lcom/example/nkdb/nkdb/transaction/LockKind;" (.ref a_INSERT_INTENTION) ∧ Exa Z Z.heap a_INSERT_INTENTION "com/example/nkdb/nkdb/transaction/LockKind" ∧ Sta Z Z.heap "com/example/nkdb/nkdb/transaction/LockKind" "RECORD" "Lcom/example/nkdb/nkdb/transaction/LockKind;" (.ref a_RECORD) ∧ Exa Z Z.heap a_RECORD "com/example/nkdb/nkdb/transaction/LockKind" ∧ Sta Z Z.heap "com/example/nkdb/nkdb/transaction/LockKind" "GAP" "Lcom/example/nkdb/nkdb/transaction/LockKind;" (.ref a_GAP) ∧ Exa Z Z.heap a_GAP "com/example/nkdb/nkdb/transaction/LockKind" ∧ Fld Z Z.heap a_RECORD "java/lang/Enum" "ordinal" "I" (.int 2) ∧ Fld Z Z.heap a_NEXT_KEY "java/lang/Enum" "ordinal" "I" (.int 0) ∧ Fld Z Z.heap a_GAP "java/lang/Enum" "ordinal" "I" (.int 1) ∧ Fld Z Z.heap a_INSERT_INTENTION "java/lang/Enum" "ordinal" "I" (.int 3)
theorem own_fld {args : Array Value} {s : State} {t : Term} {C n d : String} {a : Addr} {k : Int32} (ev : t.eval args s none [] s = some (.ref a)) (h : (Jvm.Cond.eq (.field t C n d) (.int k)).value args s none s [] = some true) : Fld s s.heap a C n d (.int k) := by
  refine Fld.start ?_
  obtain ⟨u, w, h1, h2, h3, h4⟩ := cmp_v (Or.inl h)
  have e2 : w = .int k := (Option.some.inj h2).symm
  subst e2
  obtain ⟨z, rfl⟩ := h4
  rw [fld_at ev] at h1
  rw [h1]
  have q : (Jvm.Cond.eq (.field t C n d) (.int k)).value args s none s [] = some (decide (z = k)) := by simp [Cond.value, Term.eval, ev, h1]
  have := gotT q h
  rw [this]
set_option maxRecDepth 65536 in
set_option maxHeartbeats 40000000 in
theorem pk_0 (l : Launch) (Z : State) (a0 : Array Value) (hw : ∀ d ∈ tables_1, d.before a0 Z = true) (ws : List Jvm.Cond) (a_NEXT_KEY a_INSERT_INTENTION a_RECORD a_GAP : Addr) (G : Own Z a_NEXT_KEY a_INSERT_INTENTION a_RECORD a_GAP)  (h0 : Heap) (n0 : Nat) (O0 : Old Z n0 h0)  :
    MetFree l y_0 (head1 (Jvm.Cond.code y_0 method_2_code 1 (some (.object "com/example/nkdb/nkdb/transaction/LockKind")) :: ws) ({ frames := 0, cells := 0, slots := 0, locals := 0 } : Room)) (fun a U => a = #[(.int 0)] ∧ Z.Warmed39 U.vm ∧ U.heap = h0) (fun _ _ _ _ _ => True) (fun _ U o U' => ∃ v L, o = .returned v ∧ QV (some (.ref a_NEXT_KEY)) h0 n0 v U'.heap L ∧ FrameEnd U o U' L ({ frames := 0, cells := 0, slots := 0, locals := 0 } : Room).cells ({ frames := 0, cells := 0, slots := 0, locals := 0 } : Room).slots) := by
  refine MetFree.of_bodySF (plainFor_of_name pn_0) hisR ?_
  intro p e s m args below meth c s₁ Bd hml0 hP hK
  obtain ⟨rfl, hZ, hh⟩ := hP
  have hx := Bd.exec
  have hby := Bd.bytes
  have hml : c.maxLocals = 1 := hml0
  have hown : s.vm.findClass "com/example/nkdb/nkdb/transaction/LockKindLocksGapPinLaw" = some m.cls := findClass_of_methodNamed Bd.named
  have hnm := (name_of_methodNamed Bd.named Bd.method).1
  have X0 : Stand p l e ({ frames := 0, cells := 0, slots := 0, locals := 0 } : Room) s m #[(.int 0)] below meth c s₁ [] 0 0 := Stand.of_body Bd
  have e0 : s₁.heap = h0 := by rw [← hh, Bd.state]; rfl
  have N0 := Fr.nil n0
  have K0 := Keep.refl h0 []
  have k0 : Go p.tables e below (s₁.setTop (entryFrame m #[(.int 0)] 1)) (s₁.setTop (mkF m 0 #[iv 0] [])) := fun t k => castTop (by first | rfl | (simp [entryFrame, mkF, argsToLocals, Value.category]; done)) k
  have ⟨S_NEXT_KEY, E_NEXT_KEY, S_INSERT_INTENTION, E_INSERT_INTENTION, S_RECORD, E_RECORD, S_GAP, E_GAP, R_RECORD_ordinal, R_NEXT_KEY_ordinal, R_GAP_ordinal, R_INSERT_INTENTION_ordinal⟩ := G
  have k_1 : Go p.tables e below (s₁.setTop (entryFrame m #[(.int 0)] 1)) (s₁.setTop (mkF m 4 #[iv 0] [])) := fun t q => by
    refine k0 t ?_
    refine XS.iloadN X0.here hx rfl (hb hby d1_0) rfl ?_
    show Steps _ _ _ (s₁.setTop (mkF m 1 #[iv 0] [(.int 0)])) _
    refine XS.ifNo X0.here hx rfl (hb hby d1_1) rfl (by decide) ?_
    show Steps _ _ _ (s₁.setTop (mkF m 4 #[iv 0] [])) _
    exact q
  obtain ⟨T2, X2, e2, st2⟩ := getS2 X0 hx hZ hown (host := "") (Or.inl (hw _ (wd 4 rfl))) Via.refl e0 (S_NEXT_KEY.ext O0.2) (g := (mkF m 4 #[iv 0] [])) rfl (hb hby d1_4)
  have k_3 : Go p.tables e below (s₁.setTop (entryFrame m #[(.int 0)] 1)) (T2.setTop (mkF m 7 #[iv 0] [(.ref a_NEXT_KEY)])) := fun t q => by
    refine k_1 t ?_
    refine st2 _ ?_
    show Steps _ _ _ (T2.setTop (mkF m 7 #[iv 0] [(.ref a_NEXT_KEY)])) _
    exact q
  obtain ⟨fs, hr, hrun, hended, hW, hsame⟩ := X2.leave (v := some (.ref a_NEXT_KEY)) (fun h => by rw [Bd.returns] at h; cases h)
  refine ⟨_, _, k_3 _ ?_, hrun, hended, _, _, rfl, ?_, ⟨_, rfl⟩, hW, hsame.mono (by decide) (by decide)⟩
  · exact retOut X2 hx Bd.returns rfl (Or.inr (Or.inr (Or.inr (Or.inr ⟨rfl, rfl, rfl⟩)))) (hb hby d1_7) hr
  · show QV (some (.ref a_NEXT_KEY)) h0 n0 _ T2.heap _
    rw [e2]
    exact ⟨rfl, N0, rfl⟩
set_option maxRecDepth 65536 in
set_option maxHeartbeats 40000000 in
theorem lg_0 (l : Launch) (Z : State) (a0 : Array Value) (hw : ∀ d ∈ tables_1, d.before a0 Z = true) (ws : List Jvm.Cond) (a_NEXT_KEY a_INSERT_INTENTION a_RECORD a_GAP : Addr) (G : Own Z a_NEXT_KEY a_INSERT_INTENTION a_RECORD a_GAP)  (h0 : Heap) (n0 : Nat) (O0 : Old Z n0 h0)  :
    MetFree l y_1 (head1 (Jvm.Cond.code y_1 prog_87_method_6_code 1 (some .boolean) :: ws) ({ frames := 0, cells := 0, slots := 0, locals := 0 } : Room)) (fun a U => a = #[(.ref a_NEXT_KEY)] ∧ Z.Warmed39 U.vm ∧ U.heap = h0) (fun _ _ _ _ _ => True) (fun _ U o U' => ∃ v L, o = .returned v ∧ QV (some (.int 1)) h0 n0 v U'.heap L ∧ FrameEnd U o U' L ({ frames := 0, cells := 0, slots := 0, locals := 0 } : Room).cells ({ frames := 0, cells := 0, slots := 0, locals := 0 } : Room).slots) := by
  refine MetFree.of_bodySF (plainFor_of_name pn_1) hisR ?_
  intro p e s m args below meth c s₁ Bd hml0 hP hK
  obtain ⟨rfl, hZ, hh⟩ := hP
  have hx := Bd.exec
  have hby := Bd.bytes
  have hml : c.maxLocals = 1 := hml0
  have hown : s.vm.findClass "com/example/nkdb/nkdb/transaction/LockKind" = some m.cls := findClass_of_methodNamed Bd.named
  have hnm := (name_of_methodNamed Bd.named Bd.method).1
  have X0 : Stand p l e ({ frames := 0, cells := 0, slots := 0, locals := 0 } : Room) s m #[(.ref a_NEXT_KEY)] below meth c s₁ [] 0 0 := Stand.of_body Bd
  have e0 : s₁.heap = h0 := by rw [← hh, Bd.state]; rfl
  have N0 := Fr.nil n0
  have K0 := Keep.refl h0 []
  have k0 : Go p.tables e below (s₁.setTop (entryFrame m #[(.ref a_NEXT_KEY)] 1)) (s₁.setTop (mkF m 0 #[rv a_NEXT_KEY] [])) := fun t k => castTop (by first | rfl | (simp [entryFrame, mkF, argsToLocals, Value.category]; done)) k
  have ⟨S_NEXT_KEY, E_NEXT_KEY, S_INSERT_INTENTION, E_INSERT_INTENTION, S_RECORD, E_RECORD, S_GAP, E_GAP, R_RECORD_ordinal, R_NEXT_KEY_ordinal, R_GAP_ordinal, R_INSERT_INTENTION_ordinal⟩ := G
  have k_4 : Go p.tables e below (s₁.setTop (entryFrame m #[(.ref a_NEXT_KEY)] 1)) (s₁.setTop (mkF m 1 #[rv a_NEXT_KEY] [(.ref a_NEXT_KEY)])) := fun t q => by
    refine k0 t ?_
    refine XS.aloadN X0.here hx rfl (hb hby d2_0) rfl rfl ?_
    show Steps _ _ _ (s₁.setTop (mkF m 1 #[rv a_NEXT_KEY] [(.ref a_NEXT_KEY)])) _
    exact q
  obtain ⟨T5, X5, e5, st5⟩ := getS2 X0 hx hZ hown (host := "") (Or.inl (hw _ (wd 12 rfl))) Via.refl e0 (S_NEXT_KEY.ext O0.2) (g := (mkF m 1 #[rv a_NEXT_KEY] [(.ref a_NEXT_KEY)])) rfl (hb hby d2_1)
  have k_6 : Go p.tables e below (s₁.setTop (entryFrame m #[(.ref a_NEXT_KEY)] 1)) (T5.setTop (mkF m 19 #[rv a_NEXT_KEY] [(.int 1)])) := fun t q => by
    refine k_4 t ?_
    refine st5 _ ?_
    show Steps _ _ _ (T5.setTop (mkF m 4 #[rv a_NEXT_KEY] [(.ref a_NEXT_KEY), (.ref a_NEXT_KEY)])) _
    refine Jvm.RoadKit.acmp (g := (mkF m 4 #[rv a_NEXT_KEY] [(.ref a_NEXT_KEY), (.ref a_NEXT_KEY)])) X5 hx rfl rfl rfl (pc0 := 4) (pc' := 14) (same := true) rfl (hb hby d2_4) rfl (decide_eq_true rfl) (by decide) (by decide) ?_
    show Steps _ _ _ (T5.setTop (mkF m 14 #[rv a_NEXT_KEY] [])) _
    refine XS.iconst X5.here hx rfl (hb hby d2_14) ?_
    show Steps _ _ _ (T5.setTop (mkF m 15 #[rv a_NEXT_KEY] [(.int 1)])) _
    refine XS.goto X5.here hx rfl (pc0 := 15) (pc' := 19) rfl (hb hby d2_15) (by decide) (by decide) ?_
    show Steps _ _ _ (T5.setTop (mkF m 19 #[rv a_NEXT_KEY] [(.int 1)])) _
    exact q
  obtain ⟨fs, hr, hrun, hended, hW, hsame⟩ := X5.leave (v := some (.int 1)) (fun h => by rw [Bd.returns] at h; cases h)
  refine ⟨_, _, k_6 _ ?_, hrun, hended, _, _, rfl, ?_, ⟨_, rfl⟩, hW, hsame.mono (by decide) (by decide)⟩
  · exact retN X5 hx (t := .boolean) Bd.returns (by simp) (hb hby d2_19) hr
  · show QV (some (.int 1)) h0 n0 _ T5.heap _
    rw [e5]
    exact ⟨rfl, N0, rfl⟩
set_option maxRecDepth 65536 in
set_option maxHeartbeats 40000000 in
theorem wf_0 (l : Launch) (Z : State) (a0 : Array Value) (hw : ∀ d ∈ tables_1, d.before a0 Z = true) (ws : List Jvm.Cond) (a_NEXT_KEY a_INSERT_INTENTION a_RECORD a_GAP : Addr) (G : Own Z a_NEXT_KEY a_INSERT_INTENTION a_RECORD a_GAP) (z1 : Int32) (h0 : Heap) (n0 : Nat) (O0 : Old Z n0 h0)  :
    MetFree l y_2 (head1 (Jvm.Cond.code y_2 prog_87_method_4_code 4 (some .boolean) :: ws) ({ frames := 0, cells := 0, slots := 0, locals := 0 } : Room)) (fun a U => a = #[(.ref a_INSERT_INTENTION), (.ref a_NEXT_KEY), (.int z1)] ∧ Z.Warmed39 U.vm ∧ U.heap = h0) (fun _ _ _ _ _ => True) (fun _ U o U' => ∃ v L, o = .returned v ∧ QV (some (.int 1)) h0 n0 v U'.heap L ∧ FrameEnd U o U' L ({ frames := 0, cells := 0, slots := 0, locals := 0 } : Room).cells ({ frames := 0, cells := 0, slots := 0, locals := 0 } : Room).slots) := by
  refine MetFree.of_bodySF (plainFor_of_name pn_1) hisR ?_
  intro p e s m args below meth c s₁ Bd hml0 hP hK
  obtain ⟨rfl, hZ, hh⟩ := hP
  have hx := Bd.exec
  have hby := Bd.bytes
  have hml : c.maxLocals = 4 := hml0
  have hown : s.vm.findClass "com/example/nkdb/nkdb/transaction/LockKind" = some m.cls := findClass_of_methodNamed Bd.named
  have hnm := (name_of_methodNamed Bd.named Bd.method).1
  have X0 : Stand p l e ({ frames := 0, cells := 0, slots := 0, locals := 0 } : Room) s m #[(.ref a_INSERT_INTENTION), (.ref a_NEXT_KEY), (.int z1)] below meth c s₁ [] 0 0 := Stand.of_body Bd
  have e0 : s₁.heap = h0 := by rw [← hh, Bd.state]; rfl
  have N0 := Fr.nil n0
  have K0 := Keep.refl h0 []
  have k0 : Go p.tables e below (s₁.setTop (entryFrame m #[(.ref a_INSERT_INTENTION), (.ref a_NEXT_KEY), (.int z1)] 4)) (s₁.setTop (mkF m 0 #[rv a_INSERT_INTENTION, rv a_NEXT_KEY, iv z1, .unset] [])) := fun t k => castTop (by first | rfl | (simp [entryFrame, mkF, argsToLocals, Value.category]; done)) k
  have ⟨S_NEXT_KEY, E_NEXT_KEY, S_INSERT_INTENTION, E_INSERT_INTENTION, S_RECORD, E_RECORD, S_GAP, E_GAP, R_RECORD_ordinal, R_NEXT_KEY_ordinal, R_GAP_ordinal, R_INSERT_INTENTION_ordinal⟩ := G
  have k_7 : Go p.tables e below (s₁.setTop (entryFrame m #[(.ref a_INSERT_INTENTION), (.ref a_NEXT_KEY), (.int z1)] 4)) (s₁.setTop (mkF m 1 #[rv a_INSERT_INTENTION, rv a_NEXT_KEY, iv z1, .unset] [(.ref a_INSERT_INTENTION)])) := fun t q => by
    refine k0 t ?_
    refine XS.aloadN X0.here hx rfl (hb hby d3_0) rfl rfl ?_
    show Steps _ _ _ (s₁.setTop (mkF m 1 #[rv a_INSERT_INTENTION, rv a_NEXT_KEY, iv z1, .unset] [(.ref a_INSERT_INTENTION)])) _
    exact q
  obtain ⟨T8, X8, e8, st8⟩ := getS2 X0 hx hZ hown (host := "") (Or.inl (hw _ (wd 20 rfl))) Via.refl e0 (S_INSERT_INTENTION.ext O0.2) (g := (mkF m 1 #[rv a_INSERT_INTENTION, rv a_NEXT_KEY, iv z1, .unset] [(.ref a_INSERT_INTENTION)])) rfl (hb hby d3_1)
  have k_9 : Go p.tables e below (s₁.setTop (entryFrame m #[(.ref a_INSERT_INTENTION), (.ref a_NEXT_KEY), (.int z1)] 4)) (T8.setTop (mkF m 8 #[rv a_INSERT_INTENTION, rv a_NEXT_KEY, iv z1, .unset] [(.ref a_NEXT_KEY)])) := fun t q => by
    refine k_7 t ?_
    refine st8 _ ?_
    show Steps _ _ _ (T8.setTop (mkF m 4 #[rv a_INSERT_INTENTION, rv a_NEXT_KEY, iv z1, .unset] [(.ref a_INSERT_INTENTION), (.ref a_INSERT_INTENTION)])) _
    refine Jvm.RoadKit.acmp (g := (mkF m 4 #[rv a_INSERT_INTENTION, rv a_NEXT_KEY, iv z1, .unset] [(.ref a_INSERT_INTENTION), (.ref a_INSERT_INTENTION)])) X8 hx rfl rfl rfl (pc0 := 4) (pc' := 7) (same := true) rfl (hb hby d3_4) rfl (decide_eq_true rfl) (by decide) (by decide) ?_
    show Steps _ _ _ (T8.setTop (mkF m 7 #[rv a_INSERT_INTENTION, rv a_NEXT_KEY, iv z1, .unset] [])) _
    refine XS.aloadN X8.here hx rfl (hb hby d3_7) rfl rfl ?_
    show Steps _ _ _ (T8.setTop (mkF m 8 #[rv a_INSERT_INTENTION, rv a_NEXT_KEY, iv z1, .unset] [(.ref a_NEXT_KEY)])) _
    exact q
  obtain ⟨T10, X10, e10, st10⟩ := getS2 X8 hx hZ hown (host := "") (Or.inl (hw _ (wd 12 rfl))) Via.refl e8 (S_NEXT_KEY.ext O0.2) (g := (mkF m 8 #[rv a_INSERT_INTENTION, rv a_NEXT_KEY, iv z1, .unset] [(.ref a_NEXT_KEY)])) rfl (hb hby d3_8)
  have k_11 : Go p.tables e below (s₁.setTop (entryFrame m #[(.ref a_INSERT_INTENTION), (.ref a_NEXT_KEY), (.int z1)] 4)) (T10.setTop (mkF m 55 #[rv a_INSERT_INTENTION, rv a_NEXT_KEY, iv z1, iv 1] [(.int 1)])) := fun t q => by
    refine k_9 t ?_
    refine st10 _ ?_
    show Steps _ _ _ (T10.setTop (mkF m 11 #[rv a_INSERT_INTENTION, rv a_NEXT_KEY, iv z1, .unset] [(.ref a_NEXT_KEY), (.ref a_NEXT_KEY)])) _
    refine Jvm.RoadKit.acmp (g := (mkF m 11 #[rv a_INSERT_INTENTION, rv a_NEXT_KEY, iv z1, .unset] [(.ref a_NEXT_KEY), (.ref a_NEXT_KEY)])) X10 hx rfl rfl rfl (pc0 := 11) (pc' := 21) (same := true) rfl (hb hby d3_11) rfl (decide_eq_true rfl) (by decide) (by decide) ?_
    show Steps _ _ _ (T10.setTop (mkF m 21 #[rv a_INSERT_INTENTION, rv a_NEXT_KEY, iv z1, .unset] [])) _
    refine XS.iconst X10.here hx rfl (hb hby d3_21) ?_
    show Steps _ _ _ (T10.setTop (mkF m 22 #[rv a_INSERT_INTENTION, rv a_NEXT_KEY, iv z1, .unset] [(.int 1)])) _
    refine XS.goto X10.here hx rfl (pc0 := 22) (pc' := 26) rfl (hb hby d3_22) (by decide) (by decide) ?_
    show Steps _ _ _ (T10.setTop (mkF m 26 #[rv a_INSERT_INTENTION, rv a_NEXT_KEY, iv z1, .unset] [(.int 1)])) _
    refine XS.istoreN X10.here hx rfl (hb hby d3_26) rfl (l' := #[rv a_INSERT_INTENTION, rv a_NEXT_KEY, iv z1, iv 1]) rfl ?_
    show Steps _ _ _ (T10.setTop (mkF m 27 #[rv a_INSERT_INTENTION, rv a_NEXT_KEY, iv z1, iv 1] [])) _
    refine XS.goto X10.here hx rfl (pc0 := 27) (pc' := 54) rfl (hb hby d3_27) (by decide) (by decide) ?_
    show Steps _ _ _ (T10.setTop (mkF m 54 #[rv a_INSERT_INTENTION, rv a_NEXT_KEY, iv z1, iv 1] [])) _
    refine XS.iloadN X10.here hx rfl (hb hby d3_54) rfl ?_
    show Steps _ _ _ (T10.setTop (mkF m 55 #[rv a_INSERT_INTENTION, rv a_NEXT_KEY, iv z1, iv 1] [(.int 1)])) _
    exact q
  obtain ⟨fs, hr, hrun, hended, hW, hsame⟩ := X10.leave (v := some (.int 1)) (fun h => by rw [Bd.returns] at h; cases h)
  refine ⟨_, _, k_11 _ ?_, hrun, hended, _, _, rfl, ?_, ⟨_, rfl⟩, hW, hsame.mono (by decide) (by decide)⟩
  · exact retN X10 hx (t := .boolean) Bd.returns (by simp) (hb hby d3_55) hr
  · show QV (some (.int 1)) h0 n0 _ T10.heap _
    rw [e10]
    exact ⟨rfl, N0, rfl⟩
set_option maxRecDepth 65536 in
set_option maxHeartbeats 40000000 in
theorem pk_1 (l : Launch) (Z : State) (a0 : Array Value) (hw : ∀ d ∈ tables_1, d.before a0 Z = true) (ws : List Jvm.Cond) (a_NEXT_KEY a_INSERT_INTENTION a_RECORD a_GAP : Addr) (G : Own Z a_NEXT_KEY a_INSERT_INTENTION a_RECORD a_GAP)  (h0 : Heap) (n0 : Nat) (O0 : Old Z n0 h0)  :
    MetFree l y_0 (head1 (Jvm.Cond.code y_0 method_2_code 1 (some (.object "com/example/nkdb/nkdb/transaction/LockKind")) :: ws) ({ frames := 0, cells := 0, slots := 0, locals := 0 } : Room)) (fun a U => a = #[(.int 1)] ∧ Z.Warmed39 U.vm ∧ U.heap = h0) (fun _ _ _ _ _ => True) (fun _ U o U' => ∃ v L, o = .returned v ∧ QV (some (.ref a_GAP)) h0 n0 v U'.heap L ∧ FrameEnd U o U' L ({ frames := 0, cells := 0, slots := 0, locals := 0 } : Room).cells ({ frames := 0, cells := 0, slots := 0, locals := 0 } : Room).slots) := by
  refine MetFree.of_bodySF (plainFor_of_name pn_0) hisR ?_
  intro p e s m args below meth c s₁ Bd hml0 hP hK
  obtain ⟨rfl, hZ, hh⟩ := hP
  have hx := Bd.exec
  have hby := Bd.bytes
  have hml : c.maxLocals = 1 := hml0
  have hown : s.vm.findClass "com/example/nkdb/nkdb/transaction/LockKindLocksGapPinLaw" = some m.cls := findClass_of_methodNamed Bd.named
  have hnm := (name_of_methodNamed Bd.named Bd.method).1
  have X0 : Stand p l e ({ frames := 0, cells := 0, slots := 0, locals := 0 } : Room) s m #[(.int 1)] below meth c s₁ [] 0 0 := Stand.of_body Bd
  have e0 : s₁.heap = h0 := by rw [← hh, Bd.state]; rfl
  have N0 := Fr.nil n0
  have K0 := Keep.refl h0 []
  have k0 : Go p.tables e below (s₁.setTop (entryFrame m #[(.int 1)] 1)) (s₁.setTop (mkF m 0 #[iv 1] [])) := fun t k => castTop (by first | rfl | (simp [entryFrame, mkF, argsToLocals, Value.category]; done)) k
  have ⟨S_NEXT_KEY, E_NEXT_KEY, S_INSERT_INTENTION, E_INSERT_INTENTION, S_RECORD, E_RECORD, S_GAP, E_GAP, R_RECORD_ordinal, R_NEXT_KEY_ordinal, R_GAP_ordinal, R_INSERT_INTENTION_ordinal⟩ := G
  have k_12 : Go p.tables e below (s₁.setTop (entryFrame m #[(.int 1)] 1)) (s₁.setTop (mkF m 13 #[iv 1] [])) := fun t q => by
    refine k0 t ?_
    refine XS.iloadN X0.here hx rfl (hb hby d1_0) rfl ?_
    show Steps _ _ _ (s₁.setTop (mkF m 1 #[iv 1] [(.int 1)])) _
    refine XS.ifYes X0.here hx rfl (pc0 := 1) (pc' := 8) rfl (hb hby d1_1) rfl (by decide) (by decide) (by decide) ?_
    show Steps _ _ _ (s₁.setTop (mkF m 8 #[iv 1] [])) _
    refine XS.iloadN X0.here hx rfl (hb hby d1_8) rfl ?_
    show Steps _ _ _ (s₁.setTop (mkF m 9 #[iv 1] [(.int 1)])) _
    refine XS.iconst X0.here hx rfl (hb hby d1_9) ?_
    show Steps _ _ _ (s₁.setTop (mkF m 10 #[iv 1] [(.int 1), (.int 1)])) _
    refine XS.icmpNo X0.here hx rfl (hb hby d1_10) rfl (by decide) ?_
    show Steps _ _ _ (s₁.setTop (mkF m 13 #[iv 1] [])) _
    exact q
  obtain ⟨T13, X13, e13, st13⟩ := getS2 X0 hx hZ hown (host := "") (Or.inl (hw _ (wd 25 rfl))) Via.refl e0 (S_GAP.ext O0.2) (g := (mkF m 13 #[iv 1] [])) rfl (hb hby d1_13)
  have k_14 : Go p.tables e below (s₁.setTop (entryFrame m #[(.int 1)] 1)) (T13.setTop (mkF m 16 #[iv 1] [(.ref a_GAP)])) := fun t q => by
    refine k_12 t ?_
    refine st13 _ ?_
    show Steps _ _ _ (T13.setTop (mkF m 16 #[iv 1] [(.ref a_GAP)])) _
    exact q
  obtain ⟨fs, hr, hrun, hended, hW, hsame⟩ := X13.leave (v := some (.ref a_GAP)) (fun h => by rw [Bd.returns] at h; cases h)
  refine ⟨_, _, k_14 _ ?_, hrun, hended, _, _, rfl, ?_, ⟨_, rfl⟩, hW, hsame.mono (by decide) (by decide)⟩
  · exact retOut X13 hx Bd.returns rfl (Or.inr (Or.inr (Or.inr (Or.inr ⟨rfl, rfl, rfl⟩)))) (hb hby d1_16) hr
  · show QV (some (.ref a_GAP)) h0 n0 _ T13.heap _
    rw [e13]
    exact ⟨rfl, N0, rfl⟩
set_option maxRecDepth 65536 in
set_option maxHeartbeats 40000000 in
theorem lg_1 (l : Launch) (Z : State) (a0 : Array Value) (hw : ∀ d ∈ tables_1, d.before a0 Z = true) (ws : List Jvm.Cond) (a_NEXT_KEY a_INSERT_INTENTION a_RECORD a_GAP : Addr) (G : Own Z a_NEXT_KEY a_INSERT_INTENTION a_RECORD a_GAP)  (h0 : Heap) (n0 : Nat) (O0 : Old Z n0 h0)  :
    MetFree l y_1 (head1 (Jvm.Cond.code y_1 prog_87_method_6_code 1 (some .boolean) :: ws) ({ frames := 0, cells := 0, slots := 0, locals := 0 } : Room)) (fun a U => a = #[(.ref a_GAP)] ∧ Z.Warmed39 U.vm ∧ U.heap = h0) (fun _ _ _ _ _ => True) (fun _ U o U' => ∃ v L, o = .returned v ∧ QV (some (.int 1)) h0 n0 v U'.heap L ∧ FrameEnd U o U' L ({ frames := 0, cells := 0, slots := 0, locals := 0 } : Room).cells ({ frames := 0, cells := 0, slots := 0, locals := 0 } : Room).slots) := by
  refine MetFree.of_bodySF (plainFor_of_name pn_1) hisR ?_
  intro p e s m args below meth c s₁ Bd hml0 hP hK
  obtain ⟨rfl, hZ, hh⟩ := hP
  have hx := Bd.exec
  have hby := Bd.bytes
  have hml : c.maxLocals = 1 := hml0
  have hown : s.vm.findClass "com/example/nkdb/nkdb/transaction/LockKind" = some m.cls := findClass_of_methodNamed Bd.named
  have hnm := (name_of_methodNamed Bd.named Bd.method).1
  have X0 : Stand p l e ({ frames := 0, cells := 0, slots := 0, locals := 0 } : Room) s m #[(.ref a_GAP)] below meth c s₁ [] 0 0 := Stand.of_body Bd
  have e0 : s₁.heap = h0 := by rw [← hh, Bd.state]; rfl
  have N0 := Fr.nil n0
  have K0 := Keep.refl h0 []
  have k0 : Go p.tables e below (s₁.setTop (entryFrame m #[(.ref a_GAP)] 1)) (s₁.setTop (mkF m 0 #[rv a_GAP] [])) := fun t k => castTop (by first | rfl | (simp [entryFrame, mkF, argsToLocals, Value.category]; done)) k
  have ⟨S_NEXT_KEY, E_NEXT_KEY, S_INSERT_INTENTION, E_INSERT_INTENTION, S_RECORD, E_RECORD, S_GAP, E_GAP, R_RECORD_ordinal, R_NEXT_KEY_ordinal, R_GAP_ordinal, R_INSERT_INTENTION_ordinal⟩ := G
  have k_15 : Go p.tables e below (s₁.setTop (entryFrame m #[(.ref a_GAP)] 1)) (s₁.setTop (mkF m 1 #[rv a_GAP] [(.ref a_GAP)])) := fun t q => by
    refine k0 t ?_
    refine XS.aloadN X0.here hx rfl (hb hby d2_0) rfl rfl ?_
    show Steps _ _ _ (s₁.setTop (mkF m 1 #[rv a_GAP] [(.ref a_GAP)])) _
    exact q
  obtain ⟨T16, X16, e16, st16⟩ := getS2 X0 hx hZ hown (host := "") (Or.inl (hw _ (wd 12 rfl))) Via.refl e0 (S_NEXT_KEY.ext O0.2) (g := (mkF m 1 #[rv a_GAP] [(.ref a_GAP)])) rfl (hb hby d2_1)
  have k_17 : Go p.tables e below (s₁.setTop (entryFrame m #[(.ref a_GAP)] 1)) (T16.setTop (mkF m 8 #[rv a_GAP] [(.ref a_GAP)])) := fun t q => by
    refine k_15 t ?_
    refine st16 _ ?_
    show Steps _ _ _ (T16.setTop (mkF m 4 #[rv a_GAP] [(.ref a_NEXT_KEY), (.ref a_GAP)])) _
    refine Jvm.RoadKit.acmp (g := (mkF m 4 #[rv a_GAP] [(.ref a_NEXT_KEY), (.ref a_GAP)])) X16 hx rfl rfl rfl (pc0 := 4) (pc' := 7) (same := false) rfl (hb hby d2_4) rfl (decide_eq_false fun q => (own_ne R_GAP_ordinal R_NEXT_KEY_ordinal (by decide)) (Value.ref.inj q)) (by decide) (by decide) ?_
    show Steps _ _ _ (T16.setTop (mkF m 7 #[rv a_GAP] [])) _
    refine XS.aloadN X16.here hx rfl (hb hby d2_7) rfl rfl ?_
    show Steps _ _ _ (T16.setTop (mkF m 8 #[rv a_GAP] [(.ref a_GAP)])) _
    exact q
  obtain ⟨T18, X18, e18, st18⟩ := getS2 X16 hx hZ hown (host := "") (Or.inl (hw _ (wd 23 rfl))) Via.refl e16 (S_GAP.ext O0.2) (g := (mkF m 8 #[rv a_GAP] [(.ref a_GAP)])) rfl (hb hby d2_8)
  have k_19 : Go p.tables e below (s₁.setTop (entryFrame m #[(.ref a_GAP)] 1)) (T18.setTop (mkF m 19 #[rv a_GAP] [(.int 1)])) := fun t q => by
    refine k_17 t ?_
    refine st18 _ ?_
    show Steps _ _ _ (T18.setTop (mkF m 11 #[rv a_GAP] [(.ref a_GAP), (.ref a_GAP)])) _
    refine Jvm.RoadKit.acmp (g := (mkF m 11 #[rv a_GAP] [(.ref a_GAP), (.ref a_GAP)])) X18 hx rfl rfl rfl (pc0 := 11) (pc' := 14) (same := true) rfl (hb hby d2_11) rfl (decide_eq_true rfl) (by decide) (by decide) ?_
    show Steps _ _ _ (T18.setTop (mkF m 14 #[rv a_GAP] [])) _
    refine XS.iconst X18.here hx rfl (hb hby d2_14) ?_
    show Steps _ _ _ (T18.setTop (mkF m 15 #[rv a_GAP] [(.int 1)])) _
    refine XS.goto X18.here hx rfl (pc0 := 15) (pc' := 19) rfl (hb hby d2_15) (by decide) (by decide) ?_
    show Steps _ _ _ (T18.setTop (mkF m 19 #[rv a_GAP] [(.int 1)])) _
    exact q
  obtain ⟨fs, hr, hrun, hended, hW, hsame⟩ := X18.leave (v := some (.int 1)) (fun h => by rw [Bd.returns] at h; cases h)
  refine ⟨_, _, k_19 _ ?_, hrun, hended, _, _, rfl, ?_, ⟨_, rfl⟩, hW, hsame.mono (by decide) (by decide)⟩
  · exact retN X18 hx (t := .boolean) Bd.returns (by simp) (hb hby d2_19) hr
  · show QV (some (.int 1)) h0 n0 _ T18.heap _
    rw [e18]
    exact ⟨rfl, N0, rfl⟩
set_option maxRecDepth 65536 in
set_option maxHeartbeats 40000000 in
theorem wf_1 (l : Launch) (Z : State) (a0 : Array Value) (hw : ∀ d ∈ tables_1, d.before a0 Z = true) (ws : List Jvm.Cond) (a_NEXT_KEY a_INSERT_INTENTION a_RECORD a_GAP : Addr) (G : Own Z a_NEXT_KEY a_INSERT_INTENTION a_RECORD a_GAP) (z1 : Int32) (h0 : Heap) (n0 : Nat) (O0 : Old Z n0 h0)  :
    MetFree l y_2 (head1 (Jvm.Cond.code y_2 prog_87_method_4_code 4 (some .boolean) :: ws) ({ frames := 0, cells := 0, slots := 0, locals := 0 } : Room)) (fun a U => a = #[(.ref a_INSERT_INTENTION), (.ref a_GAP), (.int z1)] ∧ Z.Warmed39 U.vm ∧ U.heap = h0) (fun _ _ _ _ _ => True) (fun _ U o U' => ∃ v L, o = .returned v ∧ QV (some (.int 1)) h0 n0 v U'.heap L ∧ FrameEnd U o U' L ({ frames := 0, cells := 0, slots := 0, locals := 0 } : Room).cells ({ frames := 0, cells := 0, slots := 0, locals := 0 } : Room).slots) := by
  refine MetFree.of_bodySF (plainFor_of_name pn_1) hisR ?_
  intro p e s m args below meth c s₁ Bd hml0 hP hK
  obtain ⟨rfl, hZ, hh⟩ := hP
  have hx := Bd.exec
  have hby := Bd.bytes
  have hml : c.maxLocals = 4 := hml0
  have hown : s.vm.findClass "com/example/nkdb/nkdb/transaction/LockKind" = some m.cls := findClass_of_methodNamed Bd.named
  have hnm := (name_of_methodNamed Bd.named Bd.method).1
  have X0 : Stand p l e ({ frames := 0, cells := 0, slots := 0, locals := 0 } : Room) s m #[(.ref a_INSERT_INTENTION), (.ref a_GAP), (.int z1)] below meth c s₁ [] 0 0 := Stand.of_body Bd
  have e0 : s₁.heap = h0 := by rw [← hh, Bd.state]; rfl
  have N0 := Fr.nil n0
  have K0 := Keep.refl h0 []
  have k0 : Go p.tables e below (s₁.setTop (entryFrame m #[(.ref a_INSERT_INTENTION), (.ref a_GAP), (.int z1)] 4)) (s₁.setTop (mkF m 0 #[rv a_INSERT_INTENTION, rv a_GAP, iv z1, .unset] [])) := fun t k => castTop (by first | rfl | (simp [entryFrame, mkF, argsToLocals, Value.category]; done)) k
  have ⟨S_NEXT_KEY, E_NEXT_KEY, S_INSERT_INTENTION, E_INSERT_INTENTION, S_RECORD, E_RECORD, S_GAP, E_GAP, R_RECORD_ordinal, R_NEXT_KEY_ordinal, R_GAP_ordinal, R_INSERT_INTENTION_ordinal⟩ := G
  have k_20 : Go p.tables e below (s₁.setTop (entryFrame m #[(.ref a_INSERT_INTENTION), (.ref a_GAP), (.int z1)] 4)) (s₁.setTop (mkF m 1 #[rv a_INSERT_INTENTION, rv a_GAP, iv z1, .unset] [(.ref a_INSERT_INTENTION)])) := fun t q => by
    refine k0 t ?_
    refine XS.aloadN X0.here hx rfl (hb hby d3_0) rfl rfl ?_
    show Steps _ _ _ (s₁.setTop (mkF m 1 #[rv a_INSERT_INTENTION, rv a_GAP, iv z1, .unset] [(.ref a_INSERT_INTENTION)])) _
    exact q
  obtain ⟨T21, X21, e21, st21⟩ := getS2 X0 hx hZ hown (host := "") (Or.inl (hw _ (wd 20 rfl))) Via.refl e0 (S_INSERT_INTENTION.ext O0.2) (g := (mkF m 1 #[rv a_INSERT_INTENTION, rv a_GAP, iv z1, .unset] [(.ref a_INSERT_INTENTION)])) rfl (hb hby d3_1)
  have k_22 : Go p.tables e below (s₁.setTop (entryFrame m #[(.ref a_INSERT_INTENTION), (.ref a_GAP), (.int z1)] 4)) (T21.setTop (mkF m 8 #[rv a_INSERT_INTENTION, rv a_GAP, iv z1, .unset] [(.ref a_GAP)])) := fun t q => by
    refine k_20 t ?_
    refine st21 _ ?_
    show Steps _ _ _ (T21.setTop (mkF m 4 #[rv a_INSERT_INTENTION, rv a_GAP, iv z1, .unset] [(.ref a_INSERT_INTENTION), (.ref a_INSERT_INTENTION)])) _
    refine Jvm.RoadKit.acmp (g := (mkF m 4 #[rv a_INSERT_INTENTION, rv a_GAP, iv z1, .unset] [(.ref a_INSERT_INTENTION), (.ref a_INSERT_INTENTION)])) X21 hx rfl rfl rfl (pc0 := 4) (pc' := 7) (same := true) rfl (hb hby d3_4) rfl (decide_eq_true rfl) (by decide) (by decide) ?_
    show Steps _ _ _ (T21.setTop (mkF m 7 #[rv a_INSERT_INTENTION, rv a_GAP, iv z1, .unset] [])) _
    refine XS.aloadN X21.here hx rfl (hb hby d3_7) rfl rfl ?_
    show Steps _ _ _ (T21.setTop (mkF m 8 #[rv a_INSERT_INTENTION, rv a_GAP, iv z1, .unset] [(.ref a_GAP)])) _
    exact q
  obtain ⟨T23, X23, e23, st23⟩ := getS2 X21 hx hZ hown (host := "") (Or.inl (hw _ (wd 12 rfl))) Via.refl e21 (S_NEXT_KEY.ext O0.2) (g := (mkF m 8 #[rv a_INSERT_INTENTION, rv a_GAP, iv z1, .unset] [(.ref a_GAP)])) rfl (hb hby d3_8)
  have k_24 : Go p.tables e below (s₁.setTop (entryFrame m #[(.ref a_INSERT_INTENTION), (.ref a_GAP), (.int z1)] 4)) (T23.setTop (mkF m 15 #[rv a_INSERT_INTENTION, rv a_GAP, iv z1, .unset] [(.ref a_GAP)])) := fun t q => by
    refine k_22 t ?_
    refine st23 _ ?_
    show Steps _ _ _ (T23.setTop (mkF m 11 #[rv a_INSERT_INTENTION, rv a_GAP, iv z1, .unset] [(.ref a_NEXT_KEY), (.ref a_GAP)])) _
    refine Jvm.RoadKit.acmp (g := (mkF m 11 #[rv a_INSERT_INTENTION, rv a_GAP, iv z1, .unset] [(.ref a_NEXT_KEY), (.ref a_GAP)])) X23 hx rfl rfl rfl (pc0 := 11) (pc' := 14) (same := false) rfl (hb hby d3_11) rfl (decide_eq_false fun q => (own_ne R_GAP_ordinal R_NEXT_KEY_ordinal (by decide)) (Value.ref.inj q)) (by decide) (by decide) ?_
    show Steps _ _ _ (T23.setTop (mkF m 14 #[rv a_INSERT_INTENTION, rv a_GAP, iv z1, .unset] [])) _
    refine XS.aloadN X23.here hx rfl (hb hby d3_14) rfl rfl ?_
    show Steps _ _ _ (T23.setTop (mkF m 15 #[rv a_INSERT_INTENTION, rv a_GAP, iv z1, .unset] [(.ref a_GAP)])) _
    exact q
  obtain ⟨T25, X25, e25, st25⟩ := getS2 X23 hx hZ hown (host := "") (Or.inl (hw _ (wd 23 rfl))) Via.refl e23 (S_GAP.ext O0.2) (g := (mkF m 15 #[rv a_INSERT_INTENTION, rv a_GAP, iv z1, .unset] [(.ref a_GAP)])) rfl (hb hby d3_15)
  have k_26 : Go p.tables e below (s₁.setTop (entryFrame m #[(.ref a_INSERT_INTENTION), (.ref a_GAP), (.int z1)] 4)) (T25.setTop (mkF m 55 #[rv a_INSERT_INTENTION, rv a_GAP, iv z1, iv 1] [(.int 1)])) := fun t q => by
    refine k_24 t ?_
    refine st25 _ ?_
    show Steps _ _ _ (T25.setTop (mkF m 18 #[rv a_INSERT_INTENTION, rv a_GAP, iv z1, .unset] [(.ref a_GAP), (.ref a_GAP)])) _
    refine Jvm.RoadKit.acmp (g := (mkF m 18 #[rv a_INSERT_INTENTION, rv a_GAP, iv z1, .unset] [(.ref a_GAP), (.ref a_GAP)])) X25 hx rfl rfl rfl (pc0 := 18) (pc' := 21) (same := true) rfl (hb hby d3_18) rfl (decide_eq_true rfl) (by decide) (by decide) ?_
    show Steps _ _ _ (T25.setTop (mkF m 21 #[rv a_INSERT_INTENTION, rv a_GAP, iv z1, .unset] [])) _
    refine XS.iconst X25.here hx rfl (hb hby d3_21) ?_
    show Steps _ _ _ (T25.setTop (mkF m 22 #[rv a_INSERT_INTENTION, rv a_GAP, iv z1, .unset] [(.int 1)])) _
    refine XS.goto X25.here hx rfl (pc0 := 22) (pc' := 26) rfl (hb hby d3_22) (by decide) (by decide) ?_
    show Steps _ _ _ (T25.setTop (mkF m 26 #[rv a_INSERT_INTENTION, rv a_GAP, iv z1, .unset] [(.int 1)])) _
    refine XS.istoreN X25.here hx rfl (hb hby d3_26) rfl (l' := #[rv a_INSERT_INTENTION, rv a_GAP, iv z1, iv 1]) rfl ?_
    show Steps _ _ _ (T25.setTop (mkF m 27 #[rv a_INSERT_INTENTION, rv a_GAP, iv z1, iv 1] [])) _
    refine XS.goto X25.here hx rfl (pc0 := 27) (pc' := 54) rfl (hb hby d3_27) (by decide) (by decide) ?_
    show Steps _ _ _ (T25.setTop (mkF m 54 #[rv a_INSERT_INTENTION, rv a_GAP, iv z1, iv 1] [])) _
    refine XS.iloadN X25.here hx rfl (hb hby d3_54) rfl ?_
    show Steps _ _ _ (T25.setTop (mkF m 55 #[rv a_INSERT_INTENTION, rv a_GAP, iv z1, iv 1] [(.int 1)])) _
    exact q
  obtain ⟨fs, hr, hrun, hended, hW, hsame⟩ := X25.leave (v := some (.int 1)) (fun h => by rw [Bd.returns] at h; cases h)
  refine ⟨_, _, k_26 _ ?_, hrun, hended, _, _, rfl, ?_, ⟨_, rfl⟩, hW, hsame.mono (by decide) (by decide)⟩
  · exact retN X25 hx (t := .boolean) Bd.returns (by simp) (hb hby d3_55) hr
  · show QV (some (.int 1)) h0 n0 _ T25.heap _
    rw [e25]
    exact ⟨rfl, N0, rfl⟩
set_option maxRecDepth 65536 in
set_option maxHeartbeats 40000000 in
theorem pk_2 (l : Launch) (Z : State) (a0 : Array Value) (hw : ∀ d ∈ tables_1, d.before a0 Z = true) (ws : List Jvm.Cond) (a_NEXT_KEY a_INSERT_INTENTION a_RECORD a_GAP : Addr) (G : Own Z a_NEXT_KEY a_INSERT_INTENTION a_RECORD a_GAP)  (h0 : Heap) (n0 : Nat) (O0 : Old Z n0 h0)  :
    MetFree l y_0 (head1 (Jvm.Cond.code y_0 method_2_code 1 (some (.object "com/example/nkdb/nkdb/transaction/LockKind")) :: ws) ({ frames := 0, cells := 0, slots := 0, locals := 0 } : Room)) (fun a U => a = #[(.int 2)] ∧ Z.Warmed39 U.vm ∧ U.heap = h0) (fun _ _ _ _ _ => True) (fun _ U o U' => ∃ v L, o = .returned v ∧ QV (some (.ref a_RECORD)) h0 n0 v U'.heap L ∧ FrameEnd U o U' L ({ frames := 0, cells := 0, slots := 0, locals := 0 } : Room).cells ({ frames := 0, cells := 0, slots := 0, locals := 0 } : Room).slots) := by
  refine MetFree.of_bodySF (plainFor_of_name pn_0) hisR ?_
  intro p e s m args below meth c s₁ Bd hml0 hP hK
  obtain ⟨rfl, hZ, hh⟩ := hP
  have hx := Bd.exec
  have hby := Bd.bytes
  have hml : c.maxLocals = 1 := hml0
  have hown : s.vm.findClass "com/example/nkdb/nkdb/transaction/LockKindLocksGapPinLaw" = some m.cls := findClass_of_methodNamed Bd.named
  have hnm := (name_of_methodNamed Bd.named Bd.method).1
  have X0 : Stand p l e ({ frames := 0, cells := 0, slots := 0, locals := 0 } : Room) s m #[(.int 2)] below meth c s₁ [] 0 0 := Stand.of_body Bd
  have e0 : s₁.heap = h0 := by rw [← hh, Bd.state]; rfl
  have N0 := Fr.nil n0
  have K0 := Keep.refl h0 []
  have k0 : Go p.tables e below (s₁.setTop (entryFrame m #[(.int 2)] 1)) (s₁.setTop (mkF m 0 #[iv 2] [])) := fun t k => castTop (by first | rfl | (simp [entryFrame, mkF, argsToLocals, Value.category]; done)) k
  have ⟨S_NEXT_KEY, E_NEXT_KEY, S_INSERT_INTENTION, E_INSERT_INTENTION, S_RECORD, E_RECORD, S_GAP, E_GAP, R_RECORD_ordinal, R_NEXT_KEY_ordinal, R_GAP_ordinal, R_INSERT_INTENTION_ordinal⟩ := G
  have k_27 : Go p.tables e below (s₁.setTop (entryFrame m #[(.int 2)] 1)) (s₁.setTop (mkF m 22 #[iv 2] [])) := fun t q => by
    refine k0 t ?_
    refine XS.iloadN X0.here hx rfl (hb hby d1_0) rfl ?_
    show Steps _ _ _ (s₁.setTop (mkF m 1 #[iv 2] [(.int 2)])) _
    refine XS.ifYes X0.here hx rfl (pc0 := 1) (pc' := 8) rfl (hb hby d1_1) rfl (by decide) (by decide) (by decide) ?_
    show Steps _ _ _ (s₁.setTop (mkF m 8 #[iv 2] [])) _
    refine XS.iloadN X0.here hx rfl (hb hby d1_8) rfl ?_
    show Steps _ _ _ (s₁.setTop (mkF m 9 #[iv 2] [(.int 2)])) _
    refine XS.iconst X0.here hx rfl (hb hby d1_9) ?_
    show Steps _ _ _ (s₁.setTop (mkF m 10 #[iv 2] [(.int 1), (.int 2)])) _
    refine XS.icmpYes X0.here hx rfl (pc0 := 10) (pc' := 17) rfl (hb hby d1_10) rfl (by decide) (by decide) (by decide) ?_
    show Steps _ _ _ (s₁.setTop (mkF m 17 #[iv 2] [])) _
    refine XS.iloadN X0.here hx rfl (hb hby d1_17) rfl ?_
    show Steps _ _ _ (s₁.setTop (mkF m 18 #[iv 2] [(.int 2)])) _
    refine XS.iconst X0.here hx rfl (hb hby d1_18) ?_
    show Steps _ _ _ (s₁.setTop (mkF m 19 #[iv 2] [(.int 2), (.int 2)])) _
    refine XS.icmpNo X0.here hx rfl (hb hby d1_19) rfl (by decide) ?_
    show Steps _ _ _ (s₁.setTop (mkF m 22 #[iv 2] [])) _
    exact q
  obtain ⟨T28, X28, e28, st28⟩ := getS2 X0 hx hZ hown (host := "") (Or.inl (hw _ (wd 21 rfl))) Via.refl e0 (S_RECORD.ext O0.2) (g := (mkF m 22 #[iv 2] [])) rfl (hb hby d1_22)
  have k_29 : Go p.tables e below (s₁.setTop (entryFrame m #[(.int 2)] 1)) (T28.setTop (mkF m 25 #[iv 2] [(.ref a_RECORD)])) := fun t q => by
    refine k_27 t ?_
    refine st28 _ ?_
    show Steps _ _ _ (T28.setTop (mkF m 25 #[iv 2] [(.ref a_RECORD)])) _
    exact q
  obtain ⟨fs, hr, hrun, hended, hW, hsame⟩ := X28.leave (v := some (.ref a_RECORD)) (fun h => by rw [Bd.returns] at h; cases h)
  refine ⟨_, _, k_29 _ ?_, hrun, hended, _, _, rfl, ?_, ⟨_, rfl⟩, hW, hsame.mono (by decide) (by decide)⟩
  · exact retOut X28 hx Bd.returns rfl (Or.inr (Or.inr (Or.inr (Or.inr ⟨rfl, rfl, rfl⟩)))) (hb hby d1_25) hr
  · show QV (some (.ref a_RECORD)) h0 n0 _ T28.heap _
    rw [e28]
    exact ⟨rfl, N0, rfl⟩
set_option maxRecDepth 65536 in
set_option maxHeartbeats 40000000 in
theorem lg_2 (l : Launch) (Z : State) (a0 : Array Value) (hw : ∀ d ∈ tables_1, d.before a0 Z = true) (ws : List Jvm.Cond) (a_NEXT_KEY a_INSERT_INTENTION a_RECORD a_GAP : Addr) (G : Own Z a_NEXT_KEY a_INSERT_INTENTION a_RECORD a_GAP)  (h0 : Heap) (n0 : Nat) (O0 : Old Z n0 h0)  :
    MetFree l y_1 (head1 (Jvm.Cond.code y_1 prog_87_method_6_code 1 (some .boolean) :: ws) ({ frames := 0, cells := 0, slots := 0, locals := 0 } : Room)) (fun a U => a = #[(.ref a_RECORD)] ∧ Z.Warmed39 U.vm ∧ U.heap = h0) (fun _ _ _ _ _ => True) (fun _ U o U' => ∃ v L, o = .returned v ∧ QV (some (.int 0)) h0 n0 v U'.heap L ∧ FrameEnd U o U' L ({ frames := 0, cells := 0, slots := 0, locals := 0 } : Room).cells ({ frames := 0, cells := 0, slots := 0, locals := 0 } : Room).slots) := by
  refine MetFree.of_bodySF (plainFor_of_name pn_1) hisR ?_
  intro p e s m args below meth c s₁ Bd hml0 hP hK
  obtain ⟨rfl, hZ, hh⟩ := hP
  have hx := Bd.exec
  have hby := Bd.bytes
  have hml : c.maxLocals = 1 := hml0
  have hown : s.vm.findClass "com/example/nkdb/nkdb/transaction/LockKind" = some m.cls := findClass_of_methodNamed Bd.named
  have hnm := (name_of_methodNamed Bd.named Bd.method).1
  have X0 : Stand p l e ({ frames := 0, cells := 0, slots := 0, locals := 0 } : Room) s m #[(.ref a_RECORD)] below meth c s₁ [] 0 0 := Stand.of_body Bd
  have e0 : s₁.heap = h0 := by rw [← hh, Bd.state]; rfl
  have N0 := Fr.nil n0
  have K0 := Keep.refl h0 []
  have k0 : Go p.tables e below (s₁.setTop (entryFrame m #[(.ref a_RECORD)] 1)) (s₁.setTop (mkF m 0 #[rv a_RECORD] [])) := fun t k => castTop (by first | rfl | (simp [entryFrame, mkF, argsToLocals, Value.category]; done)) k
  have ⟨S_NEXT_KEY, E_NEXT_KEY, S_INSERT_INTENTION, E_INSERT_INTENTION, S_RECORD, E_RECORD, S_GAP, E_GAP, R_RECORD_ordinal, R_NEXT_KEY_ordinal, R_GAP_ordinal, R_INSERT_INTENTION_ordinal⟩ := G
  have k_30 : Go p.tables e below (s₁.setTop (entryFrame m #[(.ref a_RECORD)] 1)) (s₁.setTop (mkF m 1 #[rv a_RECORD] [(.ref a_RECORD)])) := fun t q => by
    refine k0 t ?_
    refine XS.aloadN X0.here hx rfl (hb hby d2_0) rfl rfl ?_
    show Steps _ _ _ (s₁.setTop (mkF m 1 #[rv a_RECORD] [(.ref a_RECORD)])) _
    exact q
  obtain ⟨T31, X31, e31, st31⟩ := getS2 X0 hx hZ hown (host := "") (Or.inl (hw _ (wd 12 rfl))) Via.refl e0 (S_NEXT_KEY.ext O0.2) (g := (mkF m 1 #[rv a_RECORD] [(.ref a_RECORD)])) rfl (hb hby d2_1)
  have k_32 : Go p.tables e below (s₁.setTop (entryFrame m #[(.ref a_RECORD)] 1)) (T31.setTop (mkF m 8 #[rv a_RECORD] [(.ref a_RECORD)])) := fun t q => by
    refine k_30 t ?_
    refine st31 _ ?_
    show Steps _ _ _ (T31.setTop (mkF m 4 #[rv a_RECORD] [(.ref a_NEXT_KEY), (.ref a_RECORD)])) _
    refine Jvm.RoadKit.acmp (g := (mkF m 4 #[rv a_RECORD] [(.ref a_NEXT_KEY), (.ref a_RECORD)])) X31 hx rfl rfl rfl (pc0 := 4) (pc' := 7) (same := false) rfl (hb hby d2_4) rfl (decide_eq_false fun q => (own_ne R_RECORD_ordinal R_NEXT_KEY_ordinal (by decide)) (Value.ref.inj q)) (by decide) (by decide) ?_
    show Steps _ _ _ (T31.setTop (mkF m 7 #[rv a_RECORD] [])) _
    refine XS.aloadN X31.here hx rfl (hb hby d2_7) rfl rfl ?_
    show Steps _ _ _ (T31.setTop (mkF m 8 #[rv a_RECORD] [(.ref a_RECORD)])) _
    exact q
  obtain ⟨T33, X33, e33, st33⟩ := getS2 X31 hx hZ hown (host := "") (Or.inl (hw _ (wd 23 rfl))) Via.refl e31 (S_GAP.ext O0.2) (g := (mkF m 8 #[rv a_RECORD] [(.ref a_RECORD)])) rfl (hb hby d2_8)
  have k_34 : Go p.tables e below (s₁.setTop (entryFrame m #[(.ref a_RECORD)] 1)) (T33.setTop (mkF m 19 #[rv a_RECORD] [(.int 0)])) := fun t q => by
    refine k_32 t ?_
    refine st33 _ ?_
    show Steps _ _ _ (T33.setTop (mkF m 11 #[rv a_RECORD] [(.ref a_GAP), (.ref a_RECORD)])) _
    refine Jvm.RoadKit.acmp (g := (mkF m 11 #[rv a_RECORD] [(.ref a_GAP), (.ref a_RECORD)])) X33 hx rfl rfl rfl (pc0 := 11) (pc' := 18) (same := false) rfl (hb hby d2_11) rfl (decide_eq_false fun q => (own_ne R_RECORD_ordinal R_GAP_ordinal (by decide)) (Value.ref.inj q)) (by decide) (by decide) ?_
    show Steps _ _ _ (T33.setTop (mkF m 18 #[rv a_RECORD] [])) _
    refine XS.iconst X33.here hx rfl (hb hby d2_18) ?_
    show Steps _ _ _ (T33.setTop (mkF m 19 #[rv a_RECORD] [(.int 0)])) _
    exact q
  obtain ⟨fs, hr, hrun, hended, hW, hsame⟩ := X33.leave (v := some (.int 0)) (fun h => by rw [Bd.returns] at h; cases h)
  refine ⟨_, _, k_34 _ ?_, hrun, hended, _, _, rfl, ?_, ⟨_, rfl⟩, hW, hsame.mono (by decide) (by decide)⟩
  · exact retN X33 hx (t := .boolean) Bd.returns (by simp) (hb hby d2_19) hr
  · show QV (some (.int 0)) h0 n0 _ T33.heap _
    rw [e33]
    exact ⟨rfl, N0, rfl⟩
set_option maxRecDepth 65536 in
set_option maxHeartbeats 40000000 in
theorem wf_2 (l : Launch) (Z : State) (a0 : Array Value) (hw : ∀ d ∈ tables_1, d.before a0 Z = true) (ws : List Jvm.Cond) (a_NEXT_KEY a_INSERT_INTENTION a_RECORD a_GAP : Addr) (G : Own Z a_NEXT_KEY a_INSERT_INTENTION a_RECORD a_GAP) (z1 : Int32) (h0 : Heap) (n0 : Nat) (O0 : Old Z n0 h0)  :
    MetFree l y_2 (head1 (Jvm.Cond.code y_2 prog_87_method_4_code 4 (some .boolean) :: ws) ({ frames := 0, cells := 0, slots := 0, locals := 0 } : Room)) (fun a U => a = #[(.ref a_INSERT_INTENTION), (.ref a_RECORD), (.int z1)] ∧ Z.Warmed39 U.vm ∧ U.heap = h0) (fun _ _ _ _ _ => True) (fun _ U o U' => ∃ v L, o = .returned v ∧ QV (some (.int 0)) h0 n0 v U'.heap L ∧ FrameEnd U o U' L ({ frames := 0, cells := 0, slots := 0, locals := 0 } : Room).cells ({ frames := 0, cells := 0, slots := 0, locals := 0 } : Room).slots) := by
  refine MetFree.of_bodySF (plainFor_of_name pn_1) hisR ?_
  intro p e s m args below meth c s₁ Bd hml0 hP hK
  obtain ⟨rfl, hZ, hh⟩ := hP
  have hx := Bd.exec
  have hby := Bd.bytes
  have hml : c.maxLocals = 4 := hml0
  have hown : s.vm.findClass "com/example/nkdb/nkdb/transaction/LockKind" = some m.cls := findClass_of_methodNamed Bd.named
  have hnm := (name_of_methodNamed Bd.named Bd.method).1
  have X0 : Stand p l e ({ frames := 0, cells := 0, slots := 0, locals := 0 } : Room) s m #[(.ref a_INSERT_INTENTION), (.ref a_RECORD), (.int z1)] below meth c s₁ [] 0 0 := Stand.of_body Bd
  have e0 : s₁.heap = h0 := by rw [← hh, Bd.state]; rfl
  have N0 := Fr.nil n0
  have K0 := Keep.refl h0 []
  have k0 : Go p.tables e below (s₁.setTop (entryFrame m #[(.ref a_INSERT_INTENTION), (.ref a_RECORD), (.int z1)] 4)) (s₁.setTop (mkF m 0 #[rv a_INSERT_INTENTION, rv a_RECORD, iv z1, .unset] [])) := fun t k => castTop (by first | rfl | (simp [entryFrame, mkF, argsToLocals, Value.category]; done)) k
  have ⟨S_NEXT_KEY, E_NEXT_KEY, S_INSERT_INTENTION, E_INSERT_INTENTION, S_RECORD, E_RECORD, S_GAP, E_GAP, R_RECORD_ordinal, R_NEXT_KEY_ordinal, R_GAP_ordinal, R_INSERT_INTENTION_ordinal⟩ := G
  have k_35 : Go p.tables e below (s₁.setTop (entryFrame m #[(.ref a_INSERT_INTENTION), (.ref a_RECORD), (.int z1)] 4)) (s₁.setTop (mkF m 1 #[rv a_INSERT_INTENTION, rv a_RECORD, iv z1, .unset] [(.ref a_INSERT_INTENTION)])) := fun t q => by
    refine k0 t ?_
    refine XS.aloadN X0.here hx rfl (hb hby d3_0) rfl rfl ?_
    show Steps _ _ _ (s₁.setTop (mkF m 1 #[rv a_INSERT_INTENTION, rv a_RECORD, iv z1, .unset] [(.ref a_INSERT_INTENTION)])) _
    exact q
  obtain ⟨T36, X36, e36, st36⟩ := getS2 X0 hx hZ hown (host := "") (Or.inl (hw _ (wd 20 rfl))) Via.refl e0 (S_INSERT_INTENTION.ext O0.2) (g := (mkF m 1 #[rv a_INSERT_INTENTION, rv a_RECORD, iv z1, .unset] [(.ref a_INSERT_INTENTION)])) rfl (hb hby d3_1)
  have k_37 : Go p.tables e below (s₁.setTop (entryFrame m #[(.ref a_INSERT_INTENTION), (.ref a_RECORD), (.int z1)] 4)) (T36.setTop (mkF m 8 #[rv a_INSERT_INTENTION, rv a_RECORD, iv z1, .unset] [(.ref a_RECORD)])) := fun t q => by
    refine k_35 t ?_
    refine st36 _ ?_
    show Steps _ _ _ (T36.setTop (mkF m 4 #[rv a_INSERT_INTENTION, rv a_RECORD, iv z1, .unset] [(.ref a_INSERT_INTENTION), (.ref a_INSERT_INTENTION)])) _
    refine Jvm.RoadKit.acmp (g := (mkF m 4 #[rv a_INSERT_INTENTION, rv a_RECORD, iv z1, .unset] [(.ref a_INSERT_INTENTION), (.ref a_INSERT_INTENTION)])) X36 hx rfl rfl rfl (pc0 := 4) (pc' := 7) (same := true) rfl (hb hby d3_4) rfl (decide_eq_true rfl) (by decide) (by decide) ?_
    show Steps _ _ _ (T36.setTop (mkF m 7 #[rv a_INSERT_INTENTION, rv a_RECORD, iv z1, .unset] [])) _
    refine XS.aloadN X36.here hx rfl (hb hby d3_7) rfl rfl ?_
    show Steps _ _ _ (T36.setTop (mkF m 8 #[rv a_INSERT_INTENTION, rv a_RECORD, iv z1, .unset] [(.ref a_RECORD)])) _
    exact q
  obtain ⟨T38, X38, e38, st38⟩ := getS2 X36 hx hZ hown (host := "") (Or.inl (hw _ (wd 12 rfl))) Via.refl e36 (S_NEXT_KEY.ext O0.2) (g := (mkF m 8 #[rv a_INSERT_INTENTION, rv a_RECORD, iv z1, .unset] [(.ref a_RECORD)])) rfl (hb hby d3_8)
  have k_39 : Go p.tables e below (s₁.setTop (entryFrame m #[(.ref a_INSERT_INTENTION), (.ref a_RECORD), (.int z1)] 4)) (T38.setTop (mkF m 15 #[rv a_INSERT_INTENTION, rv a_RECORD, iv z1, .unset] [(.ref a_RECORD)])) := fun t q => by
    refine k_37 t ?_
    refine st38 _ ?_
    show Steps _ _ _ (T38.setTop (mkF m 11 #[rv a_INSERT_INTENTION, rv a_RECORD, iv z1, .unset] [(.ref a_NEXT_KEY), (.ref a_RECORD)])) _
    refine Jvm.RoadKit.acmp (g := (mkF m 11 #[rv a_INSERT_INTENTION, rv a_RECORD, iv z1, .unset] [(.ref a_NEXT_KEY), (.ref a_RECORD)])) X38 hx rfl rfl rfl (pc0 := 11) (pc' := 14) (same := false) rfl (hb hby d3_11) rfl (decide_eq_false fun q => (own_ne R_RECORD_ordinal R_NEXT_KEY_ordinal (by decide)) (Value.ref.inj q)) (by decide) (by decide) ?_
    show Steps _ _ _ (T38.setTop (mkF m 14 #[rv a_INSERT_INTENTION, rv a_RECORD, iv z1, .unset] [])) _
    refine XS.aloadN X38.here hx rfl (hb hby d3_14) rfl rfl ?_
    show Steps _ _ _ (T38.setTop (mkF m 15 #[rv a_INSERT_INTENTION, rv a_RECORD, iv z1, .unset] [(.ref a_RECORD)])) _
    exact q
  obtain ⟨T40, X40, e40, st40⟩ := getS2 X38 hx hZ hown (host := "") (Or.inl (hw _ (wd 23 rfl))) Via.refl e38 (S_GAP.ext O0.2) (g := (mkF m 15 #[rv a_INSERT_INTENTION, rv a_RECORD, iv z1, .unset] [(.ref a_RECORD)])) rfl (hb hby d3_15)
  have k_41 : Go p.tables e below (s₁.setTop (entryFrame m #[(.ref a_INSERT_INTENTION), (.ref a_RECORD), (.int z1)] 4)) (T40.setTop (mkF m 55 #[rv a_INSERT_INTENTION, rv a_RECORD, iv z1, iv 0] [(.int 0)])) := fun t q => by
    refine k_39 t ?_
    refine st40 _ ?_
    show Steps _ _ _ (T40.setTop (mkF m 18 #[rv a_INSERT_INTENTION, rv a_RECORD, iv z1, .unset] [(.ref a_GAP), (.ref a_RECORD)])) _
    refine Jvm.RoadKit.acmp (g := (mkF m 18 #[rv a_INSERT_INTENTION, rv a_RECORD, iv z1, .unset] [(.ref a_GAP), (.ref a_RECORD)])) X40 hx rfl rfl rfl (pc0 := 18) (pc' := 25) (same := false) rfl (hb hby d3_18) rfl (decide_eq_false fun q => (own_ne R_RECORD_ordinal R_GAP_ordinal (by decide)) (Value.ref.inj q)) (by decide) (by decide) ?_
    show Steps _ _ _ (T40.setTop (mkF m 25 #[rv a_INSERT_INTENTION, rv a_RECORD, iv z1, .unset] [])) _
    refine XS.iconst X40.here hx rfl (hb hby d3_25) ?_
    show Steps _ _ _ (T40.setTop (mkF m 26 #[rv a_INSERT_INTENTION, rv a_RECORD, iv z1, .unset] [(.int 0)])) _
    refine XS.istoreN X40.here hx rfl (hb hby d3_26) rfl (l' := #[rv a_INSERT_INTENTION, rv a_RECORD, iv z1, iv 0]) rfl ?_
    show Steps _ _ _ (T40.setTop (mkF m 27 #[rv a_INSERT_INTENTION, rv a_RECORD, iv z1, iv 0] [])) _
    refine XS.goto X40.here hx rfl (pc0 := 27) (pc' := 54) rfl (hb hby d3_27) (by decide) (by decide) ?_
    show Steps _ _ _ (T40.setTop (mkF m 54 #[rv a_INSERT_INTENTION, rv a_RECORD, iv z1, iv 0] [])) _
    refine XS.iloadN X40.here hx rfl (hb hby d3_54) rfl ?_
    show Steps _ _ _ (T40.setTop (mkF m 55 #[rv a_INSERT_INTENTION, rv a_RECORD, iv z1, iv 0] [(.int 0)])) _
    exact q
  obtain ⟨fs, hr, hrun, hended, hW, hsame⟩ := X40.leave (v := some (.int 0)) (fun h => by rw [Bd.returns] at h; cases h)
  refine ⟨_, _, k_41 _ ?_, hrun, hended, _, _, rfl, ?_, ⟨_, rfl⟩, hW, hsame.mono (by decide) (by decide)⟩
  · exact retN X40 hx (t := .boolean) Bd.returns (by simp) (hb hby d3_55) hr
  · show QV (some (.int 0)) h0 n0 _ T40.heap _
    rw [e40]
    exact ⟨rfl, N0, rfl⟩
set_option maxRecDepth 65536 in
set_option maxHeartbeats 40000000 in
theorem pk_3 (l : Launch) (Z : State) (a0 : Array Value) (hw : ∀ d ∈ tables_1, d.before a0 Z = true) (ws : List Jvm.Cond) (a_NEXT_KEY a_INSERT_INTENTION a_RECORD a_GAP : Addr) (G : Own Z a_NEXT_KEY a_INSERT_INTENTION a_RECORD a_GAP)  (h0 : Heap) (n0 : Nat) (O0 : Old Z n0 h0)  :
    MetFree l y_0 (head1 (Jvm.Cond.code y_0 method_2_code 1 (some (.object "com/example/nkdb/nkdb/transaction/LockKind")) :: ws) ({ frames := 0, cells := 0, slots := 0, locals := 0 } : Room)) (fun a U => a = #[(.int 3)] ∧ Z.Warmed39 U.vm ∧ U.heap = h0) (fun _ _ _ _ _ => True) (fun _ U o U' => ∃ v L, o = .returned v ∧ QV (some (.ref a_INSERT_INTENTION)) h0 n0 v U'.heap L ∧ FrameEnd U o U' L ({ frames := 0, cells := 0, slots := 0, locals := 0 } : Room).cells ({ frames := 0, cells := 0, slots := 0, locals := 0 } : Room).slots) := by
  refine MetFree.of_bodySF (plainFor_of_name pn_0) hisR ?_
  intro p e s m args below meth c s₁ Bd hml0 hP hK
  obtain ⟨rfl, hZ, hh⟩ := hP
  have hx := Bd.exec
  have hby := Bd.bytes
  have hml : c.maxLocals = 1 := hml0
  have hown : s.vm.findClass "com/example/nkdb/nkdb/transaction/LockKindLocksGapPinLaw" = some m.cls := findClass_of_methodNamed Bd.named
  have hnm := (name_of_methodNamed Bd.named Bd.method).1
  have X0 : Stand p l e ({ frames := 0, cells := 0, slots := 0, locals := 0 } : Room) s m #[(.int 3)] below meth c s₁ [] 0 0 := Stand.of_body Bd
  have e0 : s₁.heap = h0 := by rw [← hh, Bd.state]; rfl
  have N0 := Fr.nil n0
  have K0 := Keep.refl h0 []
  have k0 : Go p.tables e below (s₁.setTop (entryFrame m #[(.int 3)] 1)) (s₁.setTop (mkF m 0 #[iv 3] [])) := fun t k => castTop (by first | rfl | (simp [entryFrame, mkF, argsToLocals, Value.category]; done)) k
  have ⟨S_NEXT_KEY, E_NEXT_KEY, S_INSERT_INTENTION, E_INSERT_INTENTION, S_RECORD, E_RECORD, S_GAP, E_GAP, R_RECORD_ordinal, R_NEXT_KEY_ordinal, R_GAP_ordinal, R_INSERT_INTENTION_ordinal⟩ := G
  have k_42 : Go p.tables e below (s₁.setTop (entryFrame m #[(.int 3)] 1)) (s₁.setTop (mkF m 26 #[iv 3] [])) := fun t q => by
    refine k0 t ?_
    refine XS.iloadN X0.here hx rfl (hb hby d1_0) rfl ?_
    show Steps _ _ _ (s₁.setTop (mkF m 1 #[iv 3] [(.int 3)])) _
    refine XS.ifYes X0.here hx rfl (pc0 := 1) (pc' := 8) rfl (hb hby d1_1) rfl (by decide) (by decide) (by decide) ?_
    show Steps _ _ _ (s₁.setTop (mkF m 8 #[iv 3] [])) _
    refine XS.iloadN X0.here hx rfl (hb hby d1_8) rfl ?_
    show Steps _ _ _ (s₁.setTop (mkF m 9 #[iv 3] [(.int 3)])) _
    refine XS.iconst X0.here hx rfl (hb hby d1_9) ?_
    show Steps _ _ _ (s₁.setTop (mkF m 10 #[iv 3] [(.int 1), (.int 3)])) _
    refine XS.icmpYes X0.here hx rfl (pc0 := 10) (pc' := 17) rfl (hb hby d1_10) rfl (by decide) (by decide) (by decide) ?_
    show Steps _ _ _ (s₁.setTop (mkF m 17 #[iv 3] [])) _
    refine XS.iloadN X0.here hx rfl (hb hby d1_17) rfl ?_
    show Steps _ _ _ (s₁.setTop (mkF m 18 #[iv 3] [(.int 3)])) _
    refine XS.iconst X0.here hx rfl (hb hby d1_18) ?_
    show Steps _ _ _ (s₁.setTop (mkF m 19 #[iv 3] [(.int 2), (.int 3)])) _
    refine XS.icmpYes X0.here hx rfl (pc0 := 19) (pc' := 26) rfl (hb hby d1_19) rfl (by decide) (by decide) (by decide) ?_
    show Steps _ _ _ (s₁.setTop (mkF m 26 #[iv 3] [])) _
    exact q
  obtain ⟨T43, X43, e43, st43⟩ := getS2 X0 hx hZ hown (host := "") (Or.inl (hw _ (wd 13 rfl))) Via.refl e0 (S_INSERT_INTENTION.ext O0.2) (g := (mkF m 26 #[iv 3] [])) rfl (hb hby d1_26)
  have k_44 : Go p.tables e below (s₁.setTop (entryFrame m #[(.int 3)] 1)) (T43.setTop (mkF m 29 #[iv 3] [(.ref a_INSERT_INTENTION)])) := fun t q => by
    refine k_42 t ?_
    refine st43 _ ?_
    show Steps _ _ _ (T43.setTop (mkF m 29 #[iv 3] [(.ref a_INSERT_INTENTION)])) _
    exact q
  obtain ⟨fs, hr, hrun, hended, hW, hsame⟩ := X43.leave (v := some (.ref a_INSERT_INTENTION)) (fun h => by rw [Bd.returns] at h; cases h)
  refine ⟨_, _, k_44 _ ?_, hrun, hended, _, _, rfl, ?_, ⟨_, rfl⟩, hW, hsame.mono (by decide) (by decide)⟩
  · exact retOut X43 hx Bd.returns rfl (Or.inr (Or.inr (Or.inr (Or.inr ⟨rfl, rfl, rfl⟩)))) (hb hby d1_29) hr
  · show QV (some (.ref a_INSERT_INTENTION)) h0 n0 _ T43.heap _
    rw [e43]
    exact ⟨rfl, N0, rfl⟩
set_option maxRecDepth 65536 in
set_option maxHeartbeats 40000000 in
theorem lg_3 (l : Launch) (Z : State) (a0 : Array Value) (hw : ∀ d ∈ tables_1, d.before a0 Z = true) (ws : List Jvm.Cond) (a_NEXT_KEY a_INSERT_INTENTION a_RECORD a_GAP : Addr) (G : Own Z a_NEXT_KEY a_INSERT_INTENTION a_RECORD a_GAP)  (h0 : Heap) (n0 : Nat) (O0 : Old Z n0 h0)  :
    MetFree l y_1 (head1 (Jvm.Cond.code y_1 prog_87_method_6_code 1 (some .boolean) :: ws) ({ frames := 0, cells := 0, slots := 0, locals := 0 } : Room)) (fun a U => a = #[(.ref a_INSERT_INTENTION)] ∧ Z.Warmed39 U.vm ∧ U.heap = h0) (fun _ _ _ _ _ => True) (fun _ U o U' => ∃ v L, o = .returned v ∧ QV (some (.int 0)) h0 n0 v U'.heap L ∧ FrameEnd U o U' L ({ frames := 0, cells := 0, slots := 0, locals := 0 } : Room).cells ({ frames := 0, cells := 0, slots := 0, locals := 0 } : Room).slots) := by
  refine MetFree.of_bodySF (plainFor_of_name pn_1) hisR ?_
  intro p e s m args below meth c s₁ Bd hml0 hP hK
  obtain ⟨rfl, hZ, hh⟩ := hP
  have hx := Bd.exec
  have hby := Bd.bytes
  have hml : c.maxLocals = 1 := hml0
  have hown : s.vm.findClass "com/example/nkdb/nkdb/transaction/LockKind" = some m.cls := findClass_of_methodNamed Bd.named
  have hnm := (name_of_methodNamed Bd.named Bd.method).1
  have X0 : Stand p l e ({ frames := 0, cells := 0, slots := 0, locals := 0 } : Room) s m #[(.ref a_INSERT_INTENTION)] below meth c s₁ [] 0 0 := Stand.of_body Bd
  have e0 : s₁.heap = h0 := by rw [← hh, Bd.state]; rfl
  have N0 := Fr.nil n0
  have K0 := Keep.refl h0 []
  have k0 : Go p.tables e below (s₁.setTop (entryFrame m #[(.ref a_INSERT_INTENTION)] 1)) (s₁.setTop (mkF m 0 #[rv a_INSERT_INTENTION] [])) := fun t k => castTop (by first | rfl | (simp [entryFrame, mkF, argsToLocals, Value.category]; done)) k
  have ⟨S_NEXT_KEY, E_NEXT_KEY, S_INSERT_INTENTION, E_INSERT_INTENTION, S_RECORD, E_RECORD, S_GAP, E_GAP, R_RECORD_ordinal, R_NEXT_KEY_ordinal, R_GAP_ordinal, R_INSERT_INTENTION_ordinal⟩ := G
  have k_45 : Go p.tables e below (s₁.setTop (entryFrame m #[(.ref a_INSERT_INTENTION)] 1)) (s₁.setTop (mkF m 1 #[rv a_INSERT_INTENTION] [(.ref a_INSERT_INTENTION)])) := fun t q => by
    refine k0 t ?_
    refine XS.aloadN X0.here hx rfl (hb hby d2_0) rfl rfl ?_
    show Steps _ _ _ (s₁.setTop (mkF m 1 #[rv a_INSERT_INTENTION] [(.ref a_INSERT_INTENTION)])) _
    exact q
  obtain ⟨T46, X46, e46, st46⟩ := getS2 X0 hx hZ hown (host := "") (Or.inl (hw _ (wd 12 rfl))) Via.refl e0 (S_NEXT_KEY.ext O0.2) (g := (mkF m 1 #[rv a_INSERT_INTENTION] [(.ref a_INSERT_INTENTION)])) rfl (hb hby d2_1)
  have k_47 : Go p.tables e below (s₁.setTop (entryFrame m #[(.ref a_INSERT_INTENTION)] 1)) (T46.setTop (mkF m 8 #[rv a_INSERT_INTENTION] [(.ref a_INSERT_INTENTION)])) := fun t q => by
    refine k_45 t ?_
    refine st46 _ ?_
    show Steps _ _ _ (T46.setTop (mkF m 4 #[rv a_INSERT_INTENTION] [(.ref a_NEXT_KEY), (.ref a_INSERT_INTENTION)])) _
    refine Jvm.RoadKit.acmp (g := (mkF m 4 #[rv a_INSERT_INTENTION] [(.ref a_NEXT_KEY), (.ref a_INSERT_INTENTION)])) X46 hx rfl rfl rfl (pc0 := 4) (pc' := 7) (same := false) rfl (hb hby d2_4) rfl (decide_eq_false fun q => (own_ne R_INSERT_INTENTION_ordinal R_NEXT_KEY_ordinal (by decide)) (Value.ref.inj q)) (by decide) (by decide) ?_
    show Steps _ _ _ (T46.setTop (mkF m 7 #[rv a_INSERT_INTENTION] [])) _
    refine XS.aloadN X46.here hx rfl (hb hby d2_7) rfl rfl ?_
    show Steps _ _ _ (T46.setTop (mkF m 8 #[rv a_INSERT_INTENTION] [(.ref a_INSERT_INTENTION)])) _
    exact q
  obtain ⟨T48, X48, e48, st48⟩ := getS2 X46 hx hZ hown (host := "") (Or.inl (hw _ (wd 23 rfl))) Via.refl e46 (S_GAP.ext O0.2) (g := (mkF m 8 #[rv a_INSERT_INTENTION] [(.ref a_INSERT_INTENTION)])) rfl (hb hby d2_8)
  have k_49 : Go p.tables e below (s₁.setTop (entryFrame m #[(.ref a_INSERT_INTENTION)] 1)) (T48.setTop (mkF m 19 #[rv a_INSERT_INTENTION] [(.int 0)])) := fun t q => by
    refine k_47 t ?_
    refine st48 _ ?_
    show Steps _ _ _ (T48.setTop (mkF m 11 #[rv a_INSERT_INTENTION] [(.ref a_GAP), (.ref a_INSERT_INTENTION)])) _
    refine Jvm.RoadKit.acmp (g := (mkF m 11 #[rv a_INSERT_INTENTION] [(.ref a_GAP), (.ref a_INSERT_INTENTION)])) X48 hx rfl rfl rfl (pc0 := 11) (pc' := 18) (same := false) rfl (hb hby d2_11) rfl (decide_eq_false fun q => (own_ne R_INSERT_INTENTION_ordinal R_GAP_ordinal (by decide)) (Value.ref.inj q)) (by decide) (by decide) ?_
    show Steps _ _ _ (T48.setTop (mkF m 18 #[rv a_INSERT_INTENTION] [])) _
    refine XS.iconst X48.here hx rfl (hb hby d2_18) ?_
    show Steps _ _ _ (T48.setTop (mkF m 19 #[rv a_INSERT_INTENTION] [(.int 0)])) _
    exact q
  obtain ⟨fs, hr, hrun, hended, hW, hsame⟩ := X48.leave (v := some (.int 0)) (fun h => by rw [Bd.returns] at h; cases h)
  refine ⟨_, _, k_49 _ ?_, hrun, hended, _, _, rfl, ?_, ⟨_, rfl⟩, hW, hsame.mono (by decide) (by decide)⟩
  · exact retN X48 hx (t := .boolean) Bd.returns (by simp) (hb hby d2_19) hr
  · show QV (some (.int 0)) h0 n0 _ T48.heap _
    rw [e48]
    exact ⟨rfl, N0, rfl⟩
set_option maxRecDepth 65536 in
set_option maxHeartbeats 40000000 in
theorem wf_3 (l : Launch) (Z : State) (a0 : Array Value) (hw : ∀ d ∈ tables_1, d.before a0 Z = true) (ws : List Jvm.Cond) (a_NEXT_KEY a_INSERT_INTENTION a_RECORD a_GAP : Addr) (G : Own Z a_NEXT_KEY a_INSERT_INTENTION a_RECORD a_GAP) (z1 : Int32) (h0 : Heap) (n0 : Nat) (O0 : Old Z n0 h0)  :
    MetFree l y_2 (head1 (Jvm.Cond.code y_2 prog_87_method_4_code 4 (some .boolean) :: ws) ({ frames := 0, cells := 0, slots := 0, locals := 0 } : Room)) (fun a U => a = #[(.ref a_INSERT_INTENTION), (.ref a_INSERT_INTENTION), (.int z1)] ∧ Z.Warmed39 U.vm ∧ U.heap = h0) (fun _ _ _ _ _ => True) (fun _ U o U' => ∃ v L, o = .returned v ∧ QV (some (.int 0)) h0 n0 v U'.heap L ∧ FrameEnd U o U' L ({ frames := 0, cells := 0, slots := 0, locals := 0 } : Room).cells ({ frames := 0, cells := 0, slots := 0, locals := 0 } : Room).slots) := by
  refine MetFree.of_bodySF (plainFor_of_name pn_1) hisR ?_
  intro p e s m args below meth c s₁ Bd hml0 hP hK
  obtain ⟨rfl, hZ, hh⟩ := hP
  have hx := Bd.exec
  have hby := Bd.bytes
  have hml : c.maxLocals = 4 := hml0
  have hown : s.vm.findClass "com/example/nkdb/nkdb/transaction/LockKind" = some m.cls := findClass_of_methodNamed Bd.named
  have hnm := (name_of_methodNamed Bd.named Bd.method).1
  have X0 : Stand p l e ({ frames := 0, cells := 0, slots := 0, locals := 0 } : Room) s m #[(.ref a_INSERT_INTENTION), (.ref a_INSERT_INTENTION), (.int z1)] below meth c s₁ [] 0 0 := Stand.of_body Bd
  have e0 : s₁.heap = h0 := by rw [← hh, Bd.state]; rfl
  have N0 := Fr.nil n0
  have K0 := Keep.refl h0 []
  have k0 : Go p.tables e below (s₁.setTop (entryFrame m #[(.ref a_INSERT_INTENTION), (.ref a_INSERT_INTENTION), (.int z1)] 4)) (s₁.setTop (mkF m 0 #[rv a_INSERT_INTENTION, rv a_INSERT_INTENTION, iv z1, .unset] [])) := fun t k => castTop (by first | rfl | (simp [entryFrame, mkF, argsToLocals, Value.category]; done)) k
  have ⟨S_NEXT_KEY, E_NEXT_KEY, S_INSERT_INTENTION, E_INSERT_INTENTION, S_RECORD, E_RECORD, S_GAP, E_GAP, R_RECORD_ordinal, R_NEXT_KEY_ordinal, R_GAP_ordinal, R_INSERT_INTENTION_ordinal⟩ := G
  have k_50 : Go p.tables e below (s₁.setTop (entryFrame m #[(.ref a_INSERT_INTENTION), (.ref a_INSERT_INTENTION), (.int z1)] 4)) (s₁.setTop (mkF m 1 #[rv a_INSERT_INTENTION, rv a_INSERT_INTENTION, iv z1, .unset] [(.ref a_INSERT_INTENTION)])) := fun t q => by
    refine k0 t ?_
    refine XS.aloadN X0.here hx rfl (hb hby d3_0) rfl rfl ?_
    show Steps _ _ _ (s₁.setTop (mkF m 1 #[rv a_INSERT_INTENTION, rv a_INSERT_INTENTION, iv z1, .unset] [(.ref a_INSERT_INTENTION)])) _
    exact q
  obtain ⟨T51, X51, e51, st51⟩ := getS2 X0 hx hZ hown (host := "") (Or.inl (hw _ (wd 20 rfl))) Via.refl e0 (S_INSERT_INTENTION.ext O0.2) (g := (mkF m 1 #[rv a_INSERT_INTENTION, rv a_INSERT_INTENTION, iv z1, .unset] [(.ref a_INSERT_INTENTION)])) rfl (hb hby d3_1)
  have k_52 : Go p.tables e below (s₁.setTop (entryFrame m #[(.ref a_INSERT_INTENTION), (.ref a_INSERT_INTENTION), (.int z1)] 4)) (T51.setTop (mkF m 8 #[rv a_INSERT_INTENTION, rv a_INSERT_INTENTION, iv z1, .unset] [(.ref a_INSERT_INTENTION)])) := fun t q => by
    refine k_50 t ?_
    refine st51 _ ?_
    show Steps _ _ _ (T51.setTop (mkF m 4 #[rv a_INSERT_INTENTION, rv a_INSERT_INTENTION, iv z1, .unset] [(.ref a_INSERT_INTENTION), (.ref a_INSERT_INTENTION)])) _
    refine Jvm.RoadKit.acmp (g := (mkF m 4 #[rv a_INSERT_INTENTION, rv a_INSERT_INTENTION, iv z1, .unset] [(.ref a_INSERT_INTENTION), (.ref a_INSERT_INTENTION)])) X51 hx rfl rfl rfl (pc0 := 4) (pc' := 7) (same := true) rfl (hb hby d3_4) rfl (decide_eq_true rfl) (by decide) (by decide) ?_
    show Steps _ _ _ (T51.setTop (mkF m 7 #[rv a_INSERT_INTENTION, rv a_INSERT_INTENTION, iv z1, .unset] [])) _
    refine XS.aloadN X51.here hx rfl (hb hby d3_7) rfl rfl ?_
    show Steps _ _ _ (T51.setTop (mkF m 8 #[rv a_INSERT_INTENTION, rv a_INSERT_INTENTION, iv z1, .unset] [(.ref a_INSERT_INTENTION)])) _
    exact q
  obtain ⟨T53, X53, e53, st53⟩ := getS2 X51 hx hZ hown (host := "") (Or.inl (hw _ (wd 12 rfl))) Via.refl e51 (S_NEXT_KEY.ext O0.2) (g := (mkF m 8 #[rv a_INSERT_INTENTION, rv a_INSERT_INTENTION, iv z1, .unset] [(.ref a_INSERT_INTENTION)])) rfl (hb hby d3_8)
  have k_54 : Go p.tables e below (s₁.setTop (entryFrame m #[(.ref a_INSERT_INTENTION), (.ref a_INSERT_INTENTION), (.int z1)] 4)) (T53.setTop (mkF m 15 #[rv a_INSERT_INTENTION, rv a_INSERT_INTENTION, iv z1, .unset] [(.ref a_INSERT_INTENTION)])) := fun t q => by
    refine k_52 t ?_
    refine st53 _ ?_
    show Steps _ _ _ (T53.setTop (mkF m 11 #[rv a_INSERT_INTENTION, rv a_INSERT_INTENTION, iv z1, .unset] [(.ref a_NEXT_KEY), (.ref a_INSERT_INTENTION)])) _
    refine Jvm.RoadKit.acmp (g := (mkF m 11 #[rv a_INSERT_INTENTION, rv a_INSERT_INTENTION, iv z1, .unset] [(.ref a_NEXT_KEY), (.ref a_INSERT_INTENTION)])) X53 hx rfl rfl rfl (pc0 := 11) (pc' := 14) (same := false) rfl (hb hby d3_11) rfl (decide_eq_false fun q => (own_ne R_INSERT_INTENTION_ordinal R_NEXT_KEY_ordinal (by decide)) (Value.ref.inj q)) (by decide) (by decide) ?_
    show Steps _ _ _ (T53.setTop (mkF m 14 #[rv a_INSERT_INTENTION, rv a_INSERT_INTENTION, iv z1, .unset] [])) _
    refine XS.aloadN X53.here hx rfl (hb hby d3_14) rfl rfl ?_
    show Steps _ _ _ (T53.setTop (mkF m 15 #[rv a_INSERT_INTENTION, rv a_INSERT_INTENTION, iv z1, .unset] [(.ref a_INSERT_INTENTION)])) _
    exact q
  obtain ⟨T55, X55, e55, st55⟩ := getS2 X53 hx hZ hown (host := "") (Or.inl (hw _ (wd 23 rfl))) Via.refl e53 (S_GAP.ext O0.2) (g := (mkF m 15 #[rv a_INSERT_INTENTION, rv a_INSERT_INTENTION, iv z1, .unset] [(.ref a_INSERT_INTENTION)])) rfl (hb hby d3_15)
  have k_56 : Go p.tables e below (s₁.setTop (entryFrame m #[(.ref a_INSERT_INTENTION), (.ref a_INSERT_INTENTION), (.int z1)] 4)) (T55.setTop (mkF m 55 #[rv a_INSERT_INTENTION, rv a_INSERT_INTENTION, iv z1, iv 0] [(.int 0)])) := fun t q => by
    refine k_54 t ?_
    refine st55 _ ?_
    show Steps _ _ _ (T55.setTop (mkF m 18 #[rv a_INSERT_INTENTION, rv a_INSERT_INTENTION, iv z1, .unset] [(.ref a_GAP), (.ref a_INSERT_INTENTION)])) _
    refine Jvm.RoadKit.acmp (g := (mkF m 18 #[rv a_INSERT_INTENTION, rv a_INSERT_INTENTION, iv z1, .unset] [(.ref a_GAP), (.ref a_INSERT_INTENTION)])) X55 hx rfl rfl rfl (pc0 := 18) (pc' := 25) (same := false) rfl (hb hby d3_18) rfl (decide_eq_false fun q => (own_ne R_INSERT_INTENTION_ordinal R_GAP_ordinal (by decide)) (Value.ref.inj q)) (by decide) (by decide) ?_
    show Steps _ _ _ (T55.setTop (mkF m 25 #[rv a_INSERT_INTENTION, rv a_INSERT_INTENTION, iv z1, .unset] [])) _
    refine XS.iconst X55.here hx rfl (hb hby d3_25) ?_
    show Steps _ _ _ (T55.setTop (mkF m 26 #[rv a_INSERT_INTENTION, rv a_INSERT_INTENTION, iv z1, .unset] [(.int 0)])) _
    refine XS.istoreN X55.here hx rfl (hb hby d3_26) rfl (l' := #[rv a_INSERT_INTENTION, rv a_INSERT_INTENTION, iv z1, iv 0]) rfl ?_
    show Steps _ _ _ (T55.setTop (mkF m 27 #[rv a_INSERT_INTENTION, rv a_INSERT_INTENTION, iv z1, iv 0] [])) _
    refine XS.goto X55.here hx rfl (pc0 := 27) (pc' := 54) rfl (hb hby d3_27) (by decide) (by decide) ?_
    show Steps _ _ _ (T55.setTop (mkF m 54 #[rv a_INSERT_INTENTION, rv a_INSERT_INTENTION, iv z1, iv 0] [])) _
    refine XS.iloadN X55.here hx rfl (hb hby d3_54) rfl ?_
    show Steps _ _ _ (T55.setTop (mkF m 55 #[rv a_INSERT_INTENTION, rv a_INSERT_INTENTION, iv z1, iv 0] [(.int 0)])) _
    exact q
  obtain ⟨fs, hr, hrun, hended, hW, hsame⟩ := X55.leave (v := some (.int 0)) (fun h => by rw [Bd.returns] at h; cases h)
  refine ⟨_, _, k_56 _ ?_, hrun, hended, _, _, rfl, ?_, ⟨_, rfl⟩, hW, hsame.mono (by decide) (by decide)⟩
  · exact retN X55 hx (t := .boolean) Bd.returns (by simp) (hb hby d3_55) hr
  · show QV (some (.int 0)) h0 n0 _ T55.heap _
    rw [e55]
    exact ⟨rfl, N0, rfl⟩
set_option maxRecDepth 65536 in
set_option maxHeartbeats 40000000 in
theorem rm0 (l : Launch) (Z : State) (a0 : Array Value) (hw : ∀ d ∈ tables_1, d.before a0 Z = true) (ws : List Jvm.Cond) (a_NEXT_KEY a_INSERT_INTENTION a_RECORD a_GAP : Addr) (G : Own Z a_NEXT_KEY a_INSERT_INTENTION a_RECORD a_GAP) (q1 q2 : Int32) (h0 : Heap) (n0 : Nat) (O0 : Old Z n0 h0)  :
    MetFree l x (head1 (Jvm.Cond.code x code maxLocals ret :: ws) room_1) (fun a U => a = #[(.int q1), (.int q2)] ∧ Z.Warmed39 U.vm ∧ U.heap = h0) (fun _ _ _ _ _ => True) (fun _ U o U' => ∃ v L, o = .returned v ∧ Q0 n0 v U'.heap L ∧ FrameEnd U o U' L room_1.cells room_1.slots) := by
  refine MetFree.of_bodySF (plainFor_of_name pn_0) hisR ?_
  intro p e s m args below meth c s₁ Bd hml0 hP hK
  obtain ⟨rfl, hZ, hh⟩ := hP
  have hx := Bd.exec
  have hby := Bd.bytes
  have hml : c.maxLocals = 7 := hml0
  have hown : s.vm.findClass "com/example/nkdb/nkdb/transaction/LockKindLocksGapPinLaw" = some m.cls := findClass_of_methodNamed Bd.named
  have hnm := (name_of_methodNamed Bd.named Bd.method).1
  have X0 : Stand p l e room_1 s m #[(.int q1), (.int q2)] below meth c s₁ [] 0 0 := Stand.of_body Bd
  have e0 : s₁.heap = h0 := by rw [← hh, Bd.state]; rfl
  have N0 := Fr.nil n0
  have K0 := Keep.refl h0 []
  have k0 : Go p.tables e below (s₁.setTop (entryFrame m #[(.int q1), (.int q2)] maxLocals)) (s₁.setTop (mkF m 0 #[iv q1, iv q2, .unset, .unset, .unset, .unset, .unset] [])) := fun t k => castTop (by first | rfl | (simp [entryFrame, mkF, argsToLocals, Value.category, maxLocals]; done)) k
  have ⟨S_NEXT_KEY, E_NEXT_KEY, S_INSERT_INTENTION, E_INSERT_INTENTION, S_RECORD, E_RECORD, S_GAP, E_GAP, R_RECORD_ordinal, R_NEXT_KEY_ordinal, R_GAP_ordinal, R_INSERT_INTENTION_ordinal⟩ := G
  rcases own_mask_4 q1 with hi | hi | hi | hi
  · skip
    rcases and_one q2 with hj | hj
    · skip
      have k_57 : Go p.tables e below (s₁.setTop (entryFrame m #[(.int q1), (.int q2)] maxLocals)) (s₁.setTop (mkF m 17 #[iv q1, iv q2, iv 0, iv 0, .unset, .unset, .unset] [(.int 0)])) := fun t q => by
        refine k0 t ?_
        refine XS.iloadN X0.here hx rfl (hb hby at_0) rfl ?_
        show Steps _ _ _ (s₁.setTop (mkF m 1 #[iv q1, iv q2, .unset, .unset, .unset, .unset, .unset] [(.int q1)])) _
        refine XS.iconst X0.here hx rfl (hb hby at_1) ?_
        show Steps _ _ _ (s₁.setTop (mkF m 2 #[iv q1, iv q2, .unset, .unset, .unset, .unset, .unset] [(.int 3), (.int q1)])) _
        refine XS.iand X0.here hx rfl (hb hby at_2) rfl ?_
        show Steps _ _ _ (s₁.setTop (mkF m 3 #[iv q1, iv q2, .unset, .unset, .unset, .unset, .unset] [(.int (q1 &&& (3 : Int32)))])) _
        rw [hi]
        show Steps _ _ _ (s₁.setTop (mkF m 3 #[iv q1, iv q2, .unset, .unset, .unset, .unset, .unset] [(.int 0)])) _
        refine XS.istoreN X0.here hx rfl (hb hby at_3) rfl (l' := #[iv q1, iv q2, iv 0, .unset, .unset, .unset, .unset]) rfl ?_
        show Steps _ _ _ (s₁.setTop (mkF m 4 #[iv q1, iv q2, iv 0, .unset, .unset, .unset, .unset] [])) _
        refine XS.iloadN X0.here hx rfl (hb hby at_4) rfl ?_
        show Steps _ _ _ (s₁.setTop (mkF m 5 #[iv q1, iv q2, iv 0, .unset, .unset, .unset, .unset] [(.int q2)])) _
        refine XS.iconst X0.here hx rfl (hb hby at_5) ?_
        show Steps _ _ _ (s₁.setTop (mkF m 6 #[iv q1, iv q2, iv 0, .unset, .unset, .unset, .unset] [(.int 1), (.int q2)])) _
        refine XS.iand X0.here hx rfl (hb hby at_6) rfl ?_
        show Steps _ _ _ (s₁.setTop (mkF m 7 #[iv q1, iv q2, iv 0, .unset, .unset, .unset, .unset] [(.int (q2 &&& (1 : Int32)))])) _
        rw [hj]
        show Steps _ _ _ (s₁.setTop (mkF m 7 #[iv q1, iv q2, iv 0, .unset, .unset, .unset, .unset] [(.int 0)])) _
        refine XS.ifYes X0.here hx rfl (pc0 := 7) (pc' := 14) rfl (hb hby at_7) rfl (by decide) (by decide) (by decide) ?_
        show Steps _ _ _ (s₁.setTop (mkF m 14 #[iv q1, iv q2, iv 0, .unset, .unset, .unset, .unset] [])) _
        refine XS.iconst X0.here hx rfl (hb hby at_14) ?_
        show Steps _ _ _ (s₁.setTop (mkF m 15 #[iv q1, iv q2, iv 0, .unset, .unset, .unset, .unset] [(.int 0)])) _
        refine XS.istoreN X0.here hx rfl (hb hby at_15) rfl (l' := #[iv q1, iv q2, iv 0, iv 0, .unset, .unset, .unset]) rfl ?_
        show Steps _ _ _ (s₁.setTop (mkF m 16 #[iv q1, iv q2, iv 0, iv 0, .unset, .unset, .unset] [])) _
        refine XS.iloadN X0.here hx rfl (hb hby at_16) rfl ?_
        show Steps _ _ _ (s₁.setTop (mkF m 17 #[iv q1, iv q2, iv 0, iv 0, .unset, .unset, .unset] [(.int 0)])) _
        exact q
      obtain ⟨_, _, ⟨T58, L58, k58, n58⟩, -, X58, ⟨Lc58, hQ58, l58, y58, z58⟩, st58⟩ := Jvm.LawKit.callS X0 hx (y := y_0) hown (mvT hZ (hw _ (wd 0 rfl))) (mvT hZ (hw _ (wd 1 rfl))) (mvT hZ (hw _ (wd 2 rfl))) (mvT hZ (hw _ (wd 3 rfl))) (by decide) (backOf (W := 0) (pk_0 l Z a0 hw [] a_NEXT_KEY a_INSERT_INTENTION a_RECORD a_GAP G  h0 n0 O0 ) hZ (hw _ (wd 3 rfl)) (hw _ (wd 2 rfl)) (by decide) (by decide)) (g := (mkF m 17 #[iv q1, iv q2, iv 0, iv 0, .unset, .unset, .unset] [(.int 0)])) rfl (by rw [hml]; rfl) (argsL := [(.int 0)]) (rest := []) (lenOf pd_0 rfl) rfl (by show 2 * 0 + _ ≤ _; exact Nat.le_of_eq rfl) (hb hby at_17) (fun _ _ => ⟨rfl, e0, (by decide : 0 + 0 ≤ _), (by decide : 0 + 0 ≤ _)⟩)
      dsimp only [Pt.U, Pt.locs, Pt.cells, Pt.slots] at X58 l58 y58 z58 st58 hQ58
      subst l58 y58 z58
      obtain ⟨rfl, N58q, e58⟩ := hQ58
      have N58 := Fr.app N0 N58q
      have k_59 : Go p.tables e below (s₁.setTop (entryFrame m #[(.int q1), (.int q2)] maxLocals)) (T58.setTop (mkF m 40 #[iv q1, iv q2, iv 0, iv 0, rv a_NEXT_KEY, iv 1, .unset] [(.ref a_NEXT_KEY)])) := fun t q => by
        refine k_57 t ?_
        refine st58 _ ?_
        show Steps _ _ _ (T58.setTop (mkF m 20 #[iv q1, iv q2, iv 0, iv 0, .unset, .unset, .unset] [(.ref a_NEXT_KEY)])) _
        refine XS.astore X58.here hx rfl (hb hby at_20) rfl rfl (l' := #[iv q1, iv q2, iv 0, iv 0, rv a_NEXT_KEY, .unset, .unset]) rfl ?_
        show Steps _ _ _ (T58.setTop (mkF m 22 #[iv q1, iv q2, iv 0, iv 0, rv a_NEXT_KEY, .unset, .unset] [])) _
        refine XS.iloadN X58.here hx rfl (hb hby at_22) rfl ?_
        show Steps _ _ _ (T58.setTop (mkF m 23 #[iv q1, iv q2, iv 0, iv 0, rv a_NEXT_KEY, .unset, .unset] [(.int 0)])) _
        refine XS.ifYes X58.here hx rfl (pc0 := 23) (pc' := 31) rfl (hb hby at_23) rfl (by decide) (by decide) (by decide) ?_
        show Steps _ _ _ (T58.setTop (mkF m 31 #[iv q1, iv q2, iv 0, iv 0, rv a_NEXT_KEY, .unset, .unset] [])) _
        refine XS.iconst X58.here hx rfl (hb hby at_31) ?_
        show Steps _ _ _ (T58.setTop (mkF m 32 #[iv q1, iv q2, iv 0, iv 0, rv a_NEXT_KEY, .unset, .unset] [(.int 1)])) _
        refine XS.goto X58.here hx rfl (pc0 := 32) (pc' := 36) rfl (hb hby at_32) (by decide) (by decide) ?_
        show Steps _ _ _ (T58.setTop (mkF m 36 #[iv q1, iv q2, iv 0, iv 0, rv a_NEXT_KEY, .unset, .unset] [(.int 1)])) _
        refine XS.istore X58.here hx rfl (hb hby at_36) rfl (l' := #[iv q1, iv q2, iv 0, iv 0, rv a_NEXT_KEY, iv 1, .unset]) rfl ?_
        show Steps _ _ _ (T58.setTop (mkF m 38 #[iv q1, iv q2, iv 0, iv 0, rv a_NEXT_KEY, iv 1, .unset] [])) _
        refine XS.aload X58.here hx rfl (hb hby at_38) rfl rfl ?_
        show Steps _ _ _ (T58.setTop (mkF m 40 #[iv q1, iv q2, iv 0, iv 0, rv a_NEXT_KEY, iv 1, .unset] [(.ref a_NEXT_KEY)])) _
        exact q
      obtain ⟨cq60, kq60, q60a, q60b, q60c⟩ := isOf hZ e58 (Exa.ext O0.2 E_NEXT_KEY)
      obtain ⟨_, _, ⟨T60, L60, k60, n60⟩, -, X60, ⟨Lc60, hQ60, l60, y60, z60⟩, st60⟩ := X58.virtualBack hx (y := y_1) (z := y_1) hown (mvT hZ (hw _ (wd 7 rfl))) (mvT hZ (hw _ (wd 8 rfl))) (notFace_of_selects (args := #[]) (mvT hZ (hw _ (wd 10 rfl)))) (mvT hZ (hw _ (wd 10 rfl))) (mvT hZ (hw _ (wd 9 rfl))) (by decide) (backOf (W := 0) (lg_0 l Z a0 hw [] a_NEXT_KEY a_INSERT_INTENTION a_RECORD a_GAP G  h0 n0 O0 ) hZ (hw _ (wd 11 rfl)) (hw _ (wd 5 rfl)) (by decide) (by decide)) q60a q60c (g := (mkF m 40 #[iv q1, iv q2, iv 0, iv 0, rv a_NEXT_KEY, iv 1, .unset] [(.ref a_NEXT_KEY)])) rfl (by rw [hml]; rfl) (Steps.refl _) (argsL := []) (rest := []) (lenOf pd_1 rfl) rfl (by show 2 * 0 + _ ≤ _; exact Nat.le_of_eq rfl) (hb hby at_40) (fun _ _ => ⟨rfl, e58, (by decide : 0 + 0 ≤ _), (by decide : 0 + 0 ≤ _)⟩)
      dsimp only [Pt.U, Pt.locs, Pt.cells, Pt.slots] at X60 l60 y60 z60 st60 hQ60
      subst l60 y60 z60
      obtain ⟨rfl, N60q, e60⟩ := hQ60
      have N60 := Fr.app N58 N60q
      have k_61 : Go p.tables e below (s₁.setTop (entryFrame m #[(.int q1), (.int q2)] maxLocals)) (T60.setTop (mkF m 54 #[iv q1, iv q2, iv 0, iv 0, rv a_NEXT_KEY, iv 1, iv 1] [])) := fun t q => by
        refine k_59 t ?_
        refine st60.trans ?_
        show Steps _ _ _ (T60.setTop (mkF m 43 #[iv q1, iv q2, iv 0, iv 0, rv a_NEXT_KEY, iv 1, .unset] [(.int 1)])) _
        refine XS.istore X60.here hx rfl (hb hby at_43) rfl (l' := #[iv q1, iv q2, iv 0, iv 0, rv a_NEXT_KEY, iv 1, iv 1]) rfl ?_
        show Steps _ _ _ (T60.setTop (mkF m 45 #[iv q1, iv q2, iv 0, iv 0, rv a_NEXT_KEY, iv 1, iv 1] [])) _
        refine XS.iload X60.here hx rfl (hb hby at_45) rfl ?_
        show Steps _ _ _ (T60.setTop (mkF m 47 #[iv q1, iv q2, iv 0, iv 0, rv a_NEXT_KEY, iv 1, iv 1] [(.int 1)])) _
        refine XS.iload X60.here hx rfl (hb hby at_47) rfl ?_
        show Steps _ _ _ (T60.setTop (mkF m 49 #[iv q1, iv q2, iv 0, iv 0, rv a_NEXT_KEY, iv 1, iv 1] [(.int 1), (.int 1)])) _
        refine XS.icmpYes X60.here hx rfl (pc0 := 49) (pc' := 54) rfl (hb hby at_49) rfl (by decide) (by decide) (by decide) ?_
        show Steps _ _ _ (T60.setTop (mkF m 54 #[iv q1, iv q2, iv 0, iv 0, rv a_NEXT_KEY, iv 1, iv 1] [])) _
        exact q
      obtain ⟨T62, X62, e62, st62⟩ := getS2 X60 hx hZ hown (host := "") (Or.inl (hw _ (wd 13 rfl))) Via.refl e60 (S_INSERT_INTENTION.ext O0.2) (g := (mkF m 54 #[iv q1, iv q2, iv 0, iv 0, rv a_NEXT_KEY, iv 1, iv 1] [])) rfl (hb hby at_54)
      have k_63 : Go p.tables e below (s₁.setTop (entryFrame m #[(.int q1), (.int q2)] maxLocals)) (T62.setTop (mkF m 60 #[iv q1, iv q2, iv 0, iv 0, rv a_NEXT_KEY, iv 1, iv 1] [(.int 0), (.ref a_NEXT_KEY), (.ref a_INSERT_INTENTION)])) := fun t q => by
        refine k_61 t ?_
        refine st62 _ ?_
        show Steps _ _ _ (T62.setTop (mkF m 57 #[iv q1, iv q2, iv 0, iv 0, rv a_NEXT_KEY, iv 1, iv 1] [(.ref a_INSERT_INTENTION)])) _
        refine XS.aload X62.here hx rfl (hb hby at_57) rfl rfl ?_
        show Steps _ _ _ (T62.setTop (mkF m 59 #[iv q1, iv q2, iv 0, iv 0, rv a_NEXT_KEY, iv 1, iv 1] [(.ref a_NEXT_KEY), (.ref a_INSERT_INTENTION)])) _
        refine XS.iloadN X62.here hx rfl (hb hby at_59) rfl ?_
        show Steps _ _ _ (T62.setTop (mkF m 60 #[iv q1, iv q2, iv 0, iv 0, rv a_NEXT_KEY, iv 1, iv 1] [(.int 0), (.ref a_NEXT_KEY), (.ref a_INSERT_INTENTION)])) _
        exact q
      obtain ⟨cq64, kq64, q64a, q64b, q64c⟩ := isOf hZ e62 (Exa.ext O0.2 E_INSERT_INTENTION)
      obtain ⟨_, _, ⟨T64, L64, k64, n64⟩, -, X64, ⟨Lc64, hQ64, l64, y64, z64⟩, st64⟩ := X62.virtualBack hx (y := y_2) (z := y_2) hown (mvT hZ (hw _ (wd 15 rfl))) (mvT hZ (hw _ (wd 16 rfl))) (notFace_of_selects (args := #[]) (mvT hZ (hw _ (wd 18 rfl)))) (mvT hZ (hw _ (wd 18 rfl))) (mvT hZ (hw _ (wd 17 rfl))) (by decide) (backOf (W := 0) (wf_0 l Z a0 hw [] a_NEXT_KEY a_INSERT_INTENTION a_RECORD a_GAP G (0 : Int32) h0 n0 O0 ) hZ (hw _ (wd 19 rfl)) (hw _ (wd 5 rfl)) (by decide) (by decide)) q64a q64c (g := (mkF m 60 #[iv q1, iv q2, iv 0, iv 0, rv a_NEXT_KEY, iv 1, iv 1] [(.int 0), (.ref a_NEXT_KEY), (.ref a_INSERT_INTENTION)])) rfl (by rw [hml]; rfl) (Steps.refl _) (argsL := [(.ref a_NEXT_KEY), (.int 0)]) (rest := []) (lenOf pd_2 rfl) rfl (by show 2 * 0 + _ ≤ _; exact Nat.le_of_eq rfl) (hb hby at_60) (fun _ _ => ⟨rfl, e62, (by decide : 0 + 0 ≤ _), (by decide : 0 + 0 ≤ _)⟩)
      dsimp only [Pt.U, Pt.locs, Pt.cells, Pt.slots] at X64 l64 y64 z64 st64 hQ64
      subst l64 y64 z64
      obtain ⟨rfl, N64q, e64⟩ := hQ64
      have N64 := Fr.app N60 N64q
      have k_65 : Go p.tables e below (s₁.setTop (entryFrame m #[(.int q1), (.int q2)] maxLocals)) (T64.setTop (mkF m 73 #[iv q1, iv q2, iv 0, iv 0, rv a_NEXT_KEY, iv 1, iv 1] [(.int 1)])) := fun t q => by
        refine k_63 t ?_
        refine st64.trans ?_
        show Steps _ _ _ (T64.setTop (mkF m 63 #[iv q1, iv q2, iv 0, iv 0, rv a_NEXT_KEY, iv 1, iv 1] [(.int 1)])) _
        refine XS.iload X64.here hx rfl (hb hby at_63) rfl ?_
        show Steps _ _ _ (T64.setTop (mkF m 65 #[iv q1, iv q2, iv 0, iv 0, rv a_NEXT_KEY, iv 1, iv 1] [(.int 1), (.int 1)])) _
        refine XS.icmpNo X64.here hx rfl (hb hby at_65) rfl (by decide) ?_
        show Steps _ _ _ (T64.setTop (mkF m 68 #[iv q1, iv q2, iv 0, iv 0, rv a_NEXT_KEY, iv 1, iv 1] [])) _
        refine XS.iconst X64.here hx rfl (hb hby at_68) ?_
        show Steps _ _ _ (T64.setTop (mkF m 69 #[iv q1, iv q2, iv 0, iv 0, rv a_NEXT_KEY, iv 1, iv 1] [(.int 1)])) _
        refine XS.goto X64.here hx rfl (pc0 := 69) (pc' := 73) rfl (hb hby at_69) (by decide) (by decide) ?_
        show Steps _ _ _ (T64.setTop (mkF m 73 #[iv q1, iv q2, iv 0, iv 0, rv a_NEXT_KEY, iv 1, iv 1] [(.int 1)])) _
        exact q
      obtain ⟨fs, hr, hrun, hended, hW, hsame⟩ := X64.leave (v := some (.int 1)) (fun h => by rw [Bd.returns] at h; cases h)
      refine ⟨_, _, k_65 _ ?_, hrun, hended, _, _, rfl, ?_, ⟨_, rfl⟩, hW, hsame.mono (by decide) (by decide)⟩
      · exact retN X64 hx (t := .boolean) Bd.returns (by simp) (hb hby at_73) hr
      · show Q0 n0 _ T64.heap _
        rw [e64]
        exact ⟨rfl, N64⟩
    · skip
      have k_66 : Go p.tables e below (s₁.setTop (entryFrame m #[(.int q1), (.int q2)] maxLocals)) (s₁.setTop (mkF m 17 #[iv q1, iv q2, iv 0, iv 1, .unset, .unset, .unset] [(.int 0)])) := fun t q => by
        refine k0 t ?_
        refine XS.iloadN X0.here hx rfl (hb hby at_0) rfl ?_
        show Steps _ _ _ (s₁.setTop (mkF m 1 #[iv q1, iv q2, .unset, .unset, .unset, .unset, .unset] [(.int q1)])) _
        refine XS.iconst X0.here hx rfl (hb hby at_1) ?_
        show Steps _ _ _ (s₁.setTop (mkF m 2 #[iv q1, iv q2, .unset, .unset, .unset, .unset, .unset] [(.int 3), (.int q1)])) _
        refine XS.iand X0.here hx rfl (hb hby at_2) rfl ?_
        show Steps _ _ _ (s₁.setTop (mkF m 3 #[iv q1, iv q2, .unset, .unset, .unset, .unset, .unset] [(.int (q1 &&& (3 : Int32)))])) _
        rw [hi]
        show Steps _ _ _ (s₁.setTop (mkF m 3 #[iv q1, iv q2, .unset, .unset, .unset, .unset, .unset] [(.int 0)])) _
        refine XS.istoreN X0.here hx rfl (hb hby at_3) rfl (l' := #[iv q1, iv q2, iv 0, .unset, .unset, .unset, .unset]) rfl ?_
        show Steps _ _ _ (s₁.setTop (mkF m 4 #[iv q1, iv q2, iv 0, .unset, .unset, .unset, .unset] [])) _
        refine XS.iloadN X0.here hx rfl (hb hby at_4) rfl ?_
        show Steps _ _ _ (s₁.setTop (mkF m 5 #[iv q1, iv q2, iv 0, .unset, .unset, .unset, .unset] [(.int q2)])) _
        refine XS.iconst X0.here hx rfl (hb hby at_5) ?_
        show Steps _ _ _ (s₁.setTop (mkF m 6 #[iv q1, iv q2, iv 0, .unset, .unset, .unset, .unset] [(.int 1), (.int q2)])) _
        refine XS.iand X0.here hx rfl (hb hby at_6) rfl ?_
        show Steps _ _ _ (s₁.setTop (mkF m 7 #[iv q1, iv q2, iv 0, .unset, .unset, .unset, .unset] [(.int (q2 &&& (1 : Int32)))])) _
        rw [hj]
        show Steps _ _ _ (s₁.setTop (mkF m 7 #[iv q1, iv q2, iv 0, .unset, .unset, .unset, .unset] [(.int 1)])) _
        refine XS.ifNo X0.here hx rfl (hb hby at_7) rfl (by decide) ?_
        show Steps _ _ _ (s₁.setTop (mkF m 10 #[iv q1, iv q2, iv 0, .unset, .unset, .unset, .unset] [])) _
        refine XS.iconst X0.here hx rfl (hb hby at_10) ?_
        show Steps _ _ _ (s₁.setTop (mkF m 11 #[iv q1, iv q2, iv 0, .unset, .unset, .unset, .unset] [(.int 1)])) _
        refine XS.goto X0.here hx rfl (pc0 := 11) (pc' := 15) rfl (hb hby at_11) (by decide) (by decide) ?_
        show Steps _ _ _ (s₁.setTop (mkF m 15 #[iv q1, iv q2, iv 0, .unset, .unset, .unset, .unset] [(.int 1)])) _
        refine XS.istoreN X0.here hx rfl (hb hby at_15) rfl (l' := #[iv q1, iv q2, iv 0, iv 1, .unset, .unset, .unset]) rfl ?_
        show Steps _ _ _ (s₁.setTop (mkF m 16 #[iv q1, iv q2, iv 0, iv 1, .unset, .unset, .unset] [])) _
        refine XS.iloadN X0.here hx rfl (hb hby at_16) rfl ?_
        show Steps _ _ _ (s₁.setTop (mkF m 17 #[iv q1, iv q2, iv 0, iv 1, .unset, .unset, .unset] [(.int 0)])) _
        exact q
      obtain ⟨_, _, ⟨T67, L67, k67, n67⟩, -, X67, ⟨Lc67, hQ67, l67, y67, z67⟩, st67⟩ := Jvm.LawKit.callS X0 hx (y := y_0) hown (mvT hZ (hw _ (wd 0 rfl))) (mvT hZ (hw _ (wd 1 rfl))) (mvT hZ (hw _ (wd 2 rfl))) (mvT hZ (hw _ (wd 3 rfl))) (by decide) (backOf (W := 0) (pk_0 l Z a0 hw [] a_NEXT_KEY a_INSERT_INTENTION a_RECORD a_GAP G  h0 n0 O0 ) hZ (hw _ (wd 3 rfl)) (hw _ (wd 2 rfl)) (by decide) (by decide)) (g := (mkF m 17 #[iv q1, iv q2, iv 0, iv 1, .unset, .unset, .unset] [(.int 0)])) rfl (by rw [hml]; rfl) (argsL := [(.int 0)]) (rest := []) (lenOf pd_0 rfl) rfl (by show 2 * 0 + _ ≤ _; exact Nat.le_of_eq rfl) (hb hby at_17) (fun _ _ => ⟨rfl, e0, (by decide : 0 + 0 ≤ _), (by decide : 0 + 0 ≤ _)⟩)
      dsimp only [Pt.U, Pt.locs, Pt.cells, Pt.slots] at X67 l67 y67 z67 st67 hQ67
      subst l67 y67 z67
      obtain ⟨rfl, N67q, e67⟩ := hQ67
      have N67 := Fr.app N0 N67q
      have k_68 : Go p.tables e below (s₁.setTop (entryFrame m #[(.int q1), (.int q2)] maxLocals)) (T67.setTop (mkF m 40 #[iv q1, iv q2, iv 0, iv 1, rv a_NEXT_KEY, iv 1, .unset] [(.ref a_NEXT_KEY)])) := fun t q => by
        refine k_66 t ?_
        refine st67 _ ?_
        show Steps _ _ _ (T67.setTop (mkF m 20 #[iv q1, iv q2, iv 0, iv 1, .unset, .unset, .unset] [(.ref a_NEXT_KEY)])) _
        refine XS.astore X67.here hx rfl (hb hby at_20) rfl rfl (l' := #[iv q1, iv q2, iv 0, iv 1, rv a_NEXT_KEY, .unset, .unset]) rfl ?_
        show Steps _ _ _ (T67.setTop (mkF m 22 #[iv q1, iv q2, iv 0, iv 1, rv a_NEXT_KEY, .unset, .unset] [])) _
        refine XS.iloadN X67.here hx rfl (hb hby at_22) rfl ?_
        show Steps _ _ _ (T67.setTop (mkF m 23 #[iv q1, iv q2, iv 0, iv 1, rv a_NEXT_KEY, .unset, .unset] [(.int 0)])) _
        refine XS.ifYes X67.here hx rfl (pc0 := 23) (pc' := 31) rfl (hb hby at_23) rfl (by decide) (by decide) (by decide) ?_
        show Steps _ _ _ (T67.setTop (mkF m 31 #[iv q1, iv q2, iv 0, iv 1, rv a_NEXT_KEY, .unset, .unset] [])) _
        refine XS.iconst X67.here hx rfl (hb hby at_31) ?_
        show Steps _ _ _ (T67.setTop (mkF m 32 #[iv q1, iv q2, iv 0, iv 1, rv a_NEXT_KEY, .unset, .unset] [(.int 1)])) _
        refine XS.goto X67.here hx rfl (pc0 := 32) (pc' := 36) rfl (hb hby at_32) (by decide) (by decide) ?_
        show Steps _ _ _ (T67.setTop (mkF m 36 #[iv q1, iv q2, iv 0, iv 1, rv a_NEXT_KEY, .unset, .unset] [(.int 1)])) _
        refine XS.istore X67.here hx rfl (hb hby at_36) rfl (l' := #[iv q1, iv q2, iv 0, iv 1, rv a_NEXT_KEY, iv 1, .unset]) rfl ?_
        show Steps _ _ _ (T67.setTop (mkF m 38 #[iv q1, iv q2, iv 0, iv 1, rv a_NEXT_KEY, iv 1, .unset] [])) _
        refine XS.aload X67.here hx rfl (hb hby at_38) rfl rfl ?_
        show Steps _ _ _ (T67.setTop (mkF m 40 #[iv q1, iv q2, iv 0, iv 1, rv a_NEXT_KEY, iv 1, .unset] [(.ref a_NEXT_KEY)])) _
        exact q
      obtain ⟨cq69, kq69, q69a, q69b, q69c⟩ := isOf hZ e67 (Exa.ext O0.2 E_NEXT_KEY)
      obtain ⟨_, _, ⟨T69, L69, k69, n69⟩, -, X69, ⟨Lc69, hQ69, l69, y69, z69⟩, st69⟩ := X67.virtualBack hx (y := y_1) (z := y_1) hown (mvT hZ (hw _ (wd 7 rfl))) (mvT hZ (hw _ (wd 8 rfl))) (notFace_of_selects (args := #[]) (mvT hZ (hw _ (wd 10 rfl)))) (mvT hZ (hw _ (wd 10 rfl))) (mvT hZ (hw _ (wd 9 rfl))) (by decide) (backOf (W := 0) (lg_0 l Z a0 hw [] a_NEXT_KEY a_INSERT_INTENTION a_RECORD a_GAP G  h0 n0 O0 ) hZ (hw _ (wd 11 rfl)) (hw _ (wd 5 rfl)) (by decide) (by decide)) q69a q69c (g := (mkF m 40 #[iv q1, iv q2, iv 0, iv 1, rv a_NEXT_KEY, iv 1, .unset] [(.ref a_NEXT_KEY)])) rfl (by rw [hml]; rfl) (Steps.refl _) (argsL := []) (rest := []) (lenOf pd_1 rfl) rfl (by show 2 * 0 + _ ≤ _; exact Nat.le_of_eq rfl) (hb hby at_40) (fun _ _ => ⟨rfl, e67, (by decide : 0 + 0 ≤ _), (by decide : 0 + 0 ≤ _)⟩)
      dsimp only [Pt.U, Pt.locs, Pt.cells, Pt.slots] at X69 l69 y69 z69 st69 hQ69
      subst l69 y69 z69
      obtain ⟨rfl, N69q, e69⟩ := hQ69
      have N69 := Fr.app N67 N69q
      have k_70 : Go p.tables e below (s₁.setTop (entryFrame m #[(.int q1), (.int q2)] maxLocals)) (T69.setTop (mkF m 54 #[iv q1, iv q2, iv 0, iv 1, rv a_NEXT_KEY, iv 1, iv 1] [])) := fun t q => by
        refine k_68 t ?_
        refine st69.trans ?_
        show Steps _ _ _ (T69.setTop (mkF m 43 #[iv q1, iv q2, iv 0, iv 1, rv a_NEXT_KEY, iv 1, .unset] [(.int 1)])) _
        refine XS.istore X69.here hx rfl (hb hby at_43) rfl (l' := #[iv q1, iv q2, iv 0, iv 1, rv a_NEXT_KEY, iv 1, iv 1]) rfl ?_
        show Steps _ _ _ (T69.setTop (mkF m 45 #[iv q1, iv q2, iv 0, iv 1, rv a_NEXT_KEY, iv 1, iv 1] [])) _
        refine XS.iload X69.here hx rfl (hb hby at_45) rfl ?_
        show Steps _ _ _ (T69.setTop (mkF m 47 #[iv q1, iv q2, iv 0, iv 1, rv a_NEXT_KEY, iv 1, iv 1] [(.int 1)])) _
        refine XS.iload X69.here hx rfl (hb hby at_47) rfl ?_
        show Steps _ _ _ (T69.setTop (mkF m 49 #[iv q1, iv q2, iv 0, iv 1, rv a_NEXT_KEY, iv 1, iv 1] [(.int 1), (.int 1)])) _
        refine XS.icmpYes X69.here hx rfl (pc0 := 49) (pc' := 54) rfl (hb hby at_49) rfl (by decide) (by decide) (by decide) ?_
        show Steps _ _ _ (T69.setTop (mkF m 54 #[iv q1, iv q2, iv 0, iv 1, rv a_NEXT_KEY, iv 1, iv 1] [])) _
        exact q
      obtain ⟨T71, X71, e71, st71⟩ := getS2 X69 hx hZ hown (host := "") (Or.inl (hw _ (wd 13 rfl))) Via.refl e69 (S_INSERT_INTENTION.ext O0.2) (g := (mkF m 54 #[iv q1, iv q2, iv 0, iv 1, rv a_NEXT_KEY, iv 1, iv 1] [])) rfl (hb hby at_54)
      have k_72 : Go p.tables e below (s₁.setTop (entryFrame m #[(.int q1), (.int q2)] maxLocals)) (T71.setTop (mkF m 60 #[iv q1, iv q2, iv 0, iv 1, rv a_NEXT_KEY, iv 1, iv 1] [(.int 1), (.ref a_NEXT_KEY), (.ref a_INSERT_INTENTION)])) := fun t q => by
        refine k_70 t ?_
        refine st71 _ ?_
        show Steps _ _ _ (T71.setTop (mkF m 57 #[iv q1, iv q2, iv 0, iv 1, rv a_NEXT_KEY, iv 1, iv 1] [(.ref a_INSERT_INTENTION)])) _
        refine XS.aload X71.here hx rfl (hb hby at_57) rfl rfl ?_
        show Steps _ _ _ (T71.setTop (mkF m 59 #[iv q1, iv q2, iv 0, iv 1, rv a_NEXT_KEY, iv 1, iv 1] [(.ref a_NEXT_KEY), (.ref a_INSERT_INTENTION)])) _
        refine XS.iloadN X71.here hx rfl (hb hby at_59) rfl ?_
        show Steps _ _ _ (T71.setTop (mkF m 60 #[iv q1, iv q2, iv 0, iv 1, rv a_NEXT_KEY, iv 1, iv 1] [(.int 1), (.ref a_NEXT_KEY), (.ref a_INSERT_INTENTION)])) _
        exact q
      obtain ⟨cq73, kq73, q73a, q73b, q73c⟩ := isOf hZ e71 (Exa.ext O0.2 E_INSERT_INTENTION)
      obtain ⟨_, _, ⟨T73, L73, k73, n73⟩, -, X73, ⟨Lc73, hQ73, l73, y73, z73⟩, st73⟩ := X71.virtualBack hx (y := y_2) (z := y_2) hown (mvT hZ (hw _ (wd 15 rfl))) (mvT hZ (hw _ (wd 16 rfl))) (notFace_of_selects (args := #[]) (mvT hZ (hw _ (wd 18 rfl)))) (mvT hZ (hw _ (wd 18 rfl))) (mvT hZ (hw _ (wd 17 rfl))) (by decide) (backOf (W := 0) (wf_0 l Z a0 hw [] a_NEXT_KEY a_INSERT_INTENTION a_RECORD a_GAP G (1 : Int32) h0 n0 O0 ) hZ (hw _ (wd 19 rfl)) (hw _ (wd 5 rfl)) (by decide) (by decide)) q73a q73c (g := (mkF m 60 #[iv q1, iv q2, iv 0, iv 1, rv a_NEXT_KEY, iv 1, iv 1] [(.int 1), (.ref a_NEXT_KEY), (.ref a_INSERT_INTENTION)])) rfl (by rw [hml]; rfl) (Steps.refl _) (argsL := [(.ref a_NEXT_KEY), (.int 1)]) (rest := []) (lenOf pd_2 rfl) rfl (by show 2 * 0 + _ ≤ _; exact Nat.le_of_eq rfl) (hb hby at_60) (fun _ _ => ⟨rfl, e71, (by decide : 0 + 0 ≤ _), (by decide : 0 + 0 ≤ _)⟩)
      dsimp only [Pt.U, Pt.locs, Pt.cells, Pt.slots] at X73 l73 y73 z73 st73 hQ73
      subst l73 y73 z73
      obtain ⟨rfl, N73q, e73⟩ := hQ73
      have N73 := Fr.app N69 N73q
      have k_74 : Go p.tables e below (s₁.setTop (entryFrame m #[(.int q1), (.int q2)] maxLocals)) (T73.setTop (mkF m 73 #[iv q1, iv q2, iv 0, iv 1, rv a_NEXT_KEY, iv 1, iv 1] [(.int 1)])) := fun t q => by
        refine k_72 t ?_
        refine st73.trans ?_
        show Steps _ _ _ (T73.setTop (mkF m 63 #[iv q1, iv q2, iv 0, iv 1, rv a_NEXT_KEY, iv 1, iv 1] [(.int 1)])) _
        refine XS.iload X73.here hx rfl (hb hby at_63) rfl ?_
        show Steps _ _ _ (T73.setTop (mkF m 65 #[iv q1, iv q2, iv 0, iv 1, rv a_NEXT_KEY, iv 1, iv 1] [(.int 1), (.int 1)])) _
        refine XS.icmpNo X73.here hx rfl (hb hby at_65) rfl (by decide) ?_
        show Steps _ _ _ (T73.setTop (mkF m 68 #[iv q1, iv q2, iv 0, iv 1, rv a_NEXT_KEY, iv 1, iv 1] [])) _
        refine XS.iconst X73.here hx rfl (hb hby at_68) ?_
        show Steps _ _ _ (T73.setTop (mkF m 69 #[iv q1, iv q2, iv 0, iv 1, rv a_NEXT_KEY, iv 1, iv 1] [(.int 1)])) _
        refine XS.goto X73.here hx rfl (pc0 := 69) (pc' := 73) rfl (hb hby at_69) (by decide) (by decide) ?_
        show Steps _ _ _ (T73.setTop (mkF m 73 #[iv q1, iv q2, iv 0, iv 1, rv a_NEXT_KEY, iv 1, iv 1] [(.int 1)])) _
        exact q
      obtain ⟨fs, hr, hrun, hended, hW, hsame⟩ := X73.leave (v := some (.int 1)) (fun h => by rw [Bd.returns] at h; cases h)
      refine ⟨_, _, k_74 _ ?_, hrun, hended, _, _, rfl, ?_, ⟨_, rfl⟩, hW, hsame.mono (by decide) (by decide)⟩
      · exact retN X73 hx (t := .boolean) Bd.returns (by simp) (hb hby at_73) hr
      · show Q0 n0 _ T73.heap _
        rw [e73]
        exact ⟨rfl, N73⟩
  · skip
    rcases and_one q2 with hj | hj
    · skip
      have k_75 : Go p.tables e below (s₁.setTop (entryFrame m #[(.int q1), (.int q2)] maxLocals)) (s₁.setTop (mkF m 17 #[iv q1, iv q2, iv 1, iv 0, .unset, .unset, .unset] [(.int 1)])) := fun t q => by
        refine k0 t ?_
        refine XS.iloadN X0.here hx rfl (hb hby at_0) rfl ?_
        show Steps _ _ _ (s₁.setTop (mkF m 1 #[iv q1, iv q2, .unset, .unset, .unset, .unset, .unset] [(.int q1)])) _
        refine XS.iconst X0.here hx rfl (hb hby at_1) ?_
        show Steps _ _ _ (s₁.setTop (mkF m 2 #[iv q1, iv q2, .unset, .unset, .unset, .unset, .unset] [(.int 3), (.int q1)])) _
        refine XS.iand X0.here hx rfl (hb hby at_2) rfl ?_
        show Steps _ _ _ (s₁.setTop (mkF m 3 #[iv q1, iv q2, .unset, .unset, .unset, .unset, .unset] [(.int (q1 &&& (3 : Int32)))])) _
        rw [hi]
        show Steps _ _ _ (s₁.setTop (mkF m 3 #[iv q1, iv q2, .unset, .unset, .unset, .unset, .unset] [(.int 1)])) _
        refine XS.istoreN X0.here hx rfl (hb hby at_3) rfl (l' := #[iv q1, iv q2, iv 1, .unset, .unset, .unset, .unset]) rfl ?_
        show Steps _ _ _ (s₁.setTop (mkF m 4 #[iv q1, iv q2, iv 1, .unset, .unset, .unset, .unset] [])) _
        refine XS.iloadN X0.here hx rfl (hb hby at_4) rfl ?_
        show Steps _ _ _ (s₁.setTop (mkF m 5 #[iv q1, iv q2, iv 1, .unset, .unset, .unset, .unset] [(.int q2)])) _
        refine XS.iconst X0.here hx rfl (hb hby at_5) ?_
        show Steps _ _ _ (s₁.setTop (mkF m 6 #[iv q1, iv q2, iv 1, .unset, .unset, .unset, .unset] [(.int 1), (.int q2)])) _
        refine XS.iand X0.here hx rfl (hb hby at_6) rfl ?_
        show Steps _ _ _ (s₁.setTop (mkF m 7 #[iv q1, iv q2, iv 1, .unset, .unset, .unset, .unset] [(.int (q2 &&& (1 : Int32)))])) _
        rw [hj]
        show Steps _ _ _ (s₁.setTop (mkF m 7 #[iv q1, iv q2, iv 1, .unset, .unset, .unset, .unset] [(.int 0)])) _
        refine XS.ifYes X0.here hx rfl (pc0 := 7) (pc' := 14) rfl (hb hby at_7) rfl (by decide) (by decide) (by decide) ?_
        show Steps _ _ _ (s₁.setTop (mkF m 14 #[iv q1, iv q2, iv 1, .unset, .unset, .unset, .unset] [])) _
        refine XS.iconst X0.here hx rfl (hb hby at_14) ?_
        show Steps _ _ _ (s₁.setTop (mkF m 15 #[iv q1, iv q2, iv 1, .unset, .unset, .unset, .unset] [(.int 0)])) _
        refine XS.istoreN X0.here hx rfl (hb hby at_15) rfl (l' := #[iv q1, iv q2, iv 1, iv 0, .unset, .unset, .unset]) rfl ?_
        show Steps _ _ _ (s₁.setTop (mkF m 16 #[iv q1, iv q2, iv 1, iv 0, .unset, .unset, .unset] [])) _
        refine XS.iloadN X0.here hx rfl (hb hby at_16) rfl ?_
        show Steps _ _ _ (s₁.setTop (mkF m 17 #[iv q1, iv q2, iv 1, iv 0, .unset, .unset, .unset] [(.int 1)])) _
        exact q
      obtain ⟨_, _, ⟨T76, L76, k76, n76⟩, -, X76, ⟨Lc76, hQ76, l76, y76, z76⟩, st76⟩ := Jvm.LawKit.callS X0 hx (y := y_0) hown (mvT hZ (hw _ (wd 0 rfl))) (mvT hZ (hw _ (wd 1 rfl))) (mvT hZ (hw _ (wd 2 rfl))) (mvT hZ (hw _ (wd 3 rfl))) (by decide) (backOf (W := 0) (pk_1 l Z a0 hw [] a_NEXT_KEY a_INSERT_INTENTION a_RECORD a_GAP G  h0 n0 O0 ) hZ (hw _ (wd 3 rfl)) (hw _ (wd 2 rfl)) (by decide) (by decide)) (g := (mkF m 17 #[iv q1, iv q2, iv 1, iv 0, .unset, .unset, .unset] [(.int 1)])) rfl (by rw [hml]; rfl) (argsL := [(.int 1)]) (rest := []) (lenOf pd_0 rfl) rfl (by show 2 * 0 + _ ≤ _; exact Nat.le_of_eq rfl) (hb hby at_17) (fun _ _ => ⟨rfl, e0, (by decide : 0 + 0 ≤ _), (by decide : 0 + 0 ≤ _)⟩)
      dsimp only [Pt.U, Pt.locs, Pt.cells, Pt.slots] at X76 l76 y76 z76 st76 hQ76
      subst l76 y76 z76
      obtain ⟨rfl, N76q, e76⟩ := hQ76
      have N76 := Fr.app N0 N76q
      have k_77 : Go p.tables e below (s₁.setTop (entryFrame m #[(.int q1), (.int q2)] maxLocals)) (T76.setTop (mkF m 40 #[iv q1, iv q2, iv 1, iv 0, rv a_GAP, iv 1, .unset] [(.ref a_GAP)])) := fun t q => by
        refine k_75 t ?_
        refine st76 _ ?_
        show Steps _ _ _ (T76.setTop (mkF m 20 #[iv q1, iv q2, iv 1, iv 0, .unset, .unset, .unset] [(.ref a_GAP)])) _
        refine XS.astore X76.here hx rfl (hb hby at_20) rfl rfl (l' := #[iv q1, iv q2, iv 1, iv 0, rv a_GAP, .unset, .unset]) rfl ?_
        show Steps _ _ _ (T76.setTop (mkF m 22 #[iv q1, iv q2, iv 1, iv 0, rv a_GAP, .unset, .unset] [])) _
        refine XS.iloadN X76.here hx rfl (hb hby at_22) rfl ?_
        show Steps _ _ _ (T76.setTop (mkF m 23 #[iv q1, iv q2, iv 1, iv 0, rv a_GAP, .unset, .unset] [(.int 1)])) _
        refine XS.ifNo X76.here hx rfl (hb hby at_23) rfl (by decide) ?_
        show Steps _ _ _ (T76.setTop (mkF m 26 #[iv q1, iv q2, iv 1, iv 0, rv a_GAP, .unset, .unset] [])) _
        refine XS.iloadN X76.here hx rfl (hb hby at_26) rfl ?_
        show Steps _ _ _ (T76.setTop (mkF m 27 #[iv q1, iv q2, iv 1, iv 0, rv a_GAP, .unset, .unset] [(.int 1)])) _
        refine XS.iconst X76.here hx rfl (hb hby at_27) ?_
        show Steps _ _ _ (T76.setTop (mkF m 28 #[iv q1, iv q2, iv 1, iv 0, rv a_GAP, .unset, .unset] [(.int 1), (.int 1)])) _
        refine XS.icmpNo X76.here hx rfl (hb hby at_28) rfl (by decide) ?_
        show Steps _ _ _ (T76.setTop (mkF m 31 #[iv q1, iv q2, iv 1, iv 0, rv a_GAP, .unset, .unset] [])) _
        refine XS.iconst X76.here hx rfl (hb hby at_31) ?_
        show Steps _ _ _ (T76.setTop (mkF m 32 #[iv q1, iv q2, iv 1, iv 0, rv a_GAP, .unset, .unset] [(.int 1)])) _
        refine XS.goto X76.here hx rfl (pc0 := 32) (pc' := 36) rfl (hb hby at_32) (by decide) (by decide) ?_
        show Steps _ _ _ (T76.setTop (mkF m 36 #[iv q1, iv q2, iv 1, iv 0, rv a_GAP, .unset, .unset] [(.int 1)])) _
        refine XS.istore X76.here hx rfl (hb hby at_36) rfl (l' := #[iv q1, iv q2, iv 1, iv 0, rv a_GAP, iv 1, .unset]) rfl ?_
        show Steps _ _ _ (T76.setTop (mkF m 38 #[iv q1, iv q2, iv 1, iv 0, rv a_GAP, iv 1, .unset] [])) _
        refine XS.aload X76.here hx rfl (hb hby at_38) rfl rfl ?_
        show Steps _ _ _ (T76.setTop (mkF m 40 #[iv q1, iv q2, iv 1, iv 0, rv a_GAP, iv 1, .unset] [(.ref a_GAP)])) _
        exact q
      obtain ⟨cq78, kq78, q78a, q78b, q78c⟩ := isOf hZ e76 (Exa.ext O0.2 E_GAP)
      obtain ⟨_, _, ⟨T78, L78, k78, n78⟩, -, X78, ⟨Lc78, hQ78, l78, y78, z78⟩, st78⟩ := X76.virtualBack hx (y := y_1) (z := y_1) hown (mvT hZ (hw _ (wd 7 rfl))) (mvT hZ (hw _ (wd 8 rfl))) (notFace_of_selects (args := #[]) (mvT hZ (hw _ (wd 10 rfl)))) (mvT hZ (hw _ (wd 10 rfl))) (mvT hZ (hw _ (wd 9 rfl))) (by decide) (backOf (W := 0) (lg_1 l Z a0 hw [] a_NEXT_KEY a_INSERT_INTENTION a_RECORD a_GAP G  h0 n0 O0 ) hZ (hw _ (wd 11 rfl)) (hw _ (wd 5 rfl)) (by decide) (by decide)) q78a q78c (g := (mkF m 40 #[iv q1, iv q2, iv 1, iv 0, rv a_GAP, iv 1, .unset] [(.ref a_GAP)])) rfl (by rw [hml]; rfl) (Steps.refl _) (argsL := []) (rest := []) (lenOf pd_1 rfl) rfl (by show 2 * 0 + _ ≤ _; exact Nat.le_of_eq rfl) (hb hby at_40) (fun _ _ => ⟨rfl, e76, (by decide : 0 + 0 ≤ _), (by decide : 0 + 0 ≤ _)⟩)
      dsimp only [Pt.U, Pt.locs, Pt.cells, Pt.slots] at X78 l78 y78 z78 st78 hQ78
      subst l78 y78 z78
      obtain ⟨rfl, N78q, e78⟩ := hQ78
      have N78 := Fr.app N76 N78q
      have k_79 : Go p.tables e below (s₁.setTop (entryFrame m #[(.int q1), (.int q2)] maxLocals)) (T78.setTop (mkF m 54 #[iv q1, iv q2, iv 1, iv 0, rv a_GAP, iv 1, iv 1] [])) := fun t q => by
        refine k_77 t ?_
        refine st78.trans ?_
        show Steps _ _ _ (T78.setTop (mkF m 43 #[iv q1, iv q2, iv 1, iv 0, rv a_GAP, iv 1, .unset] [(.int 1)])) _
        refine XS.istore X78.here hx rfl (hb hby at_43) rfl (l' := #[iv q1, iv q2, iv 1, iv 0, rv a_GAP, iv 1, iv 1]) rfl ?_
        show Steps _ _ _ (T78.setTop (mkF m 45 #[iv q1, iv q2, iv 1, iv 0, rv a_GAP, iv 1, iv 1] [])) _
        refine XS.iload X78.here hx rfl (hb hby at_45) rfl ?_
        show Steps _ _ _ (T78.setTop (mkF m 47 #[iv q1, iv q2, iv 1, iv 0, rv a_GAP, iv 1, iv 1] [(.int 1)])) _
        refine XS.iload X78.here hx rfl (hb hby at_47) rfl ?_
        show Steps _ _ _ (T78.setTop (mkF m 49 #[iv q1, iv q2, iv 1, iv 0, rv a_GAP, iv 1, iv 1] [(.int 1), (.int 1)])) _
        refine XS.icmpYes X78.here hx rfl (pc0 := 49) (pc' := 54) rfl (hb hby at_49) rfl (by decide) (by decide) (by decide) ?_
        show Steps _ _ _ (T78.setTop (mkF m 54 #[iv q1, iv q2, iv 1, iv 0, rv a_GAP, iv 1, iv 1] [])) _
        exact q
      obtain ⟨T80, X80, e80, st80⟩ := getS2 X78 hx hZ hown (host := "") (Or.inl (hw _ (wd 13 rfl))) Via.refl e78 (S_INSERT_INTENTION.ext O0.2) (g := (mkF m 54 #[iv q1, iv q2, iv 1, iv 0, rv a_GAP, iv 1, iv 1] [])) rfl (hb hby at_54)
      have k_81 : Go p.tables e below (s₁.setTop (entryFrame m #[(.int q1), (.int q2)] maxLocals)) (T80.setTop (mkF m 60 #[iv q1, iv q2, iv 1, iv 0, rv a_GAP, iv 1, iv 1] [(.int 0), (.ref a_GAP), (.ref a_INSERT_INTENTION)])) := fun t q => by
        refine k_79 t ?_
        refine st80 _ ?_
        show Steps _ _ _ (T80.setTop (mkF m 57 #[iv q1, iv q2, iv 1, iv 0, rv a_GAP, iv 1, iv 1] [(.ref a_INSERT_INTENTION)])) _
        refine XS.aload X80.here hx rfl (hb hby at_57) rfl rfl ?_
        show Steps _ _ _ (T80.setTop (mkF m 59 #[iv q1, iv q2, iv 1, iv 0, rv a_GAP, iv 1, iv 1] [(.ref a_GAP), (.ref a_INSERT_INTENTION)])) _
        refine XS.iloadN X80.here hx rfl (hb hby at_59) rfl ?_
        show Steps _ _ _ (T80.setTop (mkF m 60 #[iv q1, iv q2, iv 1, iv 0, rv a_GAP, iv 1, iv 1] [(.int 0), (.ref a_GAP), (.ref a_INSERT_INTENTION)])) _
        exact q
      obtain ⟨cq82, kq82, q82a, q82b, q82c⟩ := isOf hZ e80 (Exa.ext O0.2 E_INSERT_INTENTION)
      obtain ⟨_, _, ⟨T82, L82, k82, n82⟩, -, X82, ⟨Lc82, hQ82, l82, y82, z82⟩, st82⟩ := X80.virtualBack hx (y := y_2) (z := y_2) hown (mvT hZ (hw _ (wd 15 rfl))) (mvT hZ (hw _ (wd 16 rfl))) (notFace_of_selects (args := #[]) (mvT hZ (hw _ (wd 18 rfl)))) (mvT hZ (hw _ (wd 18 rfl))) (mvT hZ (hw _ (wd 17 rfl))) (by decide) (backOf (W := 0) (wf_1 l Z a0 hw [] a_NEXT_KEY a_INSERT_INTENTION a_RECORD a_GAP G (0 : Int32) h0 n0 O0 ) hZ (hw _ (wd 19 rfl)) (hw _ (wd 5 rfl)) (by decide) (by decide)) q82a q82c (g := (mkF m 60 #[iv q1, iv q2, iv 1, iv 0, rv a_GAP, iv 1, iv 1] [(.int 0), (.ref a_GAP), (.ref a_INSERT_INTENTION)])) rfl (by rw [hml]; rfl) (Steps.refl _) (argsL := [(.ref a_GAP), (.int 0)]) (rest := []) (lenOf pd_2 rfl) rfl (by show 2 * 0 + _ ≤ _; exact Nat.le_of_eq rfl) (hb hby at_60) (fun _ _ => ⟨rfl, e80, (by decide : 0 + 0 ≤ _), (by decide : 0 + 0 ≤ _)⟩)
      dsimp only [Pt.U, Pt.locs, Pt.cells, Pt.slots] at X82 l82 y82 z82 st82 hQ82
      subst l82 y82 z82
      obtain ⟨rfl, N82q, e82⟩ := hQ82
      have N82 := Fr.app N78 N82q
      have k_83 : Go p.tables e below (s₁.setTop (entryFrame m #[(.int q1), (.int q2)] maxLocals)) (T82.setTop (mkF m 73 #[iv q1, iv q2, iv 1, iv 0, rv a_GAP, iv 1, iv 1] [(.int 1)])) := fun t q => by
        refine k_81 t ?_
        refine st82.trans ?_
        show Steps _ _ _ (T82.setTop (mkF m 63 #[iv q1, iv q2, iv 1, iv 0, rv a_GAP, iv 1, iv 1] [(.int 1)])) _
        refine XS.iload X82.here hx rfl (hb hby at_63) rfl ?_
        show Steps _ _ _ (T82.setTop (mkF m 65 #[iv q1, iv q2, iv 1, iv 0, rv a_GAP, iv 1, iv 1] [(.int 1), (.int 1)])) _
        refine XS.icmpNo X82.here hx rfl (hb hby at_65) rfl (by decide) ?_
        show Steps _ _ _ (T82.setTop (mkF m 68 #[iv q1, iv q2, iv 1, iv 0, rv a_GAP, iv 1, iv 1] [])) _
        refine XS.iconst X82.here hx rfl (hb hby at_68) ?_
        show Steps _ _ _ (T82.setTop (mkF m 69 #[iv q1, iv q2, iv 1, iv 0, rv a_GAP, iv 1, iv 1] [(.int 1)])) _
        refine XS.goto X82.here hx rfl (pc0 := 69) (pc' := 73) rfl (hb hby at_69) (by decide) (by decide) ?_
        show Steps _ _ _ (T82.setTop (mkF m 73 #[iv q1, iv q2, iv 1, iv 0, rv a_GAP, iv 1, iv 1] [(.int 1)])) _
        exact q
      obtain ⟨fs, hr, hrun, hended, hW, hsame⟩ := X82.leave (v := some (.int 1)) (fun h => by rw [Bd.returns] at h; cases h)
      refine ⟨_, _, k_83 _ ?_, hrun, hended, _, _, rfl, ?_, ⟨_, rfl⟩, hW, hsame.mono (by decide) (by decide)⟩
      · exact retN X82 hx (t := .boolean) Bd.returns (by simp) (hb hby at_73) hr
      · show Q0 n0 _ T82.heap _
        rw [e82]
        exact ⟨rfl, N82⟩
    · skip
      have k_84 : Go p.tables e below (s₁.setTop (entryFrame m #[(.int q1), (.int q2)] maxLocals)) (s₁.setTop (mkF m 17 #[iv q1, iv q2, iv 1, iv 1, .unset, .unset, .unset] [(.int 1)])) := fun t q => by
        refine k0 t ?_
        refine XS.iloadN X0.here hx rfl (hb hby at_0) rfl ?_
        show Steps _ _ _ (s₁.setTop (mkF m 1 #[iv q1, iv q2, .unset, .unset, .unset, .unset, .unset] [(.int q1)])) _
        refine XS.iconst X0.here hx rfl (hb hby at_1) ?_
        show Steps _ _ _ (s₁.setTop (mkF m 2 #[iv q1, iv q2, .unset, .unset, .unset, .unset, .unset] [(.int 3), (.int q1)])) _
        refine XS.iand X0.here hx rfl (hb hby at_2) rfl ?_
        show Steps _ _ _ (s₁.setTop (mkF m 3 #[iv q1, iv q2, .unset, .unset, .unset, .unset, .unset] [(.int (q1 &&& (3 : Int32)))])) _
        rw [hi]
        show Steps _ _ _ (s₁.setTop (mkF m 3 #[iv q1, iv q2, .unset, .unset, .unset, .unset, .unset] [(.int 1)])) _
        refine XS.istoreN X0.here hx rfl (hb hby at_3) rfl (l' := #[iv q1, iv q2, iv 1, .unset, .unset, .unset, .unset]) rfl ?_
        show Steps _ _ _ (s₁.setTop (mkF m 4 #[iv q1, iv q2, iv 1, .unset, .unset, .unset, .unset] [])) _
        refine XS.iloadN X0.here hx rfl (hb hby at_4) rfl ?_
        show Steps _ _ _ (s₁.setTop (mkF m 5 #[iv q1, iv q2, iv 1, .unset, .unset, .unset, .unset] [(.int q2)])) _
        refine XS.iconst X0.here hx rfl (hb hby at_5) ?_
        show Steps _ _ _ (s₁.setTop (mkF m 6 #[iv q1, iv q2, iv 1, .unset, .unset, .unset, .unset] [(.int 1), (.int q2)])) _
        refine XS.iand X0.here hx rfl (hb hby at_6) rfl ?_
        show Steps _ _ _ (s₁.setTop (mkF m 7 #[iv q1, iv q2, iv 1, .unset, .unset, .unset, .unset] [(.int (q2 &&& (1 : Int32)))])) _
        rw [hj]
        show Steps _ _ _ (s₁.setTop (mkF m 7 #[iv q1, iv q2, iv 1, .unset, .unset, .unset, .unset] [(.int 1)])) _
        refine XS.ifNo X0.here hx rfl (hb hby at_7) rfl (by decide) ?_
        show Steps _ _ _ (s₁.setTop (mkF m 10 #[iv q1, iv q2, iv 1, .unset, .unset, .unset, .unset] [])) _
        refine XS.iconst X0.here hx rfl (hb hby at_10) ?_
        show Steps _ _ _ (s₁.setTop (mkF m 11 #[iv q1, iv q2, iv 1, .unset, .unset, .unset, .unset] [(.int 1)])) _
        refine XS.goto X0.here hx rfl (pc0 := 11) (pc' := 15) rfl (hb hby at_11) (by decide) (by decide) ?_
        show Steps _ _ _ (s₁.setTop (mkF m 15 #[iv q1, iv q2, iv 1, .unset, .unset, .unset, .unset] [(.int 1)])) _
        refine XS.istoreN X0.here hx rfl (hb hby at_15) rfl (l' := #[iv q1, iv q2, iv 1, iv 1, .unset, .unset, .unset]) rfl ?_
        show Steps _ _ _ (s₁.setTop (mkF m 16 #[iv q1, iv q2, iv 1, iv 1, .unset, .unset, .unset] [])) _
        refine XS.iloadN X0.here hx rfl (hb hby at_16) rfl ?_
        show Steps _ _ _ (s₁.setTop (mkF m 17 #[iv q1, iv q2, iv 1, iv 1, .unset, .unset, .unset] [(.int 1)])) _
        exact q
      obtain ⟨_, _, ⟨T85, L85, k85, n85⟩, -, X85, ⟨Lc85, hQ85, l85, y85, z85⟩, st85⟩ := Jvm.LawKit.callS X0 hx (y := y_0) hown (mvT hZ (hw _ (wd 0 rfl))) (mvT hZ (hw _ (wd 1 rfl))) (mvT hZ (hw _ (wd 2 rfl))) (mvT hZ (hw _ (wd 3 rfl))) (by decide) (backOf (W := 0) (pk_1 l Z a0 hw [] a_NEXT_KEY a_INSERT_INTENTION a_RECORD a_GAP G  h0 n0 O0 ) hZ (hw _ (wd 3 rfl)) (hw _ (wd 2 rfl)) (by decide) (by decide)) (g := (mkF m 17 #[iv q1, iv q2, iv 1, iv 1, .unset, .unset, .unset] [(.int 1)])) rfl (by rw [hml]; rfl) (argsL := [(.int 1)]) (rest := []) (lenOf pd_0 rfl) rfl (by show 2 * 0 + _ ≤ _; exact Nat.le_of_eq rfl) (hb hby at_17) (fun _ _ => ⟨rfl, e0, (by decide : 0 + 0 ≤ _), (by decide : 0 + 0 ≤ _)⟩)
      dsimp only [Pt.U, Pt.locs, Pt.cells, Pt.slots] at X85 l85 y85 z85 st85 hQ85
      subst l85 y85 z85
      obtain ⟨rfl, N85q, e85⟩ := hQ85
      have N85 := Fr.app N0 N85q
      have k_86 : Go p.tables e below (s₁.setTop (entryFrame m #[(.int q1), (.int q2)] maxLocals)) (T85.setTop (mkF m 40 #[iv q1, iv q2, iv 1, iv 1, rv a_GAP, iv 1, .unset] [(.ref a_GAP)])) := fun t q => by
        refine k_84 t ?_
        refine st85 _ ?_
        show Steps _ _ _ (T85.setTop (mkF m 20 #[iv q1, iv q2, iv 1, iv 1, .unset, .unset, .unset] [(.ref a_GAP)])) _
        refine XS.astore X85.here hx rfl (hb hby at_20) rfl rfl (l' := #[iv q1, iv q2, iv 1, iv 1, rv a_GAP, .unset, .unset]) rfl ?_
        show Steps _ _ _ (T85.setTop (mkF m 22 #[iv q1, iv q2, iv 1, iv 1, rv a_GAP, .unset, .unset] [])) _
        refine XS.iloadN X85.here hx rfl (hb hby at_22) rfl ?_
        show Steps _ _ _ (T85.setTop (mkF m 23 #[iv q1, iv q2, iv 1, iv 1, rv a_GAP, .unset, .unset] [(.int 1)])) _
        refine XS.ifNo X85.here hx rfl (hb hby at_23) rfl (by decide) ?_
        show Steps _ _ _ (T85.setTop (mkF m 26 #[iv q1, iv q2, iv 1, iv 1, rv a_GAP, .unset, .unset] [])) _
        refine XS.iloadN X85.here hx rfl (hb hby at_26) rfl ?_
        show Steps _ _ _ (T85.setTop (mkF m 27 #[iv q1, iv q2, iv 1, iv 1, rv a_GAP, .unset, .unset] [(.int 1)])) _
        refine XS.iconst X85.here hx rfl (hb hby at_27) ?_
        show Steps _ _ _ (T85.setTop (mkF m 28 #[iv q1, iv q2, iv 1, iv 1, rv a_GAP, .unset, .unset] [(.int 1), (.int 1)])) _
        refine XS.icmpNo X85.here hx rfl (hb hby at_28) rfl (by decide) ?_
        show Steps _ _ _ (T85.setTop (mkF m 31 #[iv q1, iv q2, iv 1, iv 1, rv a_GAP, .unset, .unset] [])) _
        refine XS.iconst X85.here hx rfl (hb hby at_31) ?_
        show Steps _ _ _ (T85.setTop (mkF m 32 #[iv q1, iv q2, iv 1, iv 1, rv a_GAP, .unset, .unset] [(.int 1)])) _
        refine XS.goto X85.here hx rfl (pc0 := 32) (pc' := 36) rfl (hb hby at_32) (by decide) (by decide) ?_
        show Steps _ _ _ (T85.setTop (mkF m 36 #[iv q1, iv q2, iv 1, iv 1, rv a_GAP, .unset, .unset] [(.int 1)])) _
        refine XS.istore X85.here hx rfl (hb hby at_36) rfl (l' := #[iv q1, iv q2, iv 1, iv 1, rv a_GAP, iv 1, .unset]) rfl ?_
        show Steps _ _ _ (T85.setTop (mkF m 38 #[iv q1, iv q2, iv 1, iv 1, rv a_GAP, iv 1, .unset] [])) _
        refine XS.aload X85.here hx rfl (hb hby at_38) rfl rfl ?_
        show Steps _ _ _ (T85.setTop (mkF m 40 #[iv q1, iv q2, iv 1, iv 1, rv a_GAP, iv 1, .unset] [(.ref a_GAP)])) _
        exact q
      obtain ⟨cq87, kq87, q87a, q87b, q87c⟩ := isOf hZ e85 (Exa.ext O0.2 E_GAP)
      obtain ⟨_, _, ⟨T87, L87, k87, n87⟩, -, X87, ⟨Lc87, hQ87, l87, y87, z87⟩, st87⟩ := X85.virtualBack hx (y := y_1) (z := y_1) hown (mvT hZ (hw _ (wd 7 rfl))) (mvT hZ (hw _ (wd 8 rfl))) (notFace_of_selects (args := #[]) (mvT hZ (hw _ (wd 10 rfl)))) (mvT hZ (hw _ (wd 10 rfl))) (mvT hZ (hw _ (wd 9 rfl))) (by decide) (backOf (W := 0) (lg_1 l Z a0 hw [] a_NEXT_KEY a_INSERT_INTENTION a_RECORD a_GAP G  h0 n0 O0 ) hZ (hw _ (wd 11 rfl)) (hw _ (wd 5 rfl)) (by decide) (by decide)) q87a q87c (g := (mkF m 40 #[iv q1, iv q2, iv 1, iv 1, rv a_GAP, iv 1, .unset] [(.ref a_GAP)])) rfl (by rw [hml]; rfl) (Steps.refl _) (argsL := []) (rest := []) (lenOf pd_1 rfl) rfl (by show 2 * 0 + _ ≤ _; exact Nat.le_of_eq rfl) (hb hby at_40) (fun _ _ => ⟨rfl, e85, (by decide : 0 + 0 ≤ _), (by decide : 0 + 0 ≤ _)⟩)
      dsimp only [Pt.U, Pt.locs, Pt.cells, Pt.slots] at X87 l87 y87 z87 st87 hQ87
      subst l87 y87 z87
      obtain ⟨rfl, N87q, e87⟩ := hQ87
      have N87 := Fr.app N85 N87q
      have k_88 : Go p.tables e below (s₁.setTop (entryFrame m #[(.int q1), (.int q2)] maxLocals)) (T87.setTop (mkF m 54 #[iv q1, iv q2, iv 1, iv 1, rv a_GAP, iv 1, iv 1] [])) := fun t q => by
        refine k_86 t ?_
        refine st87.trans ?_
        show Steps _ _ _ (T87.setTop (mkF m 43 #[iv q1, iv q2, iv 1, iv 1, rv a_GAP, iv 1, .unset] [(.int 1)])) _
        refine XS.istore X87.here hx rfl (hb hby at_43) rfl (l' := #[iv q1, iv q2, iv 1, iv 1, rv a_GAP, iv 1, iv 1]) rfl ?_
        show Steps _ _ _ (T87.setTop (mkF m 45 #[iv q1, iv q2, iv 1, iv 1, rv a_GAP, iv 1, iv 1] [])) _
        refine XS.iload X87.here hx rfl (hb hby at_45) rfl ?_
        show Steps _ _ _ (T87.setTop (mkF m 47 #[iv q1, iv q2, iv 1, iv 1, rv a_GAP, iv 1, iv 1] [(.int 1)])) _
        refine XS.iload X87.here hx rfl (hb hby at_47) rfl ?_
        show Steps _ _ _ (T87.setTop (mkF m 49 #[iv q1, iv q2, iv 1, iv 1, rv a_GAP, iv 1, iv 1] [(.int 1), (.int 1)])) _
        refine XS.icmpYes X87.here hx rfl (pc0 := 49) (pc' := 54) rfl (hb hby at_49) rfl (by decide) (by decide) (by decide) ?_
        show Steps _ _ _ (T87.setTop (mkF m 54 #[iv q1, iv q2, iv 1, iv 1, rv a_GAP, iv 1, iv 1] [])) _
        exact q
      obtain ⟨T89, X89, e89, st89⟩ := getS2 X87 hx hZ hown (host := "") (Or.inl (hw _ (wd 13 rfl))) Via.refl e87 (S_INSERT_INTENTION.ext O0.2) (g := (mkF m 54 #[iv q1, iv q2, iv 1, iv 1, rv a_GAP, iv 1, iv 1] [])) rfl (hb hby at_54)
      have k_90 : Go p.tables e below (s₁.setTop (entryFrame m #[(.int q1), (.int q2)] maxLocals)) (T89.setTop (mkF m 60 #[iv q1, iv q2, iv 1, iv 1, rv a_GAP, iv 1, iv 1] [(.int 1), (.ref a_GAP), (.ref a_INSERT_INTENTION)])) := fun t q => by
        refine k_88 t ?_
        refine st89 _ ?_
        show Steps _ _ _ (T89.setTop (mkF m 57 #[iv q1, iv q2, iv 1, iv 1, rv a_GAP, iv 1, iv 1] [(.ref a_INSERT_INTENTION)])) _
        refine XS.aload X89.here hx rfl (hb hby at_57) rfl rfl ?_
        show Steps _ _ _ (T89.setTop (mkF m 59 #[iv q1, iv q2, iv 1, iv 1, rv a_GAP, iv 1, iv 1] [(.ref a_GAP), (.ref a_INSERT_INTENTION)])) _
        refine XS.iloadN X89.here hx rfl (hb hby at_59) rfl ?_
        show Steps _ _ _ (T89.setTop (mkF m 60 #[iv q1, iv q2, iv 1, iv 1, rv a_GAP, iv 1, iv 1] [(.int 1), (.ref a_GAP), (.ref a_INSERT_INTENTION)])) _
        exact q
      obtain ⟨cq91, kq91, q91a, q91b, q91c⟩ := isOf hZ e89 (Exa.ext O0.2 E_INSERT_INTENTION)
      obtain ⟨_, _, ⟨T91, L91, k91, n91⟩, -, X91, ⟨Lc91, hQ91, l91, y91, z91⟩, st91⟩ := X89.virtualBack hx (y := y_2) (z := y_2) hown (mvT hZ (hw _ (wd 15 rfl))) (mvT hZ (hw _ (wd 16 rfl))) (notFace_of_selects (args := #[]) (mvT hZ (hw _ (wd 18 rfl)))) (mvT hZ (hw _ (wd 18 rfl))) (mvT hZ (hw _ (wd 17 rfl))) (by decide) (backOf (W := 0) (wf_1 l Z a0 hw [] a_NEXT_KEY a_INSERT_INTENTION a_RECORD a_GAP G (1 : Int32) h0 n0 O0 ) hZ (hw _ (wd 19 rfl)) (hw _ (wd 5 rfl)) (by decide) (by decide)) q91a q91c (g := (mkF m 60 #[iv q1, iv q2, iv 1, iv 1, rv a_GAP, iv 1, iv 1] [(.int 1), (.ref a_GAP), (.ref a_INSERT_INTENTION)])) rfl (by rw [hml]; rfl) (Steps.refl _) (argsL := [(.ref a_GAP), (.int 1)]) (rest := []) (lenOf pd_2 rfl) rfl (by show 2 * 0 + _ ≤ _; exact Nat.le_of_eq rfl) (hb hby at_60) (fun _ _ => ⟨rfl, e89, (by decide : 0 + 0 ≤ _), (by decide : 0 + 0 ≤ _)⟩)
      dsimp only [Pt.U, Pt.locs, Pt.cells, Pt.slots] at X91 l91 y91 z91 st91 hQ91
      subst l91 y91 z91
      obtain ⟨rfl, N91q, e91⟩ := hQ91
      have N91 := Fr.app N87 N91q
      have k_92 : Go p.tables e below (s₁.setTop (entryFrame m #[(.int q1), (.int q2)] maxLocals)) (T91.setTop (mkF m 73 #[iv q1, iv q2, iv 1, iv 1, rv a_GAP, iv 1, iv 1] [(.int 1)])) := fun t q => by
        refine k_90 t ?_
        refine st91.trans ?_
        show Steps _ _ _ (T91.setTop (mkF m 63 #[iv q1, iv q2, iv 1, iv 1, rv a_GAP, iv 1, iv 1] [(.int 1)])) _
        refine XS.iload X91.here hx rfl (hb hby at_63) rfl ?_
        show Steps _ _ _ (T91.setTop (mkF m 65 #[iv q1, iv q2, iv 1, iv 1, rv a_GAP, iv 1, iv 1] [(.int 1), (.int 1)])) _
        refine XS.icmpNo X91.here hx rfl (hb hby at_65) rfl (by decide) ?_
        show Steps _ _ _ (T91.setTop (mkF m 68 #[iv q1, iv q2, iv 1, iv 1, rv a_GAP, iv 1, iv 1] [])) _
        refine XS.iconst X91.here hx rfl (hb hby at_68) ?_
        show Steps _ _ _ (T91.setTop (mkF m 69 #[iv q1, iv q2, iv 1, iv 1, rv a_GAP, iv 1, iv 1] [(.int 1)])) _
        refine XS.goto X91.here hx rfl (pc0 := 69) (pc' := 73) rfl (hb hby at_69) (by decide) (by decide) ?_
        show Steps _ _ _ (T91.setTop (mkF m 73 #[iv q1, iv q2, iv 1, iv 1, rv a_GAP, iv 1, iv 1] [(.int 1)])) _
        exact q
      obtain ⟨fs, hr, hrun, hended, hW, hsame⟩ := X91.leave (v := some (.int 1)) (fun h => by rw [Bd.returns] at h; cases h)
      refine ⟨_, _, k_92 _ ?_, hrun, hended, _, _, rfl, ?_, ⟨_, rfl⟩, hW, hsame.mono (by decide) (by decide)⟩
      · exact retN X91 hx (t := .boolean) Bd.returns (by simp) (hb hby at_73) hr
      · show Q0 n0 _ T91.heap _
        rw [e91]
        exact ⟨rfl, N91⟩
  · skip
    rcases and_one q2 with hj | hj
    · skip
      have k_93 : Go p.tables e below (s₁.setTop (entryFrame m #[(.int q1), (.int q2)] maxLocals)) (s₁.setTop (mkF m 17 #[iv q1, iv q2, iv 2, iv 0, .unset, .unset, .unset] [(.int 2)])) := fun t q => by
        refine k0 t ?_
        refine XS.iloadN X0.here hx rfl (hb hby at_0) rfl ?_
        show Steps _ _ _ (s₁.setTop (mkF m 1 #[iv q1, iv q2, .unset, .unset, .unset, .unset, .unset] [(.int q1)])) _
        refine XS.iconst X0.here hx rfl (hb hby at_1) ?_
        show Steps _ _ _ (s₁.setTop (mkF m 2 #[iv q1, iv q2, .unset, .unset, .unset, .unset, .unset] [(.int 3), (.int q1)])) _
        refine XS.iand X0.here hx rfl (hb hby at_2) rfl ?_
        show Steps _ _ _ (s₁.setTop (mkF m 3 #[iv q1, iv q2, .unset, .unset, .unset, .unset, .unset] [(.int (q1 &&& (3 : Int32)))])) _
        rw [hi]
        show Steps _ _ _ (s₁.setTop (mkF m 3 #[iv q1, iv q2, .unset, .unset, .unset, .unset, .unset] [(.int 2)])) _
        refine XS.istoreN X0.here hx rfl (hb hby at_3) rfl (l' := #[iv q1, iv q2, iv 2, .unset, .unset, .unset, .unset]) rfl ?_
        show Steps _ _ _ (s₁.setTop (mkF m 4 #[iv q1, iv q2, iv 2, .unset, .unset, .unset, .unset] [])) _
        refine XS.iloadN X0.here hx rfl (hb hby at_4) rfl ?_
        show Steps _ _ _ (s₁.setTop (mkF m 5 #[iv q1, iv q2, iv 2, .unset, .unset, .unset, .unset] [(.int q2)])) _
        refine XS.iconst X0.here hx rfl (hb hby at_5) ?_
        show Steps _ _ _ (s₁.setTop (mkF m 6 #[iv q1, iv q2, iv 2, .unset, .unset, .unset, .unset] [(.int 1), (.int q2)])) _
        refine XS.iand X0.here hx rfl (hb hby at_6) rfl ?_
        show Steps _ _ _ (s₁.setTop (mkF m 7 #[iv q1, iv q2, iv 2, .unset, .unset, .unset, .unset] [(.int (q2 &&& (1 : Int32)))])) _
        rw [hj]
        show Steps _ _ _ (s₁.setTop (mkF m 7 #[iv q1, iv q2, iv 2, .unset, .unset, .unset, .unset] [(.int 0)])) _
        refine XS.ifYes X0.here hx rfl (pc0 := 7) (pc' := 14) rfl (hb hby at_7) rfl (by decide) (by decide) (by decide) ?_
        show Steps _ _ _ (s₁.setTop (mkF m 14 #[iv q1, iv q2, iv 2, .unset, .unset, .unset, .unset] [])) _
        refine XS.iconst X0.here hx rfl (hb hby at_14) ?_
        show Steps _ _ _ (s₁.setTop (mkF m 15 #[iv q1, iv q2, iv 2, .unset, .unset, .unset, .unset] [(.int 0)])) _
        refine XS.istoreN X0.here hx rfl (hb hby at_15) rfl (l' := #[iv q1, iv q2, iv 2, iv 0, .unset, .unset, .unset]) rfl ?_
        show Steps _ _ _ (s₁.setTop (mkF m 16 #[iv q1, iv q2, iv 2, iv 0, .unset, .unset, .unset] [])) _
        refine XS.iloadN X0.here hx rfl (hb hby at_16) rfl ?_
        show Steps _ _ _ (s₁.setTop (mkF m 17 #[iv q1, iv q2, iv 2, iv 0, .unset, .unset, .unset] [(.int 2)])) _
        exact q
      obtain ⟨_, _, ⟨T94, L94, k94, n94⟩, -, X94, ⟨Lc94, hQ94, l94, y94, z94⟩, st94⟩ := Jvm.LawKit.callS X0 hx (y := y_0) hown (mvT hZ (hw _ (wd 0 rfl))) (mvT hZ (hw _ (wd 1 rfl))) (mvT hZ (hw _ (wd 2 rfl))) (mvT hZ (hw _ (wd 3 rfl))) (by decide) (backOf (W := 0) (pk_2 l Z a0 hw [] a_NEXT_KEY a_INSERT_INTENTION a_RECORD a_GAP G  h0 n0 O0 ) hZ (hw _ (wd 3 rfl)) (hw _ (wd 2 rfl)) (by decide) (by decide)) (g := (mkF m 17 #[iv q1, iv q2, iv 2, iv 0, .unset, .unset, .unset] [(.int 2)])) rfl (by rw [hml]; rfl) (argsL := [(.int 2)]) (rest := []) (lenOf pd_0 rfl) rfl (by show 2 * 0 + _ ≤ _; exact Nat.le_of_eq rfl) (hb hby at_17) (fun _ _ => ⟨rfl, e0, (by decide : 0 + 0 ≤ _), (by decide : 0 + 0 ≤ _)⟩)
      dsimp only [Pt.U, Pt.locs, Pt.cells, Pt.slots] at X94 l94 y94 z94 st94 hQ94
      subst l94 y94 z94
      obtain ⟨rfl, N94q, e94⟩ := hQ94
      have N94 := Fr.app N0 N94q
      have k_95 : Go p.tables e below (s₁.setTop (entryFrame m #[(.int q1), (.int q2)] maxLocals)) (T94.setTop (mkF m 40 #[iv q1, iv q2, iv 2, iv 0, rv a_RECORD, iv 0, .unset] [(.ref a_RECORD)])) := fun t q => by
        refine k_93 t ?_
        refine st94 _ ?_
        show Steps _ _ _ (T94.setTop (mkF m 20 #[iv q1, iv q2, iv 2, iv 0, .unset, .unset, .unset] [(.ref a_RECORD)])) _
        refine XS.astore X94.here hx rfl (hb hby at_20) rfl rfl (l' := #[iv q1, iv q2, iv 2, iv 0, rv a_RECORD, .unset, .unset]) rfl ?_
        show Steps _ _ _ (T94.setTop (mkF m 22 #[iv q1, iv q2, iv 2, iv 0, rv a_RECORD, .unset, .unset] [])) _
        refine XS.iloadN X94.here hx rfl (hb hby at_22) rfl ?_
        show Steps _ _ _ (T94.setTop (mkF m 23 #[iv q1, iv q2, iv 2, iv 0, rv a_RECORD, .unset, .unset] [(.int 2)])) _
        refine XS.ifNo X94.here hx rfl (hb hby at_23) rfl (by decide) ?_
        show Steps _ _ _ (T94.setTop (mkF m 26 #[iv q1, iv q2, iv 2, iv 0, rv a_RECORD, .unset, .unset] [])) _
        refine XS.iloadN X94.here hx rfl (hb hby at_26) rfl ?_
        show Steps _ _ _ (T94.setTop (mkF m 27 #[iv q1, iv q2, iv 2, iv 0, rv a_RECORD, .unset, .unset] [(.int 2)])) _
        refine XS.iconst X94.here hx rfl (hb hby at_27) ?_
        show Steps _ _ _ (T94.setTop (mkF m 28 #[iv q1, iv q2, iv 2, iv 0, rv a_RECORD, .unset, .unset] [(.int 1), (.int 2)])) _
        refine XS.icmpYes X94.here hx rfl (pc0 := 28) (pc' := 35) rfl (hb hby at_28) rfl (by decide) (by decide) (by decide) ?_
        show Steps _ _ _ (T94.setTop (mkF m 35 #[iv q1, iv q2, iv 2, iv 0, rv a_RECORD, .unset, .unset] [])) _
        refine XS.iconst X94.here hx rfl (hb hby at_35) ?_
        show Steps _ _ _ (T94.setTop (mkF m 36 #[iv q1, iv q2, iv 2, iv 0, rv a_RECORD, .unset, .unset] [(.int 0)])) _
        refine XS.istore X94.here hx rfl (hb hby at_36) rfl (l' := #[iv q1, iv q2, iv 2, iv 0, rv a_RECORD, iv 0, .unset]) rfl ?_
        show Steps _ _ _ (T94.setTop (mkF m 38 #[iv q1, iv q2, iv 2, iv 0, rv a_RECORD, iv 0, .unset] [])) _
        refine XS.aload X94.here hx rfl (hb hby at_38) rfl rfl ?_
        show Steps _ _ _ (T94.setTop (mkF m 40 #[iv q1, iv q2, iv 2, iv 0, rv a_RECORD, iv 0, .unset] [(.ref a_RECORD)])) _
        exact q
      obtain ⟨cq96, kq96, q96a, q96b, q96c⟩ := isOf hZ e94 (Exa.ext O0.2 E_RECORD)
      obtain ⟨_, _, ⟨T96, L96, k96, n96⟩, -, X96, ⟨Lc96, hQ96, l96, y96, z96⟩, st96⟩ := X94.virtualBack hx (y := y_1) (z := y_1) hown (mvT hZ (hw _ (wd 7 rfl))) (mvT hZ (hw _ (wd 8 rfl))) (notFace_of_selects (args := #[]) (mvT hZ (hw _ (wd 10 rfl)))) (mvT hZ (hw _ (wd 10 rfl))) (mvT hZ (hw _ (wd 9 rfl))) (by decide) (backOf (W := 0) (lg_2 l Z a0 hw [] a_NEXT_KEY a_INSERT_INTENTION a_RECORD a_GAP G  h0 n0 O0 ) hZ (hw _ (wd 11 rfl)) (hw _ (wd 5 rfl)) (by decide) (by decide)) q96a q96c (g := (mkF m 40 #[iv q1, iv q2, iv 2, iv 0, rv a_RECORD, iv 0, .unset] [(.ref a_RECORD)])) rfl (by rw [hml]; rfl) (Steps.refl _) (argsL := []) (rest := []) (lenOf pd_1 rfl) rfl (by show 2 * 0 + _ ≤ _; exact Nat.le_of_eq rfl) (hb hby at_40) (fun _ _ => ⟨rfl, e94, (by decide : 0 + 0 ≤ _), (by decide : 0 + 0 ≤ _)⟩)
      dsimp only [Pt.U, Pt.locs, Pt.cells, Pt.slots] at X96 l96 y96 z96 st96 hQ96
      subst l96 y96 z96
      obtain ⟨rfl, N96q, e96⟩ := hQ96
      have N96 := Fr.app N94 N96q
      have k_97 : Go p.tables e below (s₁.setTop (entryFrame m #[(.int q1), (.int q2)] maxLocals)) (T96.setTop (mkF m 54 #[iv q1, iv q2, iv 2, iv 0, rv a_RECORD, iv 0, iv 0] [])) := fun t q => by
        refine k_95 t ?_
        refine st96.trans ?_
        show Steps _ _ _ (T96.setTop (mkF m 43 #[iv q1, iv q2, iv 2, iv 0, rv a_RECORD, iv 0, .unset] [(.int 0)])) _
        refine XS.istore X96.here hx rfl (hb hby at_43) rfl (l' := #[iv q1, iv q2, iv 2, iv 0, rv a_RECORD, iv 0, iv 0]) rfl ?_
        show Steps _ _ _ (T96.setTop (mkF m 45 #[iv q1, iv q2, iv 2, iv 0, rv a_RECORD, iv 0, iv 0] [])) _
        refine XS.iload X96.here hx rfl (hb hby at_45) rfl ?_
        show Steps _ _ _ (T96.setTop (mkF m 47 #[iv q1, iv q2, iv 2, iv 0, rv a_RECORD, iv 0, iv 0] [(.int 0)])) _
        refine XS.iload X96.here hx rfl (hb hby at_47) rfl ?_
        show Steps _ _ _ (T96.setTop (mkF m 49 #[iv q1, iv q2, iv 2, iv 0, rv a_RECORD, iv 0, iv 0] [(.int 0), (.int 0)])) _
        refine XS.icmpYes X96.here hx rfl (pc0 := 49) (pc' := 54) rfl (hb hby at_49) rfl (by decide) (by decide) (by decide) ?_
        show Steps _ _ _ (T96.setTop (mkF m 54 #[iv q1, iv q2, iv 2, iv 0, rv a_RECORD, iv 0, iv 0] [])) _
        exact q
      obtain ⟨T98, X98, e98, st98⟩ := getS2 X96 hx hZ hown (host := "") (Or.inl (hw _ (wd 13 rfl))) Via.refl e96 (S_INSERT_INTENTION.ext O0.2) (g := (mkF m 54 #[iv q1, iv q2, iv 2, iv 0, rv a_RECORD, iv 0, iv 0] [])) rfl (hb hby at_54)
      have k_99 : Go p.tables e below (s₁.setTop (entryFrame m #[(.int q1), (.int q2)] maxLocals)) (T98.setTop (mkF m 60 #[iv q1, iv q2, iv 2, iv 0, rv a_RECORD, iv 0, iv 0] [(.int 0), (.ref a_RECORD), (.ref a_INSERT_INTENTION)])) := fun t q => by
        refine k_97 t ?_
        refine st98 _ ?_
        show Steps _ _ _ (T98.setTop (mkF m 57 #[iv q1, iv q2, iv 2, iv 0, rv a_RECORD, iv 0, iv 0] [(.ref a_INSERT_INTENTION)])) _
        refine XS.aload X98.here hx rfl (hb hby at_57) rfl rfl ?_
        show Steps _ _ _ (T98.setTop (mkF m 59 #[iv q1, iv q2, iv 2, iv 0, rv a_RECORD, iv 0, iv 0] [(.ref a_RECORD), (.ref a_INSERT_INTENTION)])) _
        refine XS.iloadN X98.here hx rfl (hb hby at_59) rfl ?_
        show Steps _ _ _ (T98.setTop (mkF m 60 #[iv q1, iv q2, iv 2, iv 0, rv a_RECORD, iv 0, iv 0] [(.int 0), (.ref a_RECORD), (.ref a_INSERT_INTENTION)])) _
        exact q
      obtain ⟨cq100, kq100, q100a, q100b, q100c⟩ := isOf hZ e98 (Exa.ext O0.2 E_INSERT_INTENTION)
      obtain ⟨_, _, ⟨T100, L100, k100, n100⟩, -, X100, ⟨Lc100, hQ100, l100, y100, z100⟩, st100⟩ := X98.virtualBack hx (y := y_2) (z := y_2) hown (mvT hZ (hw _ (wd 15 rfl))) (mvT hZ (hw _ (wd 16 rfl))) (notFace_of_selects (args := #[]) (mvT hZ (hw _ (wd 18 rfl)))) (mvT hZ (hw _ (wd 18 rfl))) (mvT hZ (hw _ (wd 17 rfl))) (by decide) (backOf (W := 0) (wf_2 l Z a0 hw [] a_NEXT_KEY a_INSERT_INTENTION a_RECORD a_GAP G (0 : Int32) h0 n0 O0 ) hZ (hw _ (wd 19 rfl)) (hw _ (wd 5 rfl)) (by decide) (by decide)) q100a q100c (g := (mkF m 60 #[iv q1, iv q2, iv 2, iv 0, rv a_RECORD, iv 0, iv 0] [(.int 0), (.ref a_RECORD), (.ref a_INSERT_INTENTION)])) rfl (by rw [hml]; rfl) (Steps.refl _) (argsL := [(.ref a_RECORD), (.int 0)]) (rest := []) (lenOf pd_2 rfl) rfl (by show 2 * 0 + _ ≤ _; exact Nat.le_of_eq rfl) (hb hby at_60) (fun _ _ => ⟨rfl, e98, (by decide : 0 + 0 ≤ _), (by decide : 0 + 0 ≤ _)⟩)
      dsimp only [Pt.U, Pt.locs, Pt.cells, Pt.slots] at X100 l100 y100 z100 st100 hQ100
      subst l100 y100 z100
      obtain ⟨rfl, N100q, e100⟩ := hQ100
      have N100 := Fr.app N96 N100q
      have k_101 : Go p.tables e below (s₁.setTop (entryFrame m #[(.int q1), (.int q2)] maxLocals)) (T100.setTop (mkF m 73 #[iv q1, iv q2, iv 2, iv 0, rv a_RECORD, iv 0, iv 0] [(.int 1)])) := fun t q => by
        refine k_99 t ?_
        refine st100.trans ?_
        show Steps _ _ _ (T100.setTop (mkF m 63 #[iv q1, iv q2, iv 2, iv 0, rv a_RECORD, iv 0, iv 0] [(.int 0)])) _
        refine XS.iload X100.here hx rfl (hb hby at_63) rfl ?_
        show Steps _ _ _ (T100.setTop (mkF m 65 #[iv q1, iv q2, iv 2, iv 0, rv a_RECORD, iv 0, iv 0] [(.int 0), (.int 0)])) _
        refine XS.icmpNo X100.here hx rfl (hb hby at_65) rfl (by decide) ?_
        show Steps _ _ _ (T100.setTop (mkF m 68 #[iv q1, iv q2, iv 2, iv 0, rv a_RECORD, iv 0, iv 0] [])) _
        refine XS.iconst X100.here hx rfl (hb hby at_68) ?_
        show Steps _ _ _ (T100.setTop (mkF m 69 #[iv q1, iv q2, iv 2, iv 0, rv a_RECORD, iv 0, iv 0] [(.int 1)])) _
        refine XS.goto X100.here hx rfl (pc0 := 69) (pc' := 73) rfl (hb hby at_69) (by decide) (by decide) ?_
        show Steps _ _ _ (T100.setTop (mkF m 73 #[iv q1, iv q2, iv 2, iv 0, rv a_RECORD, iv 0, iv 0] [(.int 1)])) _
        exact q
      obtain ⟨fs, hr, hrun, hended, hW, hsame⟩ := X100.leave (v := some (.int 1)) (fun h => by rw [Bd.returns] at h; cases h)
      refine ⟨_, _, k_101 _ ?_, hrun, hended, _, _, rfl, ?_, ⟨_, rfl⟩, hW, hsame.mono (by decide) (by decide)⟩
      · exact retN X100 hx (t := .boolean) Bd.returns (by simp) (hb hby at_73) hr
      · show Q0 n0 _ T100.heap _
        rw [e100]
        exact ⟨rfl, N100⟩
    · skip
      have k_102 : Go p.tables e below (s₁.setTop (entryFrame m #[(.int q1), (.int q2)] maxLocals)) (s₁.setTop (mkF m 17 #[iv q1, iv q2, iv 2, iv 1, .unset, .unset, .unset] [(.int 2)])) := fun t q => by
        refine k0 t ?_
        refine XS.iloadN X0.here hx rfl (hb hby at_0) rfl ?_
        show Steps _ _ _ (s₁.setTop (mkF m 1 #[iv q1, iv q2, .unset, .unset, .unset, .unset, .unset] [(.int q1)])) _
        refine XS.iconst X0.here hx rfl (hb hby at_1) ?_
        show Steps _ _ _ (s₁.setTop (mkF m 2 #[iv q1, iv q2, .unset, .unset, .unset, .unset, .unset] [(.int 3), (.int q1)])) _
        refine XS.iand X0.here hx rfl (hb hby at_2) rfl ?_
        show Steps _ _ _ (s₁.setTop (mkF m 3 #[iv q1, iv q2, .unset, .unset, .unset, .unset, .unset] [(.int (q1 &&& (3 : Int32)))])) _
        rw [hi]
        show Steps _ _ _ (s₁.setTop (mkF m 3 #[iv q1, iv q2, .unset, .unset, .unset, .unset, .unset] [(.int 2)])) _
        refine XS.istoreN X0.here hx rfl (hb hby at_3) rfl (l' := #[iv q1, iv q2, iv 2, .unset, .unset, .unset, .unset]) rfl ?_
        show Steps _ _ _ (s₁.setTop (mkF m 4 #[iv q1, iv q2, iv 2, .unset, .unset, .unset, .unset] [])) _
        refine XS.iloadN X0.here hx rfl (hb hby at_4) rfl ?_
        show Steps _ _ _ (s₁.setTop (mkF m 5 #[iv q1, iv q2, iv 2, .unset, .unset, .unset, .unset] [(.int q2)])) _
        refine XS.iconst X0.here hx rfl (hb hby at_5) ?_
        show Steps _ _ _ (s₁.setTop (mkF m 6 #[iv q1, iv q2, iv 2, .unset, .unset, .unset, .unset] [(.int 1), (.int q2)])) _
        refine XS.iand X0.here hx rfl (hb hby at_6) rfl ?_
        show Steps _ _ _ (s₁.setTop (mkF m 7 #[iv q1, iv q2, iv 2, .unset, .unset, .unset, .unset] [(.int (q2 &&& (1 : Int32)))])) _
        rw [hj]
        show Steps _ _ _ (s₁.setTop (mkF m 7 #[iv q1, iv q2, iv 2, .unset, .unset, .unset, .unset] [(.int 1)])) _
        refine XS.ifNo X0.here hx rfl (hb hby at_7) rfl (by decide) ?_
        show Steps _ _ _ (s₁.setTop (mkF m 10 #[iv q1, iv q2, iv 2, .unset, .unset, .unset, .unset] [])) _
        refine XS.iconst X0.here hx rfl (hb hby at_10) ?_
        show Steps _ _ _ (s₁.setTop (mkF m 11 #[iv q1, iv q2, iv 2, .unset, .unset, .unset, .unset] [(.int 1)])) _
        refine XS.goto X0.here hx rfl (pc0 := 11) (pc' := 15) rfl (hb hby at_11) (by decide) (by decide) ?_
        show Steps _ _ _ (s₁.setTop (mkF m 15 #[iv q1, iv q2, iv 2, .unset, .unset, .unset, .unset] [(.int 1)])) _
        refine XS.istoreN X0.here hx rfl (hb hby at_15) rfl (l' := #[iv q1, iv q2, iv 2, iv 1, .unset, .unset, .unset]) rfl ?_
        show Steps _ _ _ (s₁.setTop (mkF m 16 #[iv q1, iv q2, iv 2, iv 1, .unset, .unset, .unset] [])) _
        refine XS.iloadN X0.here hx rfl (hb hby at_16) rfl ?_
        show Steps _ _ _ (s₁.setTop (mkF m 17 #[iv q1, iv q2, iv 2, iv 1, .unset, .unset, .unset] [(.int 2)])) _
        exact q
      obtain ⟨_, _, ⟨T103, L103, k103, n103⟩, -, X103, ⟨Lc103, hQ103, l103, y103, z103⟩, st103⟩ := Jvm.LawKit.callS X0 hx (y := y_0) hown (mvT hZ (hw _ (wd 0 rfl))) (mvT hZ (hw _ (wd 1 rfl))) (mvT hZ (hw _ (wd 2 rfl))) (mvT hZ (hw _ (wd 3 rfl))) (by decide) (backOf (W := 0) (pk_2 l Z a0 hw [] a_NEXT_KEY a_INSERT_INTENTION a_RECORD a_GAP G  h0 n0 O0 ) hZ (hw _ (wd 3 rfl)) (hw _ (wd 2 rfl)) (by decide) (by decide)) (g := (mkF m 17 #[iv q1, iv q2, iv 2, iv 1, .unset, .unset, .unset] [(.int 2)])) rfl (by rw [hml]; rfl) (argsL := [(.int 2)]) (rest := []) (lenOf pd_0 rfl) rfl (by show 2 * 0 + _ ≤ _; exact Nat.le_of_eq rfl) (hb hby at_17) (fun _ _ => ⟨rfl, e0, (by decide : 0 + 0 ≤ _), (by decide : 0 + 0 ≤ _)⟩)
      dsimp only [Pt.U, Pt.locs, Pt.cells, Pt.slots] at X103 l103 y103 z103 st103 hQ103
      subst l103 y103 z103
      obtain ⟨rfl, N103q, e103⟩ := hQ103
      have N103 := Fr.app N0 N103q
      have k_104 : Go p.tables e below (s₁.setTop (entryFrame m #[(.int q1), (.int q2)] maxLocals)) (T103.setTop (mkF m 40 #[iv q1, iv q2, iv 2, iv 1, rv a_RECORD, iv 0, .unset] [(.ref a_RECORD)])) := fun t q => by
        refine k_102 t ?_
        refine st103 _ ?_
        show Steps _ _ _ (T103.setTop (mkF m 20 #[iv q1, iv q2, iv 2, iv 1, .unset, .unset, .unset] [(.ref a_RECORD)])) _
        refine XS.astore X103.here hx rfl (hb hby at_20) rfl rfl (l' := #[iv q1, iv q2, iv 2, iv 1, rv a_RECORD, .unset, .unset]) rfl ?_
        show Steps _ _ _ (T103.setTop (mkF m 22 #[iv q1, iv q2, iv 2, iv 1, rv a_RECORD, .unset, .unset] [])) _
        refine XS.iloadN X103.here hx rfl (hb hby at_22) rfl ?_
        show Steps _ _ _ (T103.setTop (mkF m 23 #[iv q1, iv q2, iv 2, iv 1, rv a_RECORD, .unset, .unset] [(.int 2)])) _
        refine XS.ifNo X103.here hx rfl (hb hby at_23) rfl (by decide) ?_
        show Steps _ _ _ (T103.setTop (mkF m 26 #[iv q1, iv q2, iv 2, iv 1, rv a_RECORD, .unset, .unset] [])) _
        refine XS.iloadN X103.here hx rfl (hb hby at_26) rfl ?_
        show Steps _ _ _ (T103.setTop (mkF m 27 #[iv q1, iv q2, iv 2, iv 1, rv a_RECORD, .unset, .unset] [(.int 2)])) _
        refine XS.iconst X103.here hx rfl (hb hby at_27) ?_
        show Steps _ _ _ (T103.setTop (mkF m 28 #[iv q1, iv q2, iv 2, iv 1, rv a_RECORD, .unset, .unset] [(.int 1), (.int 2)])) _
        refine XS.icmpYes X103.here hx rfl (pc0 := 28) (pc' := 35) rfl (hb hby at_28) rfl (by decide) (by decide) (by decide) ?_
        show Steps _ _ _ (T103.setTop (mkF m 35 #[iv q1, iv q2, iv 2, iv 1, rv a_RECORD, .unset, .unset] [])) _
        refine XS.iconst X103.here hx rfl (hb hby at_35) ?_
        show Steps _ _ _ (T103.setTop (mkF m 36 #[iv q1, iv q2, iv 2, iv 1, rv a_RECORD, .unset, .unset] [(.int 0)])) _
        refine XS.istore X103.here hx rfl (hb hby at_36) rfl (l' := #[iv q1, iv q2, iv 2, iv 1, rv a_RECORD, iv 0, .unset]) rfl ?_
        show Steps _ _ _ (T103.setTop (mkF m 38 #[iv q1, iv q2, iv 2, iv 1, rv a_RECORD, iv 0, .unset] [])) _
        refine XS.aload X103.here hx rfl (hb hby at_38) rfl rfl ?_
        show Steps _ _ _ (T103.setTop (mkF m 40 #[iv q1, iv q2, iv 2, iv 1, rv a_RECORD, iv 0, .unset] [(.ref a_RECORD)])) _
        exact q
      obtain ⟨cq105, kq105, q105a, q105b, q105c⟩ := isOf hZ e103 (Exa.ext O0.2 E_RECORD)
      obtain ⟨_, _, ⟨T105, L105, k105, n105⟩, -, X105, ⟨Lc105, hQ105, l105, y105, z105⟩, st105⟩ := X103.virtualBack hx (y := y_1) (z := y_1) hown (mvT hZ (hw _ (wd 7 rfl))) (mvT hZ (hw _ (wd 8 rfl))) (notFace_of_selects (args := #[]) (mvT hZ (hw _ (wd 10 rfl)))) (mvT hZ (hw _ (wd 10 rfl))) (mvT hZ (hw _ (wd 9 rfl))) (by decide) (backOf (W := 0) (lg_2 l Z a0 hw [] a_NEXT_KEY a_INSERT_INTENTION a_RECORD a_GAP G  h0 n0 O0 ) hZ (hw _ (wd 11 rfl)) (hw _ (wd 5 rfl)) (by decide) (by decide)) q105a q105c (g := (mkF m 40 #[iv q1, iv q2, iv 2, iv 1, rv a_RECORD, iv 0, .unset] [(.ref a_RECORD)])) rfl (by rw [hml]; rfl) (Steps.refl _) (argsL := []) (rest := []) (lenOf pd_1 rfl) rfl (by show 2 * 0 + _ ≤ _; exact Nat.le_of_eq rfl) (hb hby at_40) (fun _ _ => ⟨rfl, e103, (by decide : 0 + 0 ≤ _), (by decide : 0 + 0 ≤ _)⟩)
      dsimp only [Pt.U, Pt.locs, Pt.cells, Pt.slots] at X105 l105 y105 z105 st105 hQ105
      subst l105 y105 z105
      obtain ⟨rfl, N105q, e105⟩ := hQ105
      have N105 := Fr.app N103 N105q
      have k_106 : Go p.tables e below (s₁.setTop (entryFrame m #[(.int q1), (.int q2)] maxLocals)) (T105.setTop (mkF m 54 #[iv q1, iv q2, iv 2, iv 1, rv a_RECORD, iv 0, iv 0] [])) := fun t q => by
        refine k_104 t ?_
        refine st105.trans ?_
        show Steps _ _ _ (T105.setTop (mkF m 43 #[iv q1, iv q2, iv 2, iv 1, rv a_RECORD, iv 0, .unset] [(.int 0)])) _
        refine XS.istore X105.here hx rfl (hb hby at_43) rfl (l' := #[iv q1, iv q2, iv 2, iv 1, rv a_RECORD, iv 0, iv 0]) rfl ?_
        show Steps _ _ _ (T105.setTop (mkF m 45 #[iv q1, iv q2, iv 2, iv 1, rv a_RECORD, iv 0, iv 0] [])) _
        refine XS.iload X105.here hx rfl (hb hby at_45) rfl ?_
        show Steps _ _ _ (T105.setTop (mkF m 47 #[iv q1, iv q2, iv 2, iv 1, rv a_RECORD, iv 0, iv 0] [(.int 0)])) _
        refine XS.iload X105.here hx rfl (hb hby at_47) rfl ?_
        show Steps _ _ _ (T105.setTop (mkF m 49 #[iv q1, iv q2, iv 2, iv 1, rv a_RECORD, iv 0, iv 0] [(.int 0), (.int 0)])) _
        refine XS.icmpYes X105.here hx rfl (pc0 := 49) (pc' := 54) rfl (hb hby at_49) rfl (by decide) (by decide) (by decide) ?_
        show Steps _ _ _ (T105.setTop (mkF m 54 #[iv q1, iv q2, iv 2, iv 1, rv a_RECORD, iv 0, iv 0] [])) _
        exact q
      obtain ⟨T107, X107, e107, st107⟩ := getS2 X105 hx hZ hown (host := "") (Or.inl (hw _ (wd 13 rfl))) Via.refl e105 (S_INSERT_INTENTION.ext O0.2) (g := (mkF m 54 #[iv q1, iv q2, iv 2, iv 1, rv a_RECORD, iv 0, iv 0] [])) rfl (hb hby at_54)
      have k_108 : Go p.tables e below (s₁.setTop (entryFrame m #[(.int q1), (.int q2)] maxLocals)) (T107.setTop (mkF m 60 #[iv q1, iv q2, iv 2, iv 1, rv a_RECORD, iv 0, iv 0] [(.int 1), (.ref a_RECORD), (.ref a_INSERT_INTENTION)])) := fun t q => by
        refine k_106 t ?_
        refine st107 _ ?_
        show Steps _ _ _ (T107.setTop (mkF m 57 #[iv q1, iv q2, iv 2, iv 1, rv a_RECORD, iv 0, iv 0] [(.ref a_INSERT_INTENTION)])) _
        refine XS.aload X107.here hx rfl (hb hby at_57) rfl rfl ?_
        show Steps _ _ _ (T107.setTop (mkF m 59 #[iv q1, iv q2, iv 2, iv 1, rv a_RECORD, iv 0, iv 0] [(.ref a_RECORD), (.ref a_INSERT_INTENTION)])) _
        refine XS.iloadN X107.here hx rfl (hb hby at_59) rfl ?_
        show Steps _ _ _ (T107.setTop (mkF m 60 #[iv q1, iv q2, iv 2, iv 1, rv a_RECORD, iv 0, iv 0] [(.int 1), (.ref a_RECORD), (.ref a_INSERT_INTENTION)])) _
        exact q
      obtain ⟨cq109, kq109, q109a, q109b, q109c⟩ := isOf hZ e107 (Exa.ext O0.2 E_INSERT_INTENTION)
      obtain ⟨_, _, ⟨T109, L109, k109, n109⟩, -, X109, ⟨Lc109, hQ109, l109, y109, z109⟩, st109⟩ := X107.virtualBack hx (y := y_2) (z := y_2) hown (mvT hZ (hw _ (wd 15 rfl))) (mvT hZ (hw _ (wd 16 rfl))) (notFace_of_selects (args := #[]) (mvT hZ (hw _ (wd 18 rfl)))) (mvT hZ (hw _ (wd 18 rfl))) (mvT hZ (hw _ (wd 17 rfl))) (by decide) (backOf (W := 0) (wf_2 l Z a0 hw [] a_NEXT_KEY a_INSERT_INTENTION a_RECORD a_GAP G (1 : Int32) h0 n0 O0 ) hZ (hw _ (wd 19 rfl)) (hw _ (wd 5 rfl)) (by decide) (by decide)) q109a q109c (g := (mkF m 60 #[iv q1, iv q2, iv 2, iv 1, rv a_RECORD, iv 0, iv 0] [(.int 1), (.ref a_RECORD), (.ref a_INSERT_INTENTION)])) rfl (by rw [hml]; rfl) (Steps.refl _) (argsL := [(.ref a_RECORD), (.int 1)]) (rest := []) (lenOf pd_2 rfl) rfl (by show 2 * 0 + _ ≤ _; exact Nat.le_of_eq rfl) (hb hby at_60) (fun _ _ => ⟨rfl, e107, (by decide : 0 + 0 ≤ _), (by decide : 0 + 0 ≤ _)⟩)
      dsimp only [Pt.U, Pt.locs, Pt.cells, Pt.slots] at X109 l109 y109 z109 st109 hQ109
      subst l109 y109 z109
      obtain ⟨rfl, N109q, e109⟩ := hQ109
      have N109 := Fr.app N105 N109q
      have k_110 : Go p.tables e below (s₁.setTop (entryFrame m #[(.int q1), (.int q2)] maxLocals)) (T109.setTop (mkF m 73 #[iv q1, iv q2, iv 2, iv 1, rv a_RECORD, iv 0, iv 0] [(.int 1)])) := fun t q => by
        refine k_108 t ?_
        refine st109.trans ?_
        show Steps _ _ _ (T109.setTop (mkF m 63 #[iv q1, iv q2, iv 2, iv 1, rv a_RECORD, iv 0, iv 0] [(.int 0)])) _
        refine XS.iload X109.here hx rfl (hb hby at_63) rfl ?_
        show Steps _ _ _ (T109.setTop (mkF m 65 #[iv q1, iv q2, iv 2, iv 1, rv a_RECORD, iv 0, iv 0] [(.int 0), (.int 0)])) _
        refine XS.icmpNo X109.here hx rfl (hb hby at_65) rfl (by decide) ?_
        show Steps _ _ _ (T109.setTop (mkF m 68 #[iv q1, iv q2, iv 2, iv 1, rv a_RECORD, iv 0, iv 0] [])) _
        refine XS.iconst X109.here hx rfl (hb hby at_68) ?_
        show Steps _ _ _ (T109.setTop (mkF m 69 #[iv q1, iv q2, iv 2, iv 1, rv a_RECORD, iv 0, iv 0] [(.int 1)])) _
        refine XS.goto X109.here hx rfl (pc0 := 69) (pc' := 73) rfl (hb hby at_69) (by decide) (by decide) ?_
        show Steps _ _ _ (T109.setTop (mkF m 73 #[iv q1, iv q2, iv 2, iv 1, rv a_RECORD, iv 0, iv 0] [(.int 1)])) _
        exact q
      obtain ⟨fs, hr, hrun, hended, hW, hsame⟩ := X109.leave (v := some (.int 1)) (fun h => by rw [Bd.returns] at h; cases h)
      refine ⟨_, _, k_110 _ ?_, hrun, hended, _, _, rfl, ?_, ⟨_, rfl⟩, hW, hsame.mono (by decide) (by decide)⟩
      · exact retN X109 hx (t := .boolean) Bd.returns (by simp) (hb hby at_73) hr
      · show Q0 n0 _ T109.heap _
        rw [e109]
        exact ⟨rfl, N109⟩
  · skip
    rcases and_one q2 with hj | hj
    · skip
      have k_111 : Go p.tables e below (s₁.setTop (entryFrame m #[(.int q1), (.int q2)] maxLocals)) (s₁.setTop (mkF m 17 #[iv q1, iv q2, iv 3, iv 0, .unset, .unset, .unset] [(.int 3)])) := fun t q => by
        refine k0 t ?_
        refine XS.iloadN X0.here hx rfl (hb hby at_0) rfl ?_
        show Steps _ _ _ (s₁.setTop (mkF m 1 #[iv q1, iv q2, .unset, .unset, .unset, .unset, .unset] [(.int q1)])) _
        refine XS.iconst X0.here hx rfl (hb hby at_1) ?_
        show Steps _ _ _ (s₁.setTop (mkF m 2 #[iv q1, iv q2, .unset, .unset, .unset, .unset, .unset] [(.int 3), (.int q1)])) _
        refine XS.iand X0.here hx rfl (hb hby at_2) rfl ?_
        show Steps _ _ _ (s₁.setTop (mkF m 3 #[iv q1, iv q2, .unset, .unset, .unset, .unset, .unset] [(.int (q1 &&& (3 : Int32)))])) _
        rw [hi]
        show Steps _ _ _ (s₁.setTop (mkF m 3 #[iv q1, iv q2, .unset, .unset, .unset, .unset, .unset] [(.int 3)])) _
        refine XS.istoreN X0.here hx rfl (hb hby at_3) rfl (l' := #[iv q1, iv q2, iv 3, .unset, .unset, .unset, .unset]) rfl ?_
        show Steps _ _ _ (s₁.setTop (mkF m 4 #[iv q1, iv q2, iv 3, .unset, .unset, .unset, .unset] [])) _
        refine XS.iloadN X0.here hx rfl (hb hby at_4) rfl ?_
        show Steps _ _ _ (s₁.setTop (mkF m 5 #[iv q1, iv q2, iv 3, .unset, .unset, .unset, .unset] [(.int q2)])) _
        refine XS.iconst X0.here hx rfl (hb hby at_5) ?_
        show Steps _ _ _ (s₁.setTop (mkF m 6 #[iv q1, iv q2, iv 3, .unset, .unset, .unset, .unset] [(.int 1), (.int q2)])) _
        refine XS.iand X0.here hx rfl (hb hby at_6) rfl ?_
        show Steps _ _ _ (s₁.setTop (mkF m 7 #[iv q1, iv q2, iv 3, .unset, .unset, .unset, .unset] [(.int (q2 &&& (1 : Int32)))])) _
        rw [hj]
        show Steps _ _ _ (s₁.setTop (mkF m 7 #[iv q1, iv q2, iv 3, .unset, .unset, .unset, .unset] [(.int 0)])) _
        refine XS.ifYes X0.here hx rfl (pc0 := 7) (pc' := 14) rfl (hb hby at_7) rfl (by decide) (by decide) (by decide) ?_
        show Steps _ _ _ (s₁.setTop (mkF m 14 #[iv q1, iv q2, iv 3, .unset, .unset, .unset, .unset] [])) _
        refine XS.iconst X0.here hx rfl (hb hby at_14) ?_
        show Steps _ _ _ (s₁.setTop (mkF m 15 #[iv q1, iv q2, iv 3, .unset, .unset, .unset, .unset] [(.int 0)])) _
        refine XS.istoreN X0.here hx rfl (hb hby at_15) rfl (l' := #[iv q1, iv q2, iv 3, iv 0, .unset, .unset, .unset]) rfl ?_
        show Steps _ _ _ (s₁.setTop (mkF m 16 #[iv q1, iv q2, iv 3, iv 0, .unset, .unset, .unset] [])) _
        refine XS.iloadN X0.here hx rfl (hb hby at_16) rfl ?_
        show Steps _ _ _ (s₁.setTop (mkF m 17 #[iv q1, iv q2, iv 3, iv 0, .unset, .unset, .unset] [(.int 3)])) _
        exact q
      obtain ⟨_, _, ⟨T112, L112, k112, n112⟩, -, X112, ⟨Lc112, hQ112, l112, y112, z112⟩, st112⟩ := Jvm.LawKit.callS X0 hx (y := y_0) hown (mvT hZ (hw _ (wd 0 rfl))) (mvT hZ (hw _ (wd 1 rfl))) (mvT hZ (hw _ (wd 2 rfl))) (mvT hZ (hw _ (wd 3 rfl))) (by decide) (backOf (W := 0) (pk_3 l Z a0 hw [] a_NEXT_KEY a_INSERT_INTENTION a_RECORD a_GAP G  h0 n0 O0 ) hZ (hw _ (wd 3 rfl)) (hw _ (wd 2 rfl)) (by decide) (by decide)) (g := (mkF m 17 #[iv q1, iv q2, iv 3, iv 0, .unset, .unset, .unset] [(.int 3)])) rfl (by rw [hml]; rfl) (argsL := [(.int 3)]) (rest := []) (lenOf pd_0 rfl) rfl (by show 2 * 0 + _ ≤ _; exact Nat.le_of_eq rfl) (hb hby at_17) (fun _ _ => ⟨rfl, e0, (by decide : 0 + 0 ≤ _), (by decide : 0 + 0 ≤ _)⟩)
      dsimp only [Pt.U, Pt.locs, Pt.cells, Pt.slots] at X112 l112 y112 z112 st112 hQ112
      subst l112 y112 z112
      obtain ⟨rfl, N112q, e112⟩ := hQ112
      have N112 := Fr.app N0 N112q
      have k_113 : Go p.tables e below (s₁.setTop (entryFrame m #[(.int q1), (.int q2)] maxLocals)) (T112.setTop (mkF m 40 #[iv q1, iv q2, iv 3, iv 0, rv a_INSERT_INTENTION, iv 0, .unset] [(.ref a_INSERT_INTENTION)])) := fun t q => by
        refine k_111 t ?_
        refine st112 _ ?_
        show Steps _ _ _ (T112.setTop (mkF m 20 #[iv q1, iv q2, iv 3, iv 0, .unset, .unset, .unset] [(.ref a_INSERT_INTENTION)])) _
        refine XS.astore X112.here hx rfl (hb hby at_20) rfl rfl (l' := #[iv q1, iv q2, iv 3, iv 0, rv a_INSERT_INTENTION, .unset, .unset]) rfl ?_
        show Steps _ _ _ (T112.setTop (mkF m 22 #[iv q1, iv q2, iv 3, iv 0, rv a_INSERT_INTENTION, .unset, .unset] [])) _
        refine XS.iloadN X112.here hx rfl (hb hby at_22) rfl ?_
        show Steps _ _ _ (T112.setTop (mkF m 23 #[iv q1, iv q2, iv 3, iv 0, rv a_INSERT_INTENTION, .unset, .unset] [(.int 3)])) _
        refine XS.ifNo X112.here hx rfl (hb hby at_23) rfl (by decide) ?_
        show Steps _ _ _ (T112.setTop (mkF m 26 #[iv q1, iv q2, iv 3, iv 0, rv a_INSERT_INTENTION, .unset, .unset] [])) _
        refine XS.iloadN X112.here hx rfl (hb hby at_26) rfl ?_
        show Steps _ _ _ (T112.setTop (mkF m 27 #[iv q1, iv q2, iv 3, iv 0, rv a_INSERT_INTENTION, .unset, .unset] [(.int 3)])) _
        refine XS.iconst X112.here hx rfl (hb hby at_27) ?_
        show Steps _ _ _ (T112.setTop (mkF m 28 #[iv q1, iv q2, iv 3, iv 0, rv a_INSERT_INTENTION, .unset, .unset] [(.int 1), (.int 3)])) _
        refine XS.icmpYes X112.here hx rfl (pc0 := 28) (pc' := 35) rfl (hb hby at_28) rfl (by decide) (by decide) (by decide) ?_
        show Steps _ _ _ (T112.setTop (mkF m 35 #[iv q1, iv q2, iv 3, iv 0, rv a_INSERT_INTENTION, .unset, .unset] [])) _
        refine XS.iconst X112.here hx rfl (hb hby at_35) ?_
        show Steps _ _ _ (T112.setTop (mkF m 36 #[iv q1, iv q2, iv 3, iv 0, rv a_INSERT_INTENTION, .unset, .unset] [(.int 0)])) _
        refine XS.istore X112.here hx rfl (hb hby at_36) rfl (l' := #[iv q1, iv q2, iv 3, iv 0, rv a_INSERT_INTENTION, iv 0, .unset]) rfl ?_
        show Steps _ _ _ (T112.setTop (mkF m 38 #[iv q1, iv q2, iv 3, iv 0, rv a_INSERT_INTENTION, iv 0, .unset] [])) _
        refine XS.aload X112.here hx rfl (hb hby at_38) rfl rfl ?_
        show Steps _ _ _ (T112.setTop (mkF m 40 #[iv q1, iv q2, iv 3, iv 0, rv a_INSERT_INTENTION, iv 0, .unset] [(.ref a_INSERT_INTENTION)])) _
        exact q
      obtain ⟨cq114, kq114, q114a, q114b, q114c⟩ := isOf hZ e112 (Exa.ext O0.2 E_INSERT_INTENTION)
      obtain ⟨_, _, ⟨T114, L114, k114, n114⟩, -, X114, ⟨Lc114, hQ114, l114, y114, z114⟩, st114⟩ := X112.virtualBack hx (y := y_1) (z := y_1) hown (mvT hZ (hw _ (wd 7 rfl))) (mvT hZ (hw _ (wd 8 rfl))) (notFace_of_selects (args := #[]) (mvT hZ (hw _ (wd 10 rfl)))) (mvT hZ (hw _ (wd 10 rfl))) (mvT hZ (hw _ (wd 9 rfl))) (by decide) (backOf (W := 0) (lg_3 l Z a0 hw [] a_NEXT_KEY a_INSERT_INTENTION a_RECORD a_GAP G  h0 n0 O0 ) hZ (hw _ (wd 11 rfl)) (hw _ (wd 5 rfl)) (by decide) (by decide)) q114a q114c (g := (mkF m 40 #[iv q1, iv q2, iv 3, iv 0, rv a_INSERT_INTENTION, iv 0, .unset] [(.ref a_INSERT_INTENTION)])) rfl (by rw [hml]; rfl) (Steps.refl _) (argsL := []) (rest := []) (lenOf pd_1 rfl) rfl (by show 2 * 0 + _ ≤ _; exact Nat.le_of_eq rfl) (hb hby at_40) (fun _ _ => ⟨rfl, e112, (by decide : 0 + 0 ≤ _), (by decide : 0 + 0 ≤ _)⟩)
      dsimp only [Pt.U, Pt.locs, Pt.cells, Pt.slots] at X114 l114 y114 z114 st114 hQ114
      subst l114 y114 z114
      obtain ⟨rfl, N114q, e114⟩ := hQ114
      have N114 := Fr.app N112 N114q
      have k_115 : Go p.tables e below (s₁.setTop (entryFrame m #[(.int q1), (.int q2)] maxLocals)) (T114.setTop (mkF m 54 #[iv q1, iv q2, iv 3, iv 0, rv a_INSERT_INTENTION, iv 0, iv 0] [])) := fun t q => by
        refine k_113 t ?_
        refine st114.trans ?_
        show Steps _ _ _ (T114.setTop (mkF m 43 #[iv q1, iv q2, iv 3, iv 0, rv a_INSERT_INTENTION, iv 0, .unset] [(.int 0)])) _
        refine XS.istore X114.here hx rfl (hb hby at_43) rfl (l' := #[iv q1, iv q2, iv 3, iv 0, rv a_INSERT_INTENTION, iv 0, iv 0]) rfl ?_
        show Steps _ _ _ (T114.setTop (mkF m 45 #[iv q1, iv q2, iv 3, iv 0, rv a_INSERT_INTENTION, iv 0, iv 0] [])) _
        refine XS.iload X114.here hx rfl (hb hby at_45) rfl ?_
        show Steps _ _ _ (T114.setTop (mkF m 47 #[iv q1, iv q2, iv 3, iv 0, rv a_INSERT_INTENTION, iv 0, iv 0] [(.int 0)])) _
        refine XS.iload X114.here hx rfl (hb hby at_47) rfl ?_
        show Steps _ _ _ (T114.setTop (mkF m 49 #[iv q1, iv q2, iv 3, iv 0, rv a_INSERT_INTENTION, iv 0, iv 0] [(.int 0), (.int 0)])) _
        refine XS.icmpYes X114.here hx rfl (pc0 := 49) (pc' := 54) rfl (hb hby at_49) rfl (by decide) (by decide) (by decide) ?_
        show Steps _ _ _ (T114.setTop (mkF m 54 #[iv q1, iv q2, iv 3, iv 0, rv a_INSERT_INTENTION, iv 0, iv 0] [])) _
        exact q
      obtain ⟨T116, X116, e116, st116⟩ := getS2 X114 hx hZ hown (host := "") (Or.inl (hw _ (wd 13 rfl))) Via.refl e114 (S_INSERT_INTENTION.ext O0.2) (g := (mkF m 54 #[iv q1, iv q2, iv 3, iv 0, rv a_INSERT_INTENTION, iv 0, iv 0] [])) rfl (hb hby at_54)
      have k_117 : Go p.tables e below (s₁.setTop (entryFrame m #[(.int q1), (.int q2)] maxLocals)) (T116.setTop (mkF m 60 #[iv q1, iv q2, iv 3, iv 0, rv a_INSERT_INTENTION, iv 0, iv 0] [(.int 0), (.ref a_INSERT_INTENTION), (.ref a_INSERT_INTENTION)])) := fun t q => by
        refine k_115 t ?_
        refine st116 _ ?_
        show Steps _ _ _ (T116.setTop (mkF m 57 #[iv q1, iv q2, iv 3, iv 0, rv a_INSERT_INTENTION, iv 0, iv 0] [(.ref a_INSERT_INTENTION)])) _
        refine XS.aload X116.here hx rfl (hb hby at_57) rfl rfl ?_
        show Steps _ _ _ (T116.setTop (mkF m 59 #[iv q1, iv q2, iv 3, iv 0, rv a_INSERT_INTENTION, iv 0, iv 0] [(.ref a_INSERT_INTENTION), (.ref a_INSERT_INTENTION)])) _
        refine XS.iloadN X116.here hx rfl (hb hby at_59) rfl ?_
        show Steps _ _ _ (T116.setTop (mkF m 60 #[iv q1, iv q2, iv 3, iv 0, rv a_INSERT_INTENTION, iv 0, iv 0] [(.int 0), (.ref a_INSERT_INTENTION), (.ref a_INSERT_INTENTION)])) _
        exact q
      obtain ⟨cq118, kq118, q118a, q118b, q118c⟩ := isOf hZ e116 (Exa.ext O0.2 E_INSERT_INTENTION)
      obtain ⟨_, _, ⟨T118, L118, k118, n118⟩, -, X118, ⟨Lc118, hQ118, l118, y118, z118⟩, st118⟩ := X116.virtualBack hx (y := y_2) (z := y_2) hown (mvT hZ (hw _ (wd 15 rfl))) (mvT hZ (hw _ (wd 16 rfl))) (notFace_of_selects (args := #[]) (mvT hZ (hw _ (wd 18 rfl)))) (mvT hZ (hw _ (wd 18 rfl))) (mvT hZ (hw _ (wd 17 rfl))) (by decide) (backOf (W := 0) (wf_3 l Z a0 hw [] a_NEXT_KEY a_INSERT_INTENTION a_RECORD a_GAP G (0 : Int32) h0 n0 O0 ) hZ (hw _ (wd 19 rfl)) (hw _ (wd 5 rfl)) (by decide) (by decide)) q118a q118c (g := (mkF m 60 #[iv q1, iv q2, iv 3, iv 0, rv a_INSERT_INTENTION, iv 0, iv 0] [(.int 0), (.ref a_INSERT_INTENTION), (.ref a_INSERT_INTENTION)])) rfl (by rw [hml]; rfl) (Steps.refl _) (argsL := [(.ref a_INSERT_INTENTION), (.int 0)]) (rest := []) (lenOf pd_2 rfl) rfl (by show 2 * 0 + _ ≤ _; exact Nat.le_of_eq rfl) (hb hby at_60) (fun _ _ => ⟨rfl, e116, (by decide : 0 + 0 ≤ _), (by decide : 0 + 0 ≤ _)⟩)
      dsimp only [Pt.U, Pt.locs, Pt.cells, Pt.slots] at X118 l118 y118 z118 st118 hQ118
      subst l118 y118 z118
      obtain ⟨rfl, N118q, e118⟩ := hQ118
      have N118 := Fr.app N114 N118q
      have k_119 : Go p.tables e below (s₁.setTop (entryFrame m #[(.int q1), (.int q2)] maxLocals)) (T118.setTop (mkF m 73 #[iv q1, iv q2, iv 3, iv 0, rv a_INSERT_INTENTION, iv 0, iv 0] [(.int 1)])) := fun t q => by
        refine k_117 t ?_
        refine st118.trans ?_
        show Steps _ _ _ (T118.setTop (mkF m 63 #[iv q1, iv q2, iv 3, iv 0, rv a_INSERT_INTENTION, iv 0, iv 0] [(.int 0)])) _
        refine XS.iload X118.here hx rfl (hb hby at_63) rfl ?_
        show Steps _ _ _ (T118.setTop (mkF m 65 #[iv q1, iv q2, iv 3, iv 0, rv a_INSERT_INTENTION, iv 0, iv 0] [(.int 0), (.int 0)])) _
        refine XS.icmpNo X118.here hx rfl (hb hby at_65) rfl (by decide) ?_
        show Steps _ _ _ (T118.setTop (mkF m 68 #[iv q1, iv q2, iv 3, iv 0, rv a_INSERT_INTENTION, iv 0, iv 0] [])) _
        refine XS.iconst X118.here hx rfl (hb hby at_68) ?_
        show Steps _ _ _ (T118.setTop (mkF m 69 #[iv q1, iv q2, iv 3, iv 0, rv a_INSERT_INTENTION, iv 0, iv 0] [(.int 1)])) _
        refine XS.goto X118.here hx rfl (pc0 := 69) (pc' := 73) rfl (hb hby at_69) (by decide) (by decide) ?_
        show Steps _ _ _ (T118.setTop (mkF m 73 #[iv q1, iv q2, iv 3, iv 0, rv a_INSERT_INTENTION, iv 0, iv 0] [(.int 1)])) _
        exact q
      obtain ⟨fs, hr, hrun, hended, hW, hsame⟩ := X118.leave (v := some (.int 1)) (fun h => by rw [Bd.returns] at h; cases h)
      refine ⟨_, _, k_119 _ ?_, hrun, hended, _, _, rfl, ?_, ⟨_, rfl⟩, hW, hsame.mono (by decide) (by decide)⟩
      · exact retN X118 hx (t := .boolean) Bd.returns (by simp) (hb hby at_73) hr
      · show Q0 n0 _ T118.heap _
        rw [e118]
        exact ⟨rfl, N118⟩
    · skip
      have k_120 : Go p.tables e below (s₁.setTop (entryFrame m #[(.int q1), (.int q2)] maxLocals)) (s₁.setTop (mkF m 17 #[iv q1, iv q2, iv 3, iv 1, .unset, .unset, .unset] [(.int 3)])) := fun t q => by
        refine k0 t ?_
        refine XS.iloadN X0.here hx rfl (hb hby at_0) rfl ?_
        show Steps _ _ _ (s₁.setTop (mkF m 1 #[iv q1, iv q2, .unset, .unset, .unset, .unset, .unset] [(.int q1)])) _
        refine XS.iconst X0.here hx rfl (hb hby at_1) ?_
        show Steps _ _ _ (s₁.setTop (mkF m 2 #[iv q1, iv q2, .unset, .unset, .unset, .unset, .unset] [(.int 3), (.int q1)])) _
        refine XS.iand X0.here hx rfl (hb hby at_2) rfl ?_
        show Steps _ _ _ (s₁.setTop (mkF m 3 #[iv q1, iv q2, .unset, .unset, .unset, .unset, .unset] [(.int (q1 &&& (3 : Int32)))])) _
        rw [hi]
        show Steps _ _ _ (s₁.setTop (mkF m 3 #[iv q1, iv q2, .unset, .unset, .unset, .unset, .unset] [(.int 3)])) _
        refine XS.istoreN X0.here hx rfl (hb hby at_3) rfl (l' := #[iv q1, iv q2, iv 3, .unset, .unset, .unset, .unset]) rfl ?_
        show Steps _ _ _ (s₁.setTop (mkF m 4 #[iv q1, iv q2, iv 3, .unset, .unset, .unset, .unset] [])) _
        refine XS.iloadN X0.here hx rfl (hb hby at_4) rfl ?_
        show Steps _ _ _ (s₁.setTop (mkF m 5 #[iv q1, iv q2, iv 3, .unset, .unset, .unset, .unset] [(.int q2)])) _
        refine XS.iconst X0.here hx rfl (hb hby at_5) ?_
        show Steps _ _ _ (s₁.setTop (mkF m 6 #[iv q1, iv q2, iv 3, .unset, .unset, .unset, .unset] [(.int 1), (.int q2)])) _
        refine XS.iand X0.here hx rfl (hb hby at_6) rfl ?_
        show Steps _ _ _ (s₁.setTop (mkF m 7 #[iv q1, iv q2, iv 3, .unset, .unset, .unset, .unset] [(.int (q2 &&& (1 : Int32)))])) _
        rw [hj]
        show Steps _ _ _ (s₁.setTop (mkF m 7 #[iv q1, iv q2, iv 3, .unset, .unset, .unset, .unset] [(.int 1)])) _
        refine XS.ifNo X0.here hx rfl (hb hby at_7) rfl (by decide) ?_
        show Steps _ _ _ (s₁.setTop (mkF m 10 #[iv q1, iv q2, iv 3, .unset, .unset, .unset, .unset] [])) _
        refine XS.iconst X0.here hx rfl (hb hby at_10) ?_
        show Steps _ _ _ (s₁.setTop (mkF m 11 #[iv q1, iv q2, iv 3, .unset, .unset, .unset, .unset] [(.int 1)])) _
        refine XS.goto X0.here hx rfl (pc0 := 11) (pc' := 15) rfl (hb hby at_11) (by decide) (by decide) ?_
        show Steps _ _ _ (s₁.setTop (mkF m 15 #[iv q1, iv q2, iv 3, .unset, .unset, .unset, .unset] [(.int 1)])) _
        refine XS.istoreN X0.here hx rfl (hb hby at_15) rfl (l' := #[iv q1, iv q2, iv 3, iv 1, .unset, .unset, .unset]) rfl ?_
        show Steps _ _ _ (s₁.setTop (mkF m 16 #[iv q1, iv q2, iv 3, iv 1, .unset, .unset, .unset] [])) _
        refine XS.iloadN X0.here hx rfl (hb hby at_16) rfl ?_
        show Steps _ _ _ (s₁.setTop (mkF m 17 #[iv q1, iv q2, iv 3, iv 1, .unset, .unset, .unset] [(.int 3)])) _
        exact q
      obtain ⟨_, _, ⟨T121, L121, k121, n121⟩, -, X121, ⟨Lc121, hQ121, l121, y121, z121⟩, st121⟩ := Jvm.LawKit.callS X0 hx (y := y_0) hown (mvT hZ (hw _ (wd 0 rfl))) (mvT hZ (hw _ (wd 1 rfl))) (mvT hZ (hw _ (wd 2 rfl))) (mvT hZ (hw _ (wd 3 rfl))) (by decide) (backOf (W := 0) (pk_3 l Z a0 hw [] a_NEXT_KEY a_INSERT_INTENTION a_RECORD a_GAP G  h0 n0 O0 ) hZ (hw _ (wd 3 rfl)) (hw _ (wd 2 rfl)) (by decide) (by decide)) (g := (mkF m 17 #[iv q1, iv q2, iv 3, iv 1, .unset, .unset, .unset] [(.int 3)])) rfl (by rw [hml]; rfl) (argsL := [(.int 3)]) (rest := []) (lenOf pd_0 rfl) rfl (by show 2 * 0 + _ ≤ _; exact Nat.le_of_eq rfl) (hb hby at_17) (fun _ _ => ⟨rfl, e0, (by decide : 0 + 0 ≤ _), (by decide : 0 + 0 ≤ _)⟩)
      dsimp only [Pt.U, Pt.locs, Pt.cells, Pt.slots] at X121 l121 y121 z121 st121 hQ121
      subst l121 y121 z121
      obtain ⟨rfl, N121q, e121⟩ := hQ121
      have N121 := Fr.app N0 N121q
      have k_122 : Go p.tables e below (s₁.setTop (entryFrame m #[(.int q1), (.int q2)] maxLocals)) (T121.setTop (mkF m 40 #[iv q1, iv q2, iv 3, iv 1, rv a_INSERT_INTENTION, iv 0, .unset] [(.ref a_INSERT_INTENTION)])) := fun t q => by
        refine k_120 t ?_
        refine st121 _ ?_
        show Steps _ _ _ (T121.setTop (mkF m 20 #[iv q1, iv q2, iv 3, iv 1, .unset, .unset, .unset] [(.ref a_INSERT_INTENTION)])) _
        refine XS.astore X121.here hx rfl (hb hby at_20) rfl rfl (l' := #[iv q1, iv q2, iv 3, iv 1, rv a_INSERT_INTENTION, .unset, .unset]) rfl ?_
        show Steps _ _ _ (T121.setTop (mkF m 22 #[iv q1, iv q2, iv 3, iv 1, rv a_INSERT_INTENTION, .unset, .unset] [])) _
        refine XS.iloadN X121.here hx rfl (hb hby at_22) rfl ?_
        show Steps _ _ _ (T121.setTop (mkF m 23 #[iv q1, iv q2, iv 3, iv 1, rv a_INSERT_INTENTION, .unset, .unset] [(.int 3)])) _
        refine XS.ifNo X121.here hx rfl (hb hby at_23) rfl (by decide) ?_
        show Steps _ _ _ (T121.setTop (mkF m 26 #[iv q1, iv q2, iv 3, iv 1, rv a_INSERT_INTENTION, .unset, .unset] [])) _
        refine XS.iloadN X121.here hx rfl (hb hby at_26) rfl ?_
        show Steps _ _ _ (T121.setTop (mkF m 27 #[iv q1, iv q2, iv 3, iv 1, rv a_INSERT_INTENTION, .unset, .unset] [(.int 3)])) _
        refine XS.iconst X121.here hx rfl (hb hby at_27) ?_
        show Steps _ _ _ (T121.setTop (mkF m 28 #[iv q1, iv q2, iv 3, iv 1, rv a_INSERT_INTENTION, .unset, .unset] [(.int 1), (.int 3)])) _
        refine XS.icmpYes X121.here hx rfl (pc0 := 28) (pc' := 35) rfl (hb hby at_28) rfl (by decide) (by decide) (by decide) ?_
        show Steps _ _ _ (T121.setTop (mkF m 35 #[iv q1, iv q2, iv 3, iv 1, rv a_INSERT_INTENTION, .unset, .unset] [])) _
        refine XS.iconst X121.here hx rfl (hb hby at_35) ?_
        show Steps _ _ _ (T121.setTop (mkF m 36 #[iv q1, iv q2, iv 3, iv 1, rv a_INSERT_INTENTION, .unset, .unset] [(.int 0)])) _
        refine XS.istore X121.here hx rfl (hb hby at_36) rfl (l' := #[iv q1, iv q2, iv 3, iv 1, rv a_INSERT_INTENTION, iv 0, .unset]) rfl ?_
        show Steps _ _ _ (T121.setTop (mkF m 38 #[iv q1, iv q2, iv 3, iv 1, rv a_INSERT_INTENTION, iv 0, .unset] [])) _
        refine XS.aload X121.here hx rfl (hb hby at_38) rfl rfl ?_
        show Steps _ _ _ (T121.setTop (mkF m 40 #[iv q1, iv q2, iv 3, iv 1, rv a_INSERT_INTENTION, iv 0, .unset] [(.ref a_INSERT_INTENTION)])) _
        exact q
      obtain ⟨cq123, kq123, q123a, q123b, q123c⟩ := isOf hZ e121 (Exa.ext O0.2 E_INSERT_INTENTION)
      obtain ⟨_, _, ⟨T123, L123, k123, n123⟩, -, X123, ⟨Lc123, hQ123, l123, y123, z123⟩, st123⟩ := X121.virtualBack hx (y := y_1) (z := y_1) hown (mvT hZ (hw _ (wd 7 rfl))) (mvT hZ (hw _ (wd 8 rfl))) (notFace_of_selects (args := #[]) (mvT hZ (hw _ (wd 10 rfl)))) (mvT hZ (hw _ (wd 10 rfl))) (mvT hZ (hw _ (wd 9 rfl))) (by decide) (backOf (W := 0) (lg_3 l Z a0 hw [] a_NEXT_KEY a_INSERT_INTENTION a_RECORD a_GAP G  h0 n0 O0 ) hZ (hw _ (wd 11 rfl)) (hw _ (wd 5 rfl)) (by decide) (by decide)) q123a q123c (g := (mkF m 40 #[iv q1, iv q2, iv 3, iv 1, rv a_INSERT_INTENTION, iv 0, .unset] [(.ref a_INSERT_INTENTION)])) rfl (by rw [hml]; rfl) (Steps.refl _) (argsL := []) (rest := []) (lenOf pd_1 rfl) rfl (by show 2 * 0 + _ ≤ _; exact Nat.le_of_eq rfl) (hb hby at_40) (fun _ _ => ⟨rfl, e121, (by decide : 0 + 0 ≤ _), (by decide : 0 + 0 ≤ _)⟩)
      dsimp only [Pt.U, Pt.locs, Pt.cells, Pt.slots] at X123 l123 y123 z123 st123 hQ123
      subst l123 y123 z123
      obtain ⟨rfl, N123q, e123⟩ := hQ123
      have N123 := Fr.app N121 N123q
      have k_124 : Go p.tables e below (s₁.setTop (entryFrame m #[(.int q1), (.int q2)] maxLocals)) (T123.setTop (mkF m 54 #[iv q1, iv q2, iv 3, iv 1, rv a_INSERT_INTENTION, iv 0, iv 0] [])) := fun t q => by
        refine k_122 t ?_
        refine st123.trans ?_
        show Steps _ _ _ (T123.setTop (mkF m 43 #[iv q1, iv q2, iv 3, iv 1, rv a_INSERT_INTENTION, iv 0, .unset] [(.int 0)])) _
        refine XS.istore X123.here hx rfl (hb hby at_43) rfl (l' := #[iv q1, iv q2, iv 3, iv 1, rv a_INSERT_INTENTION, iv 0, iv 0]) rfl ?_
        show Steps _ _ _ (T123.setTop (mkF m 45 #[iv q1, iv q2, iv 3, iv 1, rv a_INSERT_INTENTION, iv 0, iv 0] [])) _
        refine XS.iload X123.here hx rfl (hb hby at_45) rfl ?_
        show Steps _ _ _ (T123.setTop (mkF m 47 #[iv q1, iv q2, iv 3, iv 1, rv a_INSERT_INTENTION, iv 0, iv 0] [(.int 0)])) _
        refine XS.iload X123.here hx rfl (hb hby at_47) rfl ?_
        show Steps _ _ _ (T123.setTop (mkF m 49 #[iv q1, iv q2, iv 3, iv 1, rv a_INSERT_INTENTION, iv 0, iv 0] [(.int 0), (.int 0)])) _
        refine XS.icmpYes X123.here hx rfl (pc0 := 49) (pc' := 54) rfl (hb hby at_49) rfl (by decide) (by decide) (by decide) ?_
        show Steps _ _ _ (T123.setTop (mkF m 54 #[iv q1, iv q2, iv 3, iv 1, rv a_INSERT_INTENTION, iv 0, iv 0] [])) _
        exact q
      obtain ⟨T125, X125, e125, st125⟩ := getS2 X123 hx hZ hown (host := "") (Or.inl (hw _ (wd 13 rfl))) Via.refl e123 (S_INSERT_INTENTION.ext O0.2) (g := (mkF m 54 #[iv q1, iv q2, iv 3, iv 1, rv a_INSERT_INTENTION, iv 0, iv 0] [])) rfl (hb hby at_54)
      have k_126 : Go p.tables e below (s₁.setTop (entryFrame m #[(.int q1), (.int q2)] maxLocals)) (T125.setTop (mkF m 60 #[iv q1, iv q2, iv 3, iv 1, rv a_INSERT_INTENTION, iv 0, iv 0] [(.int 1), (.ref a_INSERT_INTENTION), (.ref a_INSERT_INTENTION)])) := fun t q => by
        refine k_124 t ?_
        refine st125 _ ?_
        show Steps _ _ _ (T125.setTop (mkF m 57 #[iv q1, iv q2, iv 3, iv 1, rv a_INSERT_INTENTION, iv 0, iv 0] [(.ref a_INSERT_INTENTION)])) _
        refine XS.aload X125.here hx rfl (hb hby at_57) rfl rfl ?_
        show Steps _ _ _ (T125.setTop (mkF m 59 #[iv q1, iv q2, iv 3, iv 1, rv a_INSERT_INTENTION, iv 0, iv 0] [(.ref a_INSERT_INTENTION), (.ref a_INSERT_INTENTION)])) _
        refine XS.iloadN X125.here hx rfl (hb hby at_59) rfl ?_
        show Steps _ _ _ (T125.setTop (mkF m 60 #[iv q1, iv q2, iv 3, iv 1, rv a_INSERT_INTENTION, iv 0, iv 0] [(.int 1), (.ref a_INSERT_INTENTION), (.ref a_INSERT_INTENTION)])) _
        exact q
      obtain ⟨cq127, kq127, q127a, q127b, q127c⟩ := isOf hZ e125 (Exa.ext O0.2 E_INSERT_INTENTION)
      obtain ⟨_, _, ⟨T127, L127, k127, n127⟩, -, X127, ⟨Lc127, hQ127, l127, y127, z127⟩, st127⟩ := X125.virtualBack hx (y := y_2) (z := y_2) hown (mvT hZ (hw _ (wd 15 rfl))) (mvT hZ (hw _ (wd 16 rfl))) (notFace_of_selects (args := #[]) (mvT hZ (hw _ (wd 18 rfl)))) (mvT hZ (hw _ (wd 18 rfl))) (mvT hZ (hw _ (wd 17 rfl))) (by decide) (backOf (W := 0) (wf_3 l Z a0 hw [] a_NEXT_KEY a_INSERT_INTENTION a_RECORD a_GAP G (1 : Int32) h0 n0 O0 ) hZ (hw _ (wd 19 rfl)) (hw _ (wd 5 rfl)) (by decide) (by decide)) q127a q127c (g := (mkF m 60 #[iv q1, iv q2, iv 3, iv 1, rv a_INSERT_INTENTION, iv 0, iv 0] [(.int 1), (.ref a_INSERT_INTENTION), (.ref a_INSERT_INTENTION)])) rfl (by rw [hml]; rfl) (Steps.refl _) (argsL := [(.ref a_INSERT_INTENTION), (.int 1)]) (rest := []) (lenOf pd_2 rfl) rfl (by show 2 * 0 + _ ≤ _; exact Nat.le_of_eq rfl) (hb hby at_60) (fun _ _ => ⟨rfl, e125, (by decide : 0 + 0 ≤ _), (by decide : 0 + 0 ≤ _)⟩)
      dsimp only [Pt.U, Pt.locs, Pt.cells, Pt.slots] at X127 l127 y127 z127 st127 hQ127
      subst l127 y127 z127
      obtain ⟨rfl, N127q, e127⟩ := hQ127
      have N127 := Fr.app N123 N127q
      have k_128 : Go p.tables e below (s₁.setTop (entryFrame m #[(.int q1), (.int q2)] maxLocals)) (T127.setTop (mkF m 73 #[iv q1, iv q2, iv 3, iv 1, rv a_INSERT_INTENTION, iv 0, iv 0] [(.int 1)])) := fun t q => by
        refine k_126 t ?_
        refine st127.trans ?_
        show Steps _ _ _ (T127.setTop (mkF m 63 #[iv q1, iv q2, iv 3, iv 1, rv a_INSERT_INTENTION, iv 0, iv 0] [(.int 0)])) _
        refine XS.iload X127.here hx rfl (hb hby at_63) rfl ?_
        show Steps _ _ _ (T127.setTop (mkF m 65 #[iv q1, iv q2, iv 3, iv 1, rv a_INSERT_INTENTION, iv 0, iv 0] [(.int 0), (.int 0)])) _
        refine XS.icmpNo X127.here hx rfl (hb hby at_65) rfl (by decide) ?_
        show Steps _ _ _ (T127.setTop (mkF m 68 #[iv q1, iv q2, iv 3, iv 1, rv a_INSERT_INTENTION, iv 0, iv 0] [])) _
        refine XS.iconst X127.here hx rfl (hb hby at_68) ?_
        show Steps _ _ _ (T127.setTop (mkF m 69 #[iv q1, iv q2, iv 3, iv 1, rv a_INSERT_INTENTION, iv 0, iv 0] [(.int 1)])) _
        refine XS.goto X127.here hx rfl (pc0 := 69) (pc' := 73) rfl (hb hby at_69) (by decide) (by decide) ?_
        show Steps _ _ _ (T127.setTop (mkF m 73 #[iv q1, iv q2, iv 3, iv 1, rv a_INSERT_INTENTION, iv 0, iv 0] [(.int 1)])) _
        exact q
      obtain ⟨fs, hr, hrun, hended, hW, hsame⟩ := X127.leave (v := some (.int 1)) (fun h => by rw [Bd.returns] at h; cases h)
      refine ⟨_, _, k_128 _ ?_, hrun, hended, _, _, rfl, ?_, ⟨_, rfl⟩, hW, hsame.mono (by decide) (by decide)⟩
      · exact retN X127 hx (t := .boolean) Bd.returns (by simp) (hb hby at_73) hr
      · show Q0 n0 _ T127.heap _
        rw [e127]
        exact ⟨rfl, N127⟩
set_option maxRecDepth 65536 in
set_option maxHeartbeats 40000000 in
theorem comes_1 {Post : Tables → Env → Array Value → State → Outcome → State → Prop} (hpost : ∀ tb e args s v u, (limb_1_1.after args s (.returned v) u = true ∧ limb_1_2.after args s (.returned v) u = true ∧ True) → FrameEnd s (.returned v) u (Jvm.fieldLocs frame_1_writes args s ++ Jvm.arrayLocs frame_1_arrays args s ++ Jvm.staticLocs frame_1_statics s) 0 0 → Post tb e args s (.returned v) u) :
    ArmFor flags0 classFile x code maxLocals ret World_1 tables_1 room_1 Calls_1 rest_1 Pre_1 Post := by
  intro l hfl _ _ p e ha hc hk s m args below hf hA hF happ hP
  obtain ⟨hcalls, hrest, hpre⟩ := hP
  obtain ⟨-, -, -, hnamed, -, -, -, hat⟩ := (Spec.applies_iff hf).mp happ
  obtain ⟨hg, hn⟩ := and_e (Cond.before_iff.mp (show (Jvm.Cond.and given_1 narrow_1).before args s = true from hpre))
  obtain ⟨g0, c0⟩ := and_e hg
  obtain ⟨g1, c1⟩ := and_e c0
  obtain ⟨w0, w1, rfl⟩ : ∃ w0 w1 : Value, args = #[w0, w1] := by
    have hs : args.size = 2 := by simpa [Cond.value, given_1] using g0
    obtain ⟨L⟩ := args
    match L, hs with
    | [w0, w1], _ => exact ⟨w0, w1, rfl⟩
  have hw := fun d (hd : d ∈ tables_1) => atoms_spec (ws := Jvm.Cond.code x code maxLocals ret :: tables_1) hat d (List.mem_cons_of_mem _ hd)
  obtain ⟨i0, ei0⟩ := is_v g1
  obtain rfl : w0 = (.int i0) := Option.some.inj ei0
  obtain ⟨i1, ei1⟩ := is_v c1
  obtain rfl : w1 = (.int i1) := Option.some.inj ei1
  obtain ⟨n0, r0⟩ := and_e hn
  obtain ⟨n1, r1⟩ := and_e r0
  obtain ⟨n2, r2⟩ := and_e r1
  obtain ⟨n3, r3⟩ := and_e r2
  obtain ⟨n4, r4⟩ := and_e r3
  obtain ⟨n5, r5⟩ := and_e r4
  obtain ⟨n6, r6⟩ := and_e r5
  obtain ⟨a_NEXT_KEY, v_NEXT_KEY⟩ := exa_v n0
  have E_NEXT_KEY := Exa.start v_NEXT_KEY n0
  have S_NEXT_KEY := Sta.start v_NEXT_KEY (Or.inr ⟨(hw _ (wd 5 rfl)), (hw _ (wd 6 rfl))⟩)
  obtain ⟨a_INSERT_INTENTION, v_INSERT_INTENTION⟩ := exa_v n1
  have E_INSERT_INTENTION := Exa.start v_INSERT_INTENTION n1
  have S_INSERT_INTENTION := Sta.start v_INSERT_INTENTION (Or.inr ⟨(hw _ (wd 5 rfl)), (hw _ (wd 14 rfl))⟩)
  obtain ⟨a_RECORD, v_RECORD⟩ := exa_v n2
  have E_RECORD := Exa.start v_RECORD n2
  have S_RECORD := Sta.start v_RECORD (Or.inr ⟨(hw _ (wd 5 rfl)), (hw _ (wd 22 rfl))⟩)
  obtain ⟨a_GAP, v_GAP⟩ := exa_v n5
  have E_GAP := Exa.start v_GAP n5
  have S_GAP := Sta.start v_GAP (Or.inr ⟨(hw _ (wd 5 rfl)), (hw _ (wd 24 rfl))⟩)
  have R_RECORD_ordinal := own_fld v_RECORD n3
  have R_NEXT_KEY_ordinal := own_fld v_NEXT_KEY n4
  have R_GAP_ordinal := own_fld v_GAP n6
  have R_INSERT_INTENTION_ordinal := own_fld v_INSERT_INTENTION r6
  have G : Own s a_NEXT_KEY a_INSERT_INTENTION a_RECORD a_GAP := ⟨S_NEXT_KEY, E_NEXT_KEY, S_INSERT_INTENTION, E_INSERT_INTENTION, S_RECORD, E_RECORD, S_GAP, E_GAP, R_RECORD_ordinal, R_NEXT_KEY_ordinal, R_GAP_ordinal, R_INSERT_INTENTION_ordinal⟩
  obtain ⟨n, o, h1, h2, h3, _, L, rfl, ⟨rfl, N⟩, hq⟩ := rm0 l s _ hw tables_1 a_NEXT_KEY a_INSERT_INTENTION a_RECORD a_GAP G i0 i1 s.heap s.heap.size (Old.start s) p e ha hc hk s m _ below hf ((Spec.applies_iff_loose hf).mp happ).1 ⟨rfl, State.Warmed39.refl s, rfl⟩ trivial
  refine ⟨n, _, h1, h2, h3, hpost _ _ _ _ _ _ ⟨Cond.after_iff.mpr rfl, Cond.after_iff.mpr (eq_i res_at (Term.int_eval (1)) rfl), trivial⟩ ⟨hq.1, hq.2.1, (hq.2.2.sift fun y hy => Or.inr (N y hy)).mono (by decide) (by decide)⟩⟩
theorem main_1_1 : Claimed_1_1 := comes_1 fun _ _ _ _ _ _ h hF => ⟨h.1, hF⟩
theorem main_1_2 : Claimed_1_2 := comes_1 fun _ _ _ _ _ _ h hF => ⟨h.2.1, hF⟩
end Jvm.Pilot.@@N@@
namespace Jvm.Pilot.@@N@@
open Jvm Jvm.ClassFile Sem Op Lib Jvm.Free Jvm.Stand Jvm.Pilot.@@N@@.Jvm.D
/-! MADE BY PROGRAM (witnessworld.py) out of the Statement's table words and the real class files: 12 classes; the members and pool entries that the words name. The judged class is class 1, her method 2. -/
namespace start1
open Jvm.ClassFile
def u (s : String) : CpInfo := .utf8 (stringToUtf16 s)
/-- a pool by its gaps: so many unusable entries, then the entry; so many at the end -/
def gap : Nat → List CpInfo → List CpInfo
  | 0, r => r
  | n + 1, r => .unusable :: gap n r
def poolList (es : List (Nat × CpInfo)) (last : Nat) : List CpInfo := es.foldr (fun e r => gap e.1 (e.2 :: r)) (gap last [])
def pool (es : List (Nat × CpInfo)) (last : Nat) : Array CpInfo := ⟨poolList es last⟩
def fileOf (pool : Array CpInfo) (this : Nat) (attrs : Array Attribute := #[]) (ms : Array MethodInfo := #[]) (fl : Nat := 33) (sup : Nat := 0) (ifs : Array Nat := #[]) (fds : Array FieldInfo := #[]) : ClassFile where
  minorVersion := 0
  majorVersion := 65
  constantPool := pool
  accessFlags := fl
  thisClass := this
  superClass := sup
  interfaces := ifs
  fields := fds
  methods := ms
  attributes := attrs
def plain (name : String) (sup : Option ClassId) : Class where
  name := name
  kind := .ordinary
  loader := none
  accessFlags := 33
  super := sup
  interfaces := #[]
  cf := none
  fields := #[]
  methods := #[]
  instanceTypes := #[]
  staticTypes := #[]
  resolved := #[]
  callSites := []
  init := .initialized
  statics := none
  mirror := none

def pool0 : Array CpInfo := pool [(5, u "<init>"), (0, u "()V"), (1, .class_ 10), (1, u "java/lang/Object")] 113

def k0m0 : Method := { name := "<init>", desc := "()V", sig := { parameters := [], returnType := none }, accessFlags := 1, code := none }
/-- java/lang/Object -/
def k0 : Class := { plain "java/lang/Object" none with
  accessFlags := 33
  interfaces := #[]
  cf := some (fileOf pool0 8 #[] #[{ accessFlags := 1, nameIndex := 5, descriptorIndex := 6, attributes := #[] }] 33 0 #[] #[])
  fields := #[]
  methods := #[k0m0]
  instanceTypes := #[]
  staticTypes := #[]
  resolved := Array.replicate 124 none
  statics := none }

def pool1 : Array CpInfo := pool [(2, .class_ 4), (1, u "java/lang/Object"), (0, u "<init>"), (0, u "()V"), (0, .fieldref 8 9), (0, .class_ 10), (0, .nameAndType 11 12), (0, u "com/example/nkdb/nkdb/transaction/LockKind"), (0, u "NEXT_KEY"), (0, u "Lcom/example/nkdb/nkdb/transaction/LockKind;"), (0, .fieldref 8 14), (0, .nameAndType 15 12), (0, u "GAP"), (0, .fieldref 8 17), (0, .nameAndType 18 12), (0, u "RECORD"), (0, .fieldref 8 20), (0, .nameAndType 21 12), (0, u "INSERT_INTENTION"), (0, .methodref 23 24), (0, .class_ 25), (0, .nameAndType 26 27), (0, u "com/example/nkdb/nkdb/transaction/LockKindLocksGapPinLaw"), (0, u "pick"), (0, u "(I)Lcom/example/nkdb/nkdb/transaction/LockKind;"), (0, .methodref 8 29), (0, .nameAndType 30 31), (0, u "locksGap"), (0, u "()Z"), (0, .methodref 8 33), (0, .nameAndType 34 35), (0, u "waitsFor"), (0, u "(Lcom/example/nkdb/nkdb/transaction/LockKind;Z)Z"), (3, u "law"), (0, u "(II)Z")] 2

def k1m0 : Method := { name := "<init>", desc := "()V", sig := { parameters := [], returnType := none }, accessFlags := 1, code := none }
def k1c1 : Code := { maxStack := 2, maxLocals := 1, code := method_2_code, exceptionTable := #[], attributes := #[] }
def k1m1 : Method := { name := "pick", desc := "(I)Lcom/example/nkdb/nkdb/transaction/LockKind;", sig := { parameters := [.int], returnType := some (.object "com/example/nkdb/nkdb/transaction/LockKind") }, accessFlags := 10, code := some k1c1 }
def k1c2 : Code := { maxStack := 3, maxLocals := 7, code := code, exceptionTable := #[], attributes := #[] }
def k1m2 : Method := { name := "law", desc := "(II)Z", sig := { parameters := [.int, .int], returnType := some .boolean }, accessFlags := 9, code := some k1c2 }
/-- com/example/nkdb/nkdb/transaction/LockKindLocksGapPinLaw -/
def k1 : Class := { plain "com/example/nkdb/nkdb/transaction/LockKindLocksGapPinLaw" (some 0) with
  accessFlags := 49
  interfaces := #[]
  cf := some (fileOf pool1 23 #[] #[{ accessFlags := 1, nameIndex := 5, descriptorIndex := 6, attributes := #[] }, { accessFlags := 10, nameIndex := 26, descriptorIndex := 27, attributes := #[] }, { accessFlags := 9, nameIndex := 39, descriptorIndex := 40, attributes := #[] }] 49 2 #[] #[])
  fields := #[]
  methods := #[k1m0, k1m1, k1m2]
  instanceTypes := #[]
  staticTypes := #[]
  resolved := Array.replicate 43 none
  statics := none }

def pool2 : Array CpInfo := pool [(1, .class_ 2), (0, u "java/lang/constant/Constable"), (0, .class_ 4), (0, u "java/lang/Object")] 6

/-- java/lang/constant/Constable -/
def k2 : Class := { plain "java/lang/constant/Constable" (some 0) with
  accessFlags := 1537
  interfaces := #[]
  cf := some (fileOf pool2 1 #[] #[] 1537 3 #[] #[])
  fields := #[]
  methods := #[]
  instanceTypes := #[]
  staticTypes := #[]
  resolved := Array.replicate 11 none
  statics := none }

def pool3 : Array CpInfo := pool [(1, .class_ 2), (0, u "java/lang/Comparable"), (0, .class_ 4), (0, u "java/lang/Object")] 7

/-- java/lang/Comparable -/
def k3 : Class := { plain "java/lang/Comparable" (some 0) with
  accessFlags := 1537
  interfaces := #[]
  cf := some (fileOf pool3 1 #[] #[] 1537 3 #[] #[])
  fields := #[]
  methods := #[]
  instanceTypes := #[]
  staticTypes := #[]
  resolved := Array.replicate 12 none
  statics := none }

def pool4 : Array CpInfo := pool [(1, .class_ 2), (0, u "java/io/Serializable"), (0, .class_ 4), (0, u "java/lang/Object")] 2

/-- java/io/Serializable -/
def k4 : Class := { plain "java/io/Serializable" (some 0) with
  accessFlags := 1537
  interfaces := #[]
  cf := some (fileOf pool4 1 #[] #[] 1537 3 #[] #[])
  fields := #[]
  methods := #[]
  instanceTypes := #[]
  staticTypes := #[]
  resolved := Array.replicate 7 none
  statics := none }

def pool5 : Array CpInfo := pool [(2, .class_ 4), (1, u "java/lang/Enum"), (0, u "name"), (0, u "Ljava/lang/String;"), (2, u "ordinal"), (0, u "I"), (1, .class_ 14), (1, u "java/lang/Object"), (4, u "hash"), (86, .class_ 108), (1, u "java/lang/Enum$EnumDesc"), (2, .class_ 112), (0, u "java/lang/constant/Constable"), (0, .class_ 114), (0, u "java/lang/Comparable"), (0, .class_ 116), (0, u "java/io/Serializable")] 87

/-- java/lang/Enum -/
def k5 : Class := { plain "java/lang/Enum" (some 0) with
  accessFlags := 1057
  interfaces := #[2, 3, 4]
  cf := some (fileOf pool5 2 #[.nestMembers #[106]] #[] 1057 12 #[111, 113, 115] #[{ accessFlags := 18, nameIndex := 5, descriptorIndex := 6, attributes := #[] }, { accessFlags := 18, nameIndex := 9, descriptorIndex := 10, attributes := #[] }, { accessFlags := 2, nameIndex := 19, descriptorIndex := 10, attributes := #[] }])
  fields := #[{ name := "name", type := (.object "java/lang/String"), accessFlags := 18, slot := 0, constantValue := 0 }, { name := "ordinal", type := .int, accessFlags := 18, slot := 1, constantValue := 0 }, { name := "hash", type := .int, accessFlags := 2, slot := 2, constantValue := 0 }]
  methods := #[]
  instanceTypes := #[(.object "java/lang/String"), .int, .int]
  staticTypes := #[]
  resolved := Array.replicate 204 none
  statics := none }

def pool6 : Array CpInfo := pool [(1, .class_ 2), (0, u "com/example/nkdb/nkdb/transaction/LockKind"), (0, .fieldref 1 4), (0, .nameAndType 5 6), (0, u "NEXT_KEY"), (0, u "Lcom/example/nkdb/nkdb/transaction/LockKind;"), (0, .fieldref 1 8), (0, .nameAndType 9 6), (0, u "GAP"), (2, u "RECORD"), (0, .fieldref 1 14), (0, .nameAndType 15 6), (0, u "INSERT_INTENTION"), (2, u "$VALUES"), (0, u "[Lcom/example/nkdb/nkdb/transaction/LockKind;"), (6, .class_ 28), (1, u "java/lang/Enum"), (9, u "()Z"), (16, u "waitsFor"), (0, u "(Lcom/example/nkdb/nkdb/transaction/LockKind;Z)Z"), (2, u "locksGap")] 4

def k6c0 : Code := { maxStack := 2, maxLocals := 4, code := prog_87_method_4_code, exceptionTable := #[], attributes := #[] }
def k6m0 : Method := { name := "waitsFor", desc := "(Lcom/example/nkdb/nkdb/transaction/LockKind;Z)Z", sig := { parameters := [(.object "com/example/nkdb/nkdb/transaction/LockKind"), .boolean], returnType := some .boolean }, accessFlags := 0, code := some k6c0 }
def k6c1 : Code := { maxStack := 2, maxLocals := 1, code := prog_87_method_6_code, exceptionTable := #[], attributes := #[] }
def k6m1 : Method := { name := "locksGap", desc := "()Z", sig := { parameters := [], returnType := some .boolean }, accessFlags := 0, code := some k6c1 }
/-- com/example/nkdb/nkdb/transaction/LockKind -/
def k6 : Class := { plain "com/example/nkdb/nkdb/transaction/LockKind" (some 5) with
  accessFlags := 16433
  interfaces := #[]
  cf := some (fileOf pool6 1 #[] #[{ accessFlags := 0, nameIndex := 55, descriptorIndex := 56, attributes := #[] }, { accessFlags := 0, nameIndex := 59, descriptorIndex := 38, attributes := #[] }] 16433 26 #[] #[{ accessFlags := 16409, nameIndex := 5, descriptorIndex := 6, attributes := #[] }, { accessFlags := 16409, nameIndex := 9, descriptorIndex := 6, attributes := #[] }, { accessFlags := 16409, nameIndex := 12, descriptorIndex := 6, attributes := #[] }, { accessFlags := 16409, nameIndex := 15, descriptorIndex := 6, attributes := #[] }, { accessFlags := 4122, nameIndex := 18, descriptorIndex := 19, attributes := #[] }])
  fields := #[{ name := "NEXT_KEY", type := (.object "com/example/nkdb/nkdb/transaction/LockKind"), accessFlags := 16409, slot := 0, constantValue := 0 }, { name := "GAP", type := (.object "com/example/nkdb/nkdb/transaction/LockKind"), accessFlags := 16409, slot := 1, constantValue := 0 }, { name := "RECORD", type := (.object "com/example/nkdb/nkdb/transaction/LockKind"), accessFlags := 16409, slot := 2, constantValue := 0 }, { name := "INSERT_INTENTION", type := (.object "com/example/nkdb/nkdb/transaction/LockKind"), accessFlags := 16409, slot := 3, constantValue := 0 }, { name := "$VALUES", type := (.array (.object "com/example/nkdb/nkdb/transaction/LockKind")), accessFlags := 4122, slot := 4, constantValue := 0 }]
  methods := #[k6m0, k6m1]
  instanceTypes := #[(.object "java/lang/String"), .int, .int]
  staticTypes := #[(.object "com/example/nkdb/nkdb/transaction/LockKind"), (.object "com/example/nkdb/nkdb/transaction/LockKind"), (.object "com/example/nkdb/nkdb/transaction/LockKind"), (.object "com/example/nkdb/nkdb/transaction/LockKind"), (.array (.object "com/example/nkdb/nkdb/transaction/LockKind"))]
  resolved := Array.replicate 64 none
  statics := some 0 }

def pool7 : Array CpInfo := pool [(1, u "java/lang/Cloneable"), (0, .class_ 1), (0, u "java/lang/Object"), (0, .class_ 3)] 3

/-- java/lang/Cloneable -/
def k7 : Class := { plain "java/lang/Cloneable" (some 0) with
  accessFlags := 1537
  interfaces := #[]
  cf := some (fileOf pool7 2 #[] #[] 1537 4 #[] #[])
  fields := #[]
  methods := #[]
  instanceTypes := #[]
  staticTypes := #[]
  resolved := Array.replicate 8 none
  statics := none }

/-- the primitive byte -/
def k8 : Class := { plain "byte" none with kind := .primitive 'B', accessFlags := 0x411 }
/-- [B -/
def k9 : Class := { plain "[B" (some 0) with kind := .array 8 .byte, interfaces := #[7, 4], accessFlags := 1041 }

/-- the primitive int -/
def k10 : Class := { plain "int" none with kind := .primitive 'I', accessFlags := 0x411 }
/-- [I -/
def k11 : Class := { plain "[I" (some 0) with kind := .array 10 .int, interfaces := #[7, 4], accessFlags := 1041 }

def heap : Heap := #[{ cls := 6, slots := #[.ref 1, .ref 4, .ref 3, .ref 2, .null], vm := .statics 6 },
  { cls := 6, slots := #[.null, .int 0, .int 0], vm := .none },
  { cls := 6, slots := #[.null, .int 3, .int 0], vm := .none },
  { cls := 6, slots := #[.null, .int 2, .int 0], vm := .none },
  { cls := 6, slots := #[.null, .int 1, .int 0], vm := .none }]
def classes : Array Class := #[k0, k1, k2, k3, k4, k5, k6, k7, k8, k9, k10, k11]
def interned : List (Array UInt16 × Addr) := []
def slotsUsed : Nat := 17
def theMethod : MethodId := ⟨1, 2⟩
def args0 : Array Value := #[.int 5, .int 6]
def aboutOver (below : List Frame) : State where
  vm := { classes := classes, interned := interned.toArray }
  heap := heap
  slotsUsed := slotsUsed
  threads := #[{ frames := .invoking theMethod args0 :: below }]
def below0 : List Frame := [.native { method := ⟨0, 0⟩, args := #[] }]
def about1 : State := aboutOver below0
def p0 : Program := .bare "" "" ""
def e0 : Env := launch0.env 0 0 0
theorem w_frames : about1.frames = Frame.invoking theMethod args0 :: below0 := rfl
set_option maxRecDepth 65536 in
theorem w_args : argsFit about1.vm theMethod args0 = true := by decide +kernel
set_option maxRecDepth 65536 in
theorem w_heap : heapFits about1 = true := by decide +kernel
set_option maxRecDepth 65536 in
theorem w_runnable : about1.curStatus? = some .runnable := by decide +kernel
set_option maxRecDepth 65536 in
theorem w_alone : about1.alone = true := by decide +kernel
set_option maxRecDepth 65536 in
theorem w_named : about1.methodNamed? x = some theMethod := by decide +kernel
set_option maxRecDepth 65536 in
theorem w_hears : about1.hears theMethod below0 = true := by decide +kernel
set_option maxRecDepth 65536 in
theorem w_ripe : about1.ripe theMethod args0 below0 = true := by decide +kernel
theorem w_running : about1.status = .running := rfl
set_option maxRecDepth 65536 in
theorem w_room : about1.hasRoom e0.platform room_1 = true :=
  launch0.hasRoom_least _ room_1 (by decide +kernel) (by decide +kernel) (by decide +kernel) (by decide +kernel) (by decide +kernel) (by decide +kernel)
theorem allAtoms_all (ts : List Jvm.Cond) (a : Array Jvm.Value) (st : Jvm.State) : (allAtoms ts).before a st = ts.all (fun c => c.before a st) := by
  induction ts with
  | nil => rfl
  | cons c t ih =>
    show (Jvm.Cond.and c (allAtoms t)).before a st = _
    rw [Jvm.Cond.before_and, ih, List.all_cons]
def words1 : List Jvm.Cond := Jvm.Cond.code x code maxLocals ret :: tables_1
/-- a 'code' word, met by the world's own term for the bytes: nothing is compared byte by byte -/
theorem code_word {y : MethodName} {bytes : ByteArray} {mx : Nat} {rt : Option FieldType} {a : Array Value} {s : State} {m : MethodId} {meth : Method} {c : Code} (h1 : s.methodNamed? y = some m) (h2 : s.vm.method? m = some meth) (h3 : meth.code = some c) (h4 : c.code = bytes)
    (h5 : (c.maxLocals == mx && c.exceptionTable.isEmpty && decide (c.maxStack ≤ mostOperands) && decide (meth.sig.returnType = rt) && !meth.locks && decide (parseMethodDescriptor y.desc = some meth.sig)) = true) : (Jvm.Cond.code y bytes mx rt).before a s = true := by
  simp only [Bool.and_eq_true, beq_iff_eq, Bool.not_eq_true', decide_eq_true_eq] at h5
  obtain ⟨⟨⟨⟨⟨g1, g2⟩, g3⟩, g4⟩, g5⟩, g6⟩ := h5
  simp [Cond.before, Cond.holds, Cond.value, h1, h2, h3, h4, g1, g2, g3, g4, g5, g6]
def isCode : Jvm.Cond → Bool
  | .code _ _ _ _ => true
  | _ => false
theorem all_split {L : List Jvm.Cond} {P : Jvm.Cond → Bool} (h1 : L.all (fun c => isCode c || P c) = true) (h2 : ∀ c ∈ L.filter isCode, P c = true) : L.all P = true := by
  refine List.all_eq_true.mpr fun c hc => ?_
  have h := List.all_eq_true.mp h1 c hc
  rcases Bool.eq_false_or_eq_true (isCode c) with hi | hi
  · exact h2 c (List.mem_filter.mpr ⟨hc, hi⟩)
  · simpa [hi] using h
set_option maxRecDepth 65536 in
theorem w_c0 : (Jvm.Cond.code x code maxLocals ret).before args0 about1 = true := code_word (m := ⟨1, 2⟩) (meth := k1m2) (c := k1c2) (by decide +kernel) rfl rfl rfl (by decide +kernel)
set_option maxRecDepth 65536 in
theorem w_c1 : (Jvm.Cond.code ({ cls := "com/example/nkdb/nkdb/transaction/LockKindLocksGapPinLaw", name := "pick", desc := "(I)Lcom/example/nkdb/nkdb/transaction/LockKind;" } : Jvm.MethodName) method_2_code (1 : Nat) (Option.some (Jvm.ClassFile.FieldType.object "com/example/nkdb/nkdb/transaction/LockKind"))).before args0 about1 = true := code_word (m := ⟨1, 1⟩) (meth := k1m1) (c := k1c1) (by decide +kernel) rfl rfl rfl (by decide +kernel)
set_option maxRecDepth 65536 in
theorem w_c2 : (Jvm.Cond.code ({ cls := "com/example/nkdb/nkdb/transaction/LockKind", name := "locksGap", desc := "()Z" } : Jvm.MethodName) prog_87_method_6_code (1 : Nat) (Option.some Jvm.ClassFile.FieldType.boolean)).before args0 about1 = true := code_word (m := ⟨6, 1⟩) (meth := k6m1) (c := k6c1) (by decide +kernel) rfl rfl rfl (by decide +kernel)
set_option maxRecDepth 65536 in
theorem w_c3 : (Jvm.Cond.code ({ cls := "com/example/nkdb/nkdb/transaction/LockKind", name := "waitsFor", desc := "(Lcom/example/nkdb/nkdb/transaction/LockKind;Z)Z" } : Jvm.MethodName) prog_87_method_4_code (4 : Nat) (Option.some Jvm.ClassFile.FieldType.boolean)).before args0 about1 = true := code_word (m := ⟨6, 0⟩) (meth := k6m0) (c := k6c0) (by decide +kernel) rfl rfl rfl (by decide +kernel)
def codes1 : List Jvm.Cond := [Jvm.Cond.code x code maxLocals ret, Jvm.Cond.code ({ cls := "com/example/nkdb/nkdb/transaction/LockKindLocksGapPinLaw", name := "pick", desc := "(I)Lcom/example/nkdb/nkdb/transaction/LockKind;" } : Jvm.MethodName) method_2_code (1 : Nat) (Option.some (Jvm.ClassFile.FieldType.object "com/example/nkdb/nkdb/transaction/LockKind")), Jvm.Cond.code ({ cls := "com/example/nkdb/nkdb/transaction/LockKind", name := "locksGap", desc := "()Z" } : Jvm.MethodName) prog_87_method_6_code (1 : Nat) (Option.some Jvm.ClassFile.FieldType.boolean), Jvm.Cond.code ({ cls := "com/example/nkdb/nkdb/transaction/LockKind", name := "waitsFor", desc := "(Lcom/example/nkdb/nkdb/transaction/LockKind;Z)Z" } : Jvm.MethodName) prog_87_method_4_code (4 : Nat) (Option.some Jvm.ClassFile.FieldType.boolean)]
set_option maxRecDepth 65536 in
theorem codes_eq : words1.filter isCode = codes1 := rfl
theorem w_codes : ∀ c ∈ words1.filter isCode, c.before args0 about1 = true := by
  rw [codes_eq]
  intro c hc
  simp only [codes1, List.mem_cons, List.not_mem_nil, or_false] at hc
  rcases hc with rfl | rfl | rfl | rfl
  · exact w_c0
  · exact w_c1
  · exact w_c2
  · exact w_c3
set_option maxRecDepth 65536 in
theorem w_t1 : (words1.take 24).all (fun c => isCode c || c.before args0 about1) = true := by decide +kernel
set_option maxRecDepth 65536 in
theorem w_t2 : (words1.drop 24).all (fun c => isCode c || c.before args0 about1) = true := by decide +kernel
theorem w_tables : (allAtoms (Jvm.Cond.code x code maxLocals ret :: tables_1)).before args0 about1 = true := by
  rw [allAtoms_all]
  show words1.all (fun c => c.before args0 about1) = true
  refine all_split ?_ w_codes
  rw [← List.take_append_drop 24 words1, List.all_append, w_t1, w_t2]
  rfl
set_option maxRecDepth 65536 in
theorem w_case : (Jvm.Cond.and given_1 narrow_1).before args0 about1 = true := by decide +kernel
theorem w_applies : (headSpec (Jvm.Cond.code x code maxLocals ret :: tables_1) room_1).applies x e0.platform about1 = true :=
  (Spec.applies_iff w_frames).mpr ⟨w_running, w_runnable, w_alone, w_named, w_hears, w_ripe, w_room, w_tables⟩
theorem atStart : AtStart classFile x code maxLocals ret World_1 tables_1 room_1 Calls_1 rest_1 Pre_1 launch0 p0 e0 about1 theMethod args0 below0 :=
  ⟨lists_1, trivial, launch0.admits_env _ _ _, launch0.least_env, fairChoices_fair.cas, fairChoices_fair.clock, w_frames, w_args, w_heap, w_applies, trivial, trivial, w_case⟩
end start1
theorem witness_1 : WitnessClaimed_1 := ⟨start1.p0, start1.e0, start1.about1, start1.theMethod, start1.args0, start1.below0, start1.atStart⟩
end Jvm.Pilot.@@N@@
