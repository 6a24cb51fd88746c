import JvmDerived
import JvmDerived.Pilot.@@N@@Statement
import JvmDerived.Pilot.@@N@@Code
set_option linter.unusedVariables false
set_option linter.unusedSimpArgs false
namespace Jvm.Pilot.@@N@@
open Jvm Jvm.ClassFile Sem Op Lib Jvm.Free Jvm.Stand Jvm.LawKit Jvm.RoadKit Bundle Jvm.Pilot.@@N@@.Jvm.D
theorem wd {d : Jvm.Cond} (i : Nat) (h : tables_1[i]? = some d) : d ∈ tables_1 := List.mem_of_getElem? h
def Go (tb : Tables) (e : Env) (below : List Frame) (S0 S : State) : Prop := ∀ t, Steps tb e below S t → Steps tb e below S0 t
theorem own_old_le {Z : State} {n0 : Nat} {h : Heap} (O : Old Z n0 h) : n0 ≤ h.size := O.1 ▸ O.2.1
theorem own_lcmp_self (x : Int64) : lcmpW x x = 0 := by rw [lcW, lc_eq]
theorem own_ne {Z : State} {h : Heap} {a b : Addr} {C n d : String} {i j : Int32} (F : Fld Z h a C n d (.int i)) (G : Fld Z h b C n d (.int j)) (q : i ≠ j) : a ≠ b := F.ne G fun e => q (Value.int.inj e)
theorem own_narrow_ref {v : Value} {n : String} (h : v.isRef = true) : narrow (.object n) v = v := by rcases ref_cases h with rfl | ⟨_, rfl⟩ <;> rfl
theorem own_fits_ref {v : Value} {n : String} (h : v.isRef = true) : fits (.object n) v = true := by rcases ref_cases h with rfl | ⟨_, rfl⟩ <;> rfl
theorem own_narrow_bool {z : Int32} (h : z = 0 ∨ z = 1) : narrow .boolean (.int z) = .int z := by rcases h with rfl | rfl <;> rfl
theorem own_fits_bool {z : Int32} (h : z = 0 ∨ z = 1) : fits .boolean (.int z) = true := by rcases h with rfl | rfl <;> rfl
def QV (w : Option Value) (h0 : Heap) (n0 : Nat) (v : Option Value) (h : Heap) (L : List Loc) : Prop := v = w ∧ Fr n0 L ∧ h = h0
def Q0 (n0 : Nat) (v : Option Value) (h : Heap) (L : List Loc) : Prop := v = some (.int (1 : Int32)) ∧ Fr n0 L
abbrev y_0 : MethodName := ⟨"java/lang/Record", "<init>", "()V"⟩
abbrev y_1 : MethodName := ⟨"com/example/setnix/setnix/io/Attempt", "<init>", "(Lcom/example/setnix/setnix/io/Attempt$Outcome;JJ)V"⟩
abbrev y_2 : MethodName := ⟨"com/example/setnix/setnix/io/Attempt", "held", "()Z"⟩
theorem d1_0 : decode prog_3_method_1_code 0 = .ok (.aload_n 0, 1) := by decide +kernel
theorem d1_1 : decode prog_3_method_1_code 1 = .ok (.invokespecial 1, 3) := by decide +kernel
theorem d1_4 : decode prog_3_method_1_code 4 = .ok (.aload_n 0, 1) := by decide +kernel
theorem d1_5 : decode prog_3_method_1_code 5 = .ok (.aload_n 1, 1) := by decide +kernel
theorem d1_6 : decode prog_3_method_1_code 6 = .ok (.putfield 7, 3) := by decide +kernel
theorem d1_9 : decode prog_3_method_1_code 9 = .ok (.aload_n 0, 1) := by decide +kernel
theorem d1_10 : decode prog_3_method_1_code 10 = .ok (.lload_n 2, 1) := by decide +kernel
theorem d1_11 : decode prog_3_method_1_code 11 = .ok (.putfield 13, 3) := by decide +kernel
theorem d1_14 : decode prog_3_method_1_code 14 = .ok (.aload_n 0, 1) := by decide +kernel
theorem d1_15 : decode prog_3_method_1_code 15 = .ok (.lload 4, 2) := by decide +kernel
theorem d1_17 : decode prog_3_method_1_code 17 = .ok (.putfield 17, 3) := by decide +kernel
theorem d1_20 : decode prog_3_method_1_code 20 = .ok (.return_, 1) := by decide +kernel
theorem d2_0 : decode jdk_30_method_1_code 0 = .ok (.aload_n 0, 1) := by decide +kernel
theorem d2_1 : decode jdk_30_method_1_code 1 = .ok (.invokespecial 1, 3) := by decide +kernel
theorem d2_4 : decode jdk_30_method_1_code 4 = .ok (.return_, 1) := by decide +kernel
theorem d4_0 : decode prog_3_method_4_code 0 = .ok (.aload_n 0, 1) := by decide +kernel
theorem d4_1 : decode prog_3_method_4_code 1 = .ok (.getfield 7, 3) := by decide +kernel
theorem d4_4 : decode prog_3_method_4_code 4 = .ok (.getstatic 20, 3) := by decide +kernel
theorem d4_7 : decode prog_3_method_4_code 7 = .ok (.if_acmp .eq 13, 3) := by decide +kernel
theorem d4_10 : decode prog_3_method_4_code 10 = .ok (.aload_n 0, 1) := by decide +kernel
theorem d4_11 : decode prog_3_method_4_code 11 = .ok (.getfield 7, 3) := by decide +kernel
theorem d4_14 : decode prog_3_method_4_code 14 = .ok (.getstatic 31, 3) := by decide +kernel
theorem d4_17 : decode prog_3_method_4_code 17 = .ok (.if_acmp .ne 7, 3) := by decide +kernel
theorem d4_20 : decode prog_3_method_4_code 20 = .ok (.iconst 1, 1) := by decide +kernel
theorem d4_21 : decode prog_3_method_4_code 21 = .ok (.goto 4, 3) := by decide +kernel
theorem d4_24 : decode prog_3_method_4_code 24 = .ok (.iconst 0, 1) := by decide +kernel
theorem d4_25 : decode prog_3_method_4_code 25 = .ok (.ireturn, 1) := by decide +kernel
theorem pn_0 : plainName "java/lang/Record" = true := by first | (simp [plainName, overriddenIn]; done) | decide +kernel
theorem pn_1 : plainName "com/example/setnix/setnix/io/Attempt" = true := by first | (simp [plainName, overriddenIn]; done) | decide +kernel
theorem pn_2 : plainName "com/example/setnix/setnix/io/AttemptHeldPinLaw" = true := by first | (simp [plainName, overriddenIn]; done) | decide +kernel
theorem pd_0 : parseMethodDescriptor "()V" = some ⟨[], none⟩ := by decide +kernel
theorem pd_1 : parseMethodDescriptor "(Lcom/example/setnix/setnix/io/Attempt$Outcome;JJ)V" = some ⟨[(.object "com/example/setnix/setnix/io/Attempt$Outcome"), .long, .long], none⟩ := by decide +kernel
theorem pd_2 : parseMethodDescriptor "()Z" = some ⟨[], some .boolean⟩ := by decide +kernel
theorem own_cases_4 {y : Int32} (h0 : 0 ≤ y.toInt) (h1 : y.toInt < 4) : y = 0 ∨ y = 1 ∨ y = 2 ∨ y = 3 := by
  have h : y.toInt = 0 ∨ y.toInt = 1 ∨ y.toInt = 2 ∨ y.toInt = 3 := by omega
  rcases h with h | h | h | h
  · exact (Or.inl (Int32.toInt_inj.mp (h.trans (show (0 : Int) = (0 : Int32).toInt from by decide))))
  · exact (Or.inr (Or.inl (Int32.toInt_inj.mp (h.trans (show (1 : Int) = (1 : Int32).toInt from by decide)))))
  · exact (Or.inr (Or.inr (Or.inl (Int32.toInt_inj.mp (h.trans (show (2 : Int) = (2 : Int32).toInt from by decide))))))
  · exact (Or.inr (Or.inr (Or.inr (Int32.toInt_inj.mp (h.trans (show (3 : Int) = (3 : Int32).toInt from by decide))))))
theorem own_mask_4 (x : Int32) : x &&& 3 = 0 ∨ x &&& 3 = 1 ∨ x &&& 3 = 2 ∨ x &&& 3 = 3 := by
  have h := c_and x 3 (by decide)
  have e : (3 : Int32).toInt = 3 := by decide
  exact own_cases_4 h.1 (by omega)
def Own (Z : State) (a_TAKEN a_REFUSED a_ALREADY_HELD a_FREE : Addr) : Prop := Sta Z Z.heap "com/example/setnix/setnix/io/Attempt$Outcome" "TAKEN" "Lcom/example/setnix/setnix/io/Attempt$Outcome;" (.ref a_TAKEN) ∧ Exa Z Z.heap a_TAKEN "com/example/setnix/setnix/io/Attempt$Outcome" ∧ Sta Z Z.heap "com/example/setnix/setnix/io/Attempt$Outcome" "REFUSED" "Lcom/example/setnix/setnix/io/Attempt$Outcome;" (.ref a_REFUSED) ∧ Exa Z Z.heap a_REFUSED "com/example/setnix/setnix/io/Attempt$Outcome" ∧ Sta Z Z.heap "com/example/setnix/setnix/io/Attempt$Outcome" "ALREADY_HELD" "Lcom/example/setnix/setnix/io/Attempt$Outcome;" (.ref a_ALREADY_HELD) ∧ Exa Z Z.heap a_ALREADY_HELD "com/example/setnix/setnix/io/Attempt$Outcome" ∧ Sta Z Z.heap "com/example/setnix/setnix/io/Attempt$Outcome" "FREE" "Lcom/example/setnix/setnix/io/Attempt$Outcome;" (.ref a_FREE) ∧ Exa Z Z.heap a_FREE "com/example/setnix/setnix/io/Attempt$Outcome" ∧ Fld Z Z.heap a_REFUSED "java/lang/Enum" "ordinal" "I" (.int 2) ∧ Fld Z Z.heap a_TAKEN "java/lang/Enum" "ordinal" "I" (.int 0) ∧ Fld Z Z.heap a_ALREADY_HELD "java/lang/Enum" "ordinal" "I" (.int 1) ∧ Fld Z Z.heap a_FREE "java/lang/Enum" "ordinal" "I" (.int 3)
theorem own_fld {args : Array Value} {s : State} {t : Term} {C n d : String} {a : Addr} {k : Int32} (ev : t.eval args s none [] s = some (.ref a)) (h : (Jvm.Cond.eq (.field t C n d) (.int k)).value args s none s [] = some true) : Fld s s.heap a C n d (.int k) := by
  refine Fld.start ?_
  obtain ⟨u, w, h1, h2, h3, h4⟩ := cmp_v (Or.inl h)
  have e2 : w = .int k := (Option.some.inj h2).symm
  subst e2
  obtain ⟨z, rfl⟩ := h4
  rw [fld_at ev] at h1
  rw [h1]
  have q : (Jvm.Cond.eq (.field t C n d) (.int k)).value args s none s [] = some (decide (z = k)) := by simp [Cond.value, Term.eval, ev, h1]
  have := gotT q h
  rw [this]
def QI_r (Z : State) (a : Addr) (x0 : Addr) (x1 : Int64) (x2 : Int64) (h0 : Heap) (n0 : Nat) (v : Option Value) (h : Heap) (L : List Loc) : Prop := v = none ∧ Fr n0 L ∧ Keep h0 h [a] ∧ Fld Z h a "com/example/setnix/setnix/io/Attempt" "outcome" "Lcom/example/setnix/setnix/io/Attempt$Outcome;" (.ref x0) ∧ Fld Z h a "com/example/setnix/setnix/io/Attempt" "holderLeaseMillis" "J" (.long x1) ∧ Fld Z h a "com/example/setnix/setnix/io/Attempt" "fencingToken" "J" (.long x2)
def QM_r (Z : State) (x0 : Addr) (x1 : Int64) (x2 : Int64) (h0 : Heap) (n0 : Nat) (v : Option Value) (h : Heap) (L : List Loc) : Prop := ∃ b : Addr, v = some (.ref b) ∧ Fr n0 L ∧ Keep h0 h [] ∧ n0 ≤ b ∧ h0.size ≤ b ∧ Exa Z h b "com/example/setnix/setnix/io/Attempt" ∧ Fld Z h b "com/example/setnix/setnix/io/Attempt" "outcome" "Lcom/example/setnix/setnix/io/Attempt$Outcome;" (.ref x0) ∧ Fld Z h b "com/example/setnix/setnix/io/Attempt" "holderLeaseMillis" "J" (.long x1) ∧ Fld Z h b "com/example/setnix/setnix/io/Attempt" "fencingToken" "J" (.long x2)
set_option maxRecDepth 65536 in
set_option maxHeartbeats 40000000 in
theorem rec0 (l : Launch) (Z : State) (a0 : Array Value) (hw : ∀ d ∈ tables_1, d.before a0 Z = true) (ws : List Jvm.Cond) (a_TAKEN a_REFUSED a_ALREADY_HELD a_FREE : Addr) (G : Own Z a_TAKEN a_REFUSED a_ALREADY_HELD a_FREE) (a1 : Addr) (h0 : Heap) (n0 : Nat) (O0 : Old Z n0 h0)  :
    MetFree l y_0 (head1 (Jvm.Cond.code y_0 jdk_30_method_1_code 1 none :: ws) ({ frames := 1, cells := 0, slots := 0, locals := 12 } : Room)) (fun a U => a = #[(.ref a1)] ∧ Z.Warmed39 U.vm ∧ U.heap = h0) (fun _ _ _ _ _ => True) (fun _ U o U' => ∃ v L, o = .returned v ∧ QV none h0 n0 v U'.heap L ∧ FrameEnd U o U' L ({ frames := 1, cells := 0, slots := 0, locals := 12 } : Room).cells ({ frames := 1, cells := 0, slots := 0, locals := 12 } : Room).slots) := by
  refine MetFree.of_bodySF (plainFor_of_name pn_0) hisR ?_
  intro p e s m args below meth c s₁ Bd hml0 hP hK
  obtain ⟨rfl, hZ, hh⟩ := hP
  have hx := Bd.exec
  have hby := Bd.bytes
  have hml : c.maxLocals = 1 := hml0
  have hown : s.vm.findClass "java/lang/Record" = some m.cls := findClass_of_methodNamed Bd.named
  have hnm := (name_of_methodNamed Bd.named Bd.method).1
  have X0 : Stand p l e ({ frames := 1, cells := 0, slots := 0, locals := 12 } : Room) s m #[(.ref a1)] below meth c s₁ [] 0 0 := Stand.of_body Bd
  have e0 : s₁.heap = h0 := by rw [← hh, Bd.state]; rfl
  have N0 := Fr.nil n0
  have K0 := Keep.refl h0 []
  have k0 : Go p.tables e below (s₁.setTop (entryFrame m #[(.ref a1)] 1)) (s₁.setTop (mkF m 0 #[rv a1] [])) := fun t k => castTop (by first | rfl | (simp [entryFrame, mkF, argsToLocals, Value.category]; done)) k
  have ⟨S_TAKEN, E_TAKEN, S_REFUSED, E_REFUSED, S_ALREADY_HELD, E_ALREADY_HELD, S_FREE, E_FREE, R_REFUSED_ordinal, R_TAKEN_ordinal, R_ALREADY_HELD_ordinal, R_FREE_ordinal⟩ := G
  have k_1 : Go p.tables e below (s₁.setTop (entryFrame m #[(.ref a1)] 1)) (s₁.setTop (mkF m 1 #[rv a1] [(.ref a1)])) := fun t q => by
    refine k0 t ?_
    refine XS.aloadN X0.here hx rfl (hb hby d2_0) rfl rfl ?_
    show Steps _ _ _ (s₁.setTop (mkF m 1 #[rv a1] [(.ref a1)])) _
    exact q
  obtain ⟨T2, X2, e2, st2⟩ := initO X0 hx hZ hown (hw _ (wd 14 rfl)) (hw _ (wd 15 rfl)) (hw _ (wd 16 rfl)) e0 (g := (mkF m 1 #[rv a1] [(.ref a1)])) rfl (by rw [hml]; rfl) rfl (hb hby d2_1) (by decide) (W := 0) (by show 2 * 0 + _ ≤ _; exact Nat.le_of_eq rfl) (by decide)
  have k_3 : Go p.tables e below (s₁.setTop (entryFrame m #[(.ref a1)] 1)) (T2.setTop (mkF m 4 #[rv a1] [])) := fun t q => by
    refine k_1 t ?_
    refine st2 _ ?_
    show Steps _ _ _ (T2.setTop (mkF m 4 #[rv a1] [])) _
    exact q
  obtain ⟨fs, hr, hrun, hended, hW, hsame⟩ := X2.leave (v := none) (fun _ => rfl)
  refine ⟨_, _, k_3 _ ?_, hrun, hended, _, _, rfl, ?_, ⟨_, rfl⟩, hW, hsame.mono (by decide) (by decide)⟩
  · exact X2.returnOut hx Bd.returns (hb hby d2_4) hr
  · show QV none h0 n0 _ T2.heap _
    rw [e2]
    exact ⟨rfl, N0, rfl⟩
set_option maxRecDepth 65536 in
set_option maxHeartbeats 40000000 in
theorem init_r (l : Launch) (Z : State) (a0 : Array Value) (hw : ∀ d ∈ tables_1, d.before a0 Z = true) (ws : List Jvm.Cond) (a_TAKEN a_REFUSED a_ALREADY_HELD a_FREE : Addr) (G : Own Z a_TAKEN a_REFUSED a_ALREADY_HELD a_FREE) (a1 : Addr) (x0 : Addr) (x1 : Int64) (x2 : Int64) (h0 : Heap) (n0 : Nat) (O0 : Old Z n0 h0) (E0 : Exa Z h0 a1 "com/example/setnix/setnix/io/Attempt") (F0_0 : Fld Z h0 a1 "com/example/setnix/setnix/io/Attempt" "outcome" "Lcom/example/setnix/setnix/io/Attempt$Outcome;" .null) (F0_1 : Fld Z h0 a1 "com/example/setnix/setnix/io/Attempt" "holderLeaseMillis" "J" (.long (0 : Int64))) (F0_2 : Fld Z h0 a1 "com/example/setnix/setnix/io/Attempt" "fencingToken" "J" (.long (0 : Int64))) (g0 : n0 ≤ a1) :
    MetFree l y_1 (head1 (Jvm.Cond.code y_1 prog_3_method_1_code 6 none :: ws) ({ frames := 2, cells := 0, slots := 0, locals := 24 } : Room)) (fun a U => a = #[(.ref a1), (.ref x0), (.long x1), (.long x2)] ∧ Z.Warmed39 U.vm ∧ U.heap = h0) (fun _ _ _ _ _ => True) (fun _ U o U' => ∃ v L, o = .returned v ∧ QI_r Z a1 x0 x1 x2 h0 n0 v U'.heap L ∧ FrameEnd U o U' L ({ frames := 2, cells := 0, slots := 0, locals := 24 } : Room).cells ({ frames := 2, cells := 0, slots := 0, locals := 24 } : Room).slots) := by
  refine MetFree.of_bodySF (plainFor_of_name pn_1) hisR ?_
  intro p e s m args below meth c s₁ Bd hml0 hP hK
  obtain ⟨rfl, hZ, hh⟩ := hP
  have hx := Bd.exec
  have hby := Bd.bytes
  have hml : c.maxLocals = 6 := hml0
  have hown : s.vm.findClass "com/example/setnix/setnix/io/Attempt" = some m.cls := findClass_of_methodNamed Bd.named
  have hnm := (name_of_methodNamed Bd.named Bd.method).1
  have X0 : Stand p l e ({ frames := 2, cells := 0, slots := 0, locals := 24 } : Room) s m #[(.ref a1), (.ref x0), (.long x1), (.long x2)] below meth c s₁ [] 0 0 := Stand.of_body Bd
  have e0 : s₁.heap = h0 := by rw [← hh, Bd.state]; rfl
  have N0 := Fr.nil n0
  have K0 := Keep.refl h0 [a1]
  have k0 : Go p.tables e below (s₁.setTop (entryFrame m #[(.ref a1), (.ref x0), (.long x1), (.long x2)] 6)) (s₁.setTop (mkF m 0 #[rv a1, rv x0, .val (.long x1), .second, .val (.long x2), .second] [])) := fun t k => castTop (by first | rfl | (simp [entryFrame, mkF, argsToLocals, Value.category]; done)) k
  have ⟨S_TAKEN, E_TAKEN, S_REFUSED, E_REFUSED, S_ALREADY_HELD, E_ALREADY_HELD, S_FREE, E_FREE, R_REFUSED_ordinal, R_TAKEN_ordinal, R_ALREADY_HELD_ordinal, R_FREE_ordinal⟩ := G
  have k_4 : Go p.tables e below (s₁.setTop (entryFrame m #[(.ref a1), (.ref x0), (.long x1), (.long x2)] 6)) (s₁.setTop (mkF m 1 #[rv a1, rv x0, .val (.long x1), .second, .val (.long x2), .second] [(.ref a1)])) := fun t q => by
    refine k0 t ?_
    refine XS.aloadN X0.here hx rfl (hb hby d1_0) rfl rfl ?_
    show Steps _ _ _ (s₁.setTop (mkF m 1 #[rv a1, rv x0, .val (.long x1), .second, .val (.long x2), .second] [(.ref a1)])) _
    exact q
  obtain ⟨_, _, ⟨T5, L5, k5, n5⟩, -, X5, ⟨Lc5, hQ5, l5, y5, z5⟩, st5⟩ := X0.specialBack hx (y := y_0) rfl hown (mvT hZ (hw _ (wd 9 rfl))) (mvT hZ (hw _ (wd 10 rfl))) (mvT hZ (hw _ (wd 13 rfl))) (by decide) (backOf (W := 0) (rec0 l Z a0 hw [] a_TAKEN a_REFUSED a_ALREADY_HELD a_FREE G a1 h0 n0 O0) hZ (hw _ (wd 13 rfl)) (hw _ (wd 12 rfl)) (by decide) (by decide)) (g := (mkF m 1 #[rv a1, rv x0, .val (.long x1), .second, .val (.long x2), .second] [(.ref a1)])) rfl (by rw [hml]; rfl) (Steps.refl _) (a := a1) (argsL := []) (rest := []) (lenOf pd_0 rfl) rfl (by show 2 * 0 + _ ≤ _; exact Nat.le_of_eq rfl) (hb hby d1_1) (fun _ _ => ⟨rfl, e0, (by decide : 0 + 0 ≤ _), (by decide : 0 + 0 ≤ _)⟩)
  dsimp only [Pt.U, Pt.locs, Pt.cells, Pt.slots] at X5 l5 y5 z5 st5 hQ5
  subst l5 y5 z5
  obtain ⟨rfl, N5q, e5⟩ := hQ5
  have N5 := Fr.app N0 N5q
  have k_6 : Go p.tables e below (s₁.setTop (entryFrame m #[(.ref a1), (.ref x0), (.long x1), (.long x2)] 6)) (T5.setTop (mkF m 6 #[rv a1, rv x0, .val (.long x1), .second, .val (.long x2), .second] [(.ref x0), (.ref a1)])) := fun t q => by
    refine k_4 t ?_
    refine st5.trans ?_
    show Steps _ _ _ (T5.setTop (mkF m 4 #[rv a1, rv x0, .val (.long x1), .second, .val (.long x2), .second] [])) _
    refine XS.aloadN X5.here hx rfl (hb hby d1_4) rfl rfl ?_
    show Steps _ _ _ (T5.setTop (mkF m 5 #[rv a1, rv x0, .val (.long x1), .second, .val (.long x2), .second] [(.ref a1)])) _
    refine XS.aloadN X5.here hx rfl (hb hby d1_5) rfl rfl ?_
    show Steps _ _ _ (T5.setTop (mkF m 6 #[rv a1, rv x0, .val (.long x1), .second, .val (.long x2), .second] [(.ref x0), (.ref a1)])) _
    exact q
  obtain ⟨T7, h7, X7, e7, W7, st7⟩ := putF X5 hx hZ hown (host := "") (Or.inl (hw _ (wd 17 rfl))) Via.refl e5 F0_0 E0 (Or.inr ⟨(hw _ (wd 18 rfl)), rfl, hnm⟩) (hw _ (wd 4 rfl)) (ty := (.object "com/example/setnix/setnix/io/Attempt$Outcome")) (by decide) rfl rfl (g := (mkF m 6 #[rv a1, rv x0, .val (.long x1), .second, .val (.long x2), .second] [(.ref x0), (.ref a1)])) rfl rfl (hb hby d1_6)
  have N7 := Fr.snoc X7 N5 g0
  have f_8 := Fld.same W7 F0_0
  have f_9 := Exa.wr W7 E0
  have f_10 := Fld.other W7 F0_1 (Or.inr (slot_ne (Or.inr (hw _ (wd 20 rfl))) (Or.inr (hw _ (wd 18 rfl))) (by decide) (t := .long) (t' := (.object "com/example/setnix/setnix/io/Attempt$Outcome")) (by decide) (by decide)))
  have f_11 := Fld.other W7 F0_2 (Or.inr (slot_ne (Or.inr (hw _ (wd 22 rfl))) (Or.inr (hw _ (wd 18 rfl))) (by decide) (t := .long) (t' := (.object "com/example/setnix/setnix/io/Attempt$Outcome")) (by decide) (by decide)))
  have O_12 := O0.wr W7 g0
  have K_13 := K0.wr W7 (Or.inl (List.mem_of_getElem? (i := 0) rfl))
  have k_14 : Go p.tables e below (s₁.setTop (entryFrame m #[(.ref a1), (.ref x0), (.long x1), (.long x2)] 6)) (T7.setTop (mkF m 11 #[rv a1, rv x0, .val (.long x1), .second, .val (.long x2), .second] [(.long x1), (.ref a1)])) := fun t q => by
    refine k_6 t ?_
    refine st7 _ ?_
    show Steps _ _ _ (T7.setTop (mkF m 9 #[rv a1, rv x0, .val (.long x1), .second, .val (.long x2), .second] [])) _
    refine XS.aloadN X7.here hx rfl (hb hby d1_9) rfl rfl ?_
    show Steps _ _ _ (T7.setTop (mkF m 10 #[rv a1, rv x0, .val (.long x1), .second, .val (.long x2), .second] [(.ref a1)])) _
    refine XS.lloadN X7.here hx rfl (hb hby d1_10) rfl ?_
    show Steps _ _ _ (T7.setTop (mkF m 11 #[rv a1, rv x0, .val (.long x1), .second, .val (.long x2), .second] [(.long x1), (.ref a1)])) _
    exact q
  obtain ⟨T15, h15, X15, e15, W15, st15⟩ := putF X7 hx hZ hown (host := "") (Or.inl (hw _ (wd 19 rfl))) Via.refl e7 f_10 f_9 (Or.inr ⟨(hw _ (wd 20 rfl)), rfl, hnm⟩) (hw _ (wd 4 rfl)) (ty := .long) (by decide) rfl rfl (g := (mkF m 11 #[rv a1, rv x0, .val (.long x1), .second, .val (.long x2), .second] [(.long x1), (.ref a1)])) rfl rfl (hb hby d1_11)
  have N15 := Fr.snoc X15 N7 g0
  have f_16 := Fld.same W15 f_10
  have f_17 := Exa.wr W15 f_9
  have f_18 := Fld.other W15 f_11 (Or.inr (slot_ne (Or.inr (hw _ (wd 22 rfl))) (Or.inr (hw _ (wd 20 rfl))) (by decide) (t := .long) (t' := .long) (by decide) (by decide)))
  have f_19 := Fld.other W15 f_8 (Or.inr (slot_ne (Or.inr (hw _ (wd 18 rfl))) (Or.inr (hw _ (wd 20 rfl))) (by decide) (t := (.object "com/example/setnix/setnix/io/Attempt$Outcome")) (t' := .long) (by decide) (by decide)))
  have O_20 := O_12.wr W15 g0
  have K_21 := K_13.wr W15 (Or.inl (List.mem_of_getElem? (i := 0) rfl))
  have k_22 : Go p.tables e below (s₁.setTop (entryFrame m #[(.ref a1), (.ref x0), (.long x1), (.long x2)] 6)) (T15.setTop (mkF m 17 #[rv a1, rv x0, .val (.long x1), .second, .val (.long x2), .second] [(.long x2), (.ref a1)])) := fun t q => by
    refine k_14 t ?_
    refine st15 _ ?_
    show Steps _ _ _ (T15.setTop (mkF m 14 #[rv a1, rv x0, .val (.long x1), .second, .val (.long x2), .second] [])) _
    refine XS.aloadN X15.here hx rfl (hb hby d1_14) rfl rfl ?_
    show Steps _ _ _ (T15.setTop (mkF m 15 #[rv a1, rv x0, .val (.long x1), .second, .val (.long x2), .second] [(.ref a1)])) _
    refine XS.lload X15.here hx rfl (hb hby d1_15) rfl ?_
    show Steps _ _ _ (T15.setTop (mkF m 17 #[rv a1, rv x0, .val (.long x1), .second, .val (.long x2), .second] [(.long x2), (.ref a1)])) _
    exact q
  obtain ⟨T23, h23, X23, e23, W23, st23⟩ := putF X15 hx hZ hown (host := "") (Or.inl (hw _ (wd 21 rfl))) Via.refl e15 f_18 f_17 (Or.inr ⟨(hw _ (wd 22 rfl)), rfl, hnm⟩) (hw _ (wd 4 rfl)) (ty := .long) (by decide) rfl rfl (g := (mkF m 17 #[rv a1, rv x0, .val (.long x1), .second, .val (.long x2), .second] [(.long x2), (.ref a1)])) rfl rfl (hb hby d1_17)
  have N23 := Fr.snoc X23 N15 g0
  have f_24 := Fld.same W23 f_18
  have f_25 := Exa.wr W23 f_17
  have f_26 := Fld.other W23 f_19 (Or.inr (slot_ne (Or.inr (hw _ (wd 18 rfl))) (Or.inr (hw _ (wd 22 rfl))) (by decide) (t := (.object "com/example/setnix/setnix/io/Attempt$Outcome")) (t' := .long) (by decide) (by decide)))
  have f_27 := Fld.other W23 f_16 (Or.inr (slot_ne (Or.inr (hw _ (wd 20 rfl))) (Or.inr (hw _ (wd 22 rfl))) (by decide) (t := .long) (t' := .long) (by decide) (by decide)))
  have O_28 := O_20.wr W23 g0
  have K_29 := K_21.wr W23 (Or.inl (List.mem_of_getElem? (i := 0) rfl))
  have k_30 : Go p.tables e below (s₁.setTop (entryFrame m #[(.ref a1), (.ref x0), (.long x1), (.long x2)] 6)) (T23.setTop (mkF m 20 #[rv a1, rv x0, .val (.long x1), .second, .val (.long x2), .second] [])) := fun t q => by
    refine k_22 t ?_
    refine st23 _ ?_
    show Steps _ _ _ (T23.setTop (mkF m 20 #[rv a1, rv x0, .val (.long x1), .second, .val (.long x2), .second] [])) _
    exact q
  obtain ⟨fs, hr, hrun, hended, hW, hsame⟩ := X23.leave (v := none) (fun _ => rfl)
  refine ⟨_, _, k_30 _ ?_, hrun, hended, _, _, rfl, ?_, ⟨_, rfl⟩, hW, hsame.mono (by decide) (by decide)⟩
  · exact X23.returnOut hx Bd.returns (hb hby d1_20) hr
  · show QI_r Z a1 x0 x1 x2 h0 n0 _ T23.heap _
    rw [e23]
    exact ⟨rfl, N23, K_29, f_26, f_27, f_24⟩
set_option maxRecDepth 65536 in
set_option maxHeartbeats 40000000 in
theorem held_TAKEN (l : Launch) (Z : State) (a0 : Array Value) (hw : ∀ d ∈ tables_1, d.before a0 Z = true) (ws : List Jvm.Cond) (a_TAKEN a_REFUSED a_ALREADY_HELD a_FREE : Addr) (G : Own Z a_TAKEN a_REFUSED a_ALREADY_HELD a_FREE) (a1 : Addr) (h0 : Heap) (n0 : Nat) (O0 : Old Z n0 h0) (F0 : Fld Z h0 a1 "com/example/setnix/setnix/io/Attempt" "outcome" "Lcom/example/setnix/setnix/io/Attempt$Outcome;" (.ref a_TAKEN)) :
    MetFree l y_2 (head1 (Jvm.Cond.code y_2 prog_3_method_4_code 1 (some .boolean) :: ws) ({ frames := 0, cells := 0, slots := 0, locals := 0 } : Room)) (fun a U => a = #[(.ref a1)] ∧ Z.Warmed39 U.vm ∧ U.heap = h0) (fun _ _ _ _ _ => True) (fun _ U o U' => ∃ v L, o = .returned v ∧ QV (some (.int 1)) h0 n0 v U'.heap L ∧ FrameEnd U o U' L ({ frames := 0, cells := 0, slots := 0, locals := 0 } : Room).cells ({ frames := 0, cells := 0, slots := 0, locals := 0 } : Room).slots) := by
  refine MetFree.of_bodySF (plainFor_of_name pn_1) hisR ?_
  intro p e s m args below meth c s₁ Bd hml0 hP hK
  obtain ⟨rfl, hZ, hh⟩ := hP
  have hx := Bd.exec
  have hby := Bd.bytes
  have hml : c.maxLocals = 1 := hml0
  have hown : s.vm.findClass "com/example/setnix/setnix/io/Attempt" = some m.cls := findClass_of_methodNamed Bd.named
  have hnm := (name_of_methodNamed Bd.named Bd.method).1
  have X0 : Stand p l e ({ frames := 0, cells := 0, slots := 0, locals := 0 } : Room) s m #[(.ref a1)] below meth c s₁ [] 0 0 := Stand.of_body Bd
  have e0 : s₁.heap = h0 := by rw [← hh, Bd.state]; rfl
  have N0 := Fr.nil n0
  have K0 := Keep.refl h0 []
  have k0 : Go p.tables e below (s₁.setTop (entryFrame m #[(.ref a1)] 1)) (s₁.setTop (mkF m 0 #[rv a1] [])) := fun t k => castTop (by first | rfl | (simp [entryFrame, mkF, argsToLocals, Value.category]; done)) k
  have ⟨S_TAKEN, E_TAKEN, S_REFUSED, E_REFUSED, S_ALREADY_HELD, E_ALREADY_HELD, S_FREE, E_FREE, R_REFUSED_ordinal, R_TAKEN_ordinal, R_ALREADY_HELD_ordinal, R_FREE_ordinal⟩ := G
  have k_31 : Go p.tables e below (s₁.setTop (entryFrame m #[(.ref a1)] 1)) (s₁.setTop (mkF m 1 #[rv a1] [(.ref a1)])) := fun t q => by
    refine k0 t ?_
    refine XS.aloadN X0.here hx rfl (hb hby d4_0) rfl rfl ?_
    show Steps _ _ _ (s₁.setTop (mkF m 1 #[rv a1] [(.ref a1)])) _
    exact q
  obtain ⟨T32, X32, e32, st32⟩ := getF X0 hx hZ hown (host := "") (Or.inl (hw _ (wd 17 rfl))) Via.refl e0 F0 (g := (mkF m 1 #[rv a1] [(.ref a1)])) rfl rfl (hb hby d4_1)
  have k_33 : Go p.tables e below (s₁.setTop (entryFrame m #[(.ref a1)] 1)) (T32.setTop (mkF m 4 #[rv a1] [(.ref a_TAKEN)])) := fun t q => by
    refine k_31 t ?_
    refine st32 _ ?_
    show Steps _ _ _ (T32.setTop (mkF m 4 #[rv a1] [(.ref a_TAKEN)])) _
    exact q
  obtain ⟨T34, X34, e34, st34⟩ := getS2 X32 hx hZ hown (host := "") (Or.inl (hw _ (wd 28 rfl))) Via.refl e32 (S_TAKEN.ext O0.2) (g := (mkF m 4 #[rv a1] [(.ref a_TAKEN)])) rfl (hb hby d4_4)
  have k_35 : Go p.tables e below (s₁.setTop (entryFrame m #[(.ref a1)] 1)) (T34.setTop (mkF m 25 #[rv a1] [(.int 1)])) := fun t q => by
    refine k_33 t ?_
    refine st34 _ ?_
    show Steps _ _ _ (T34.setTop (mkF m 7 #[rv a1] [(.ref a_TAKEN), (.ref a_TAKEN)])) _
    refine Jvm.RoadKit.acmp (g := (mkF m 7 #[rv a1] [(.ref a_TAKEN), (.ref a_TAKEN)])) X34 hx rfl rfl rfl (pc0 := 7) (pc' := 20) (same := true) rfl (hb hby d4_7) rfl (decide_eq_true rfl) (by decide) (by decide) ?_
    show Steps _ _ _ (T34.setTop (mkF m 20 #[rv a1] [])) _
    refine XS.iconst X34.here hx rfl (hb hby d4_20) ?_
    show Steps _ _ _ (T34.setTop (mkF m 21 #[rv a1] [(.int 1)])) _
    refine XS.goto X34.here hx rfl (pc0 := 21) (pc' := 25) rfl (hb hby d4_21) (by decide) (by decide) ?_
    show Steps _ _ _ (T34.setTop (mkF m 25 #[rv a1] [(.int 1)])) _
    exact q
  obtain ⟨fs, hr, hrun, hended, hW, hsame⟩ := X34.leave (v := some (.int 1)) (fun h => by rw [Bd.returns] at h; cases h)
  refine ⟨_, _, k_35 _ ?_, hrun, hended, _, _, rfl, ?_, ⟨_, rfl⟩, hW, hsame.mono (by decide) (by decide)⟩
  · exact retN X34 hx (t := .boolean) Bd.returns (by simp) (hb hby d4_25) hr
  · show QV (some (.int 1)) h0 n0 _ T34.heap _
    rw [e34]
    exact ⟨rfl, N0, rfl⟩
set_option maxRecDepth 65536 in
set_option maxHeartbeats 40000000 in
theorem held_ALREADY_HELD (l : Launch) (Z : State) (a0 : Array Value) (hw : ∀ d ∈ tables_1, d.before a0 Z = true) (ws : List Jvm.Cond) (a_TAKEN a_REFUSED a_ALREADY_HELD a_FREE : Addr) (G : Own Z a_TAKEN a_REFUSED a_ALREADY_HELD a_FREE) (a1 : Addr) (h0 : Heap) (n0 : Nat) (O0 : Old Z n0 h0) (F0 : Fld Z h0 a1 "com/example/setnix/setnix/io/Attempt" "outcome" "Lcom/example/setnix/setnix/io/Attempt$Outcome;" (.ref a_ALREADY_HELD)) :
    MetFree l y_2 (head1 (Jvm.Cond.code y_2 prog_3_method_4_code 1 (some .boolean) :: ws) ({ frames := 0, cells := 0, slots := 0, locals := 0 } : Room)) (fun a U => a = #[(.ref a1)] ∧ Z.Warmed39 U.vm ∧ U.heap = h0) (fun _ _ _ _ _ => True) (fun _ U o U' => ∃ v L, o = .returned v ∧ QV (some (.int 1)) h0 n0 v U'.heap L ∧ FrameEnd U o U' L ({ frames := 0, cells := 0, slots := 0, locals := 0 } : Room).cells ({ frames := 0, cells := 0, slots := 0, locals := 0 } : Room).slots) := by
  refine MetFree.of_bodySF (plainFor_of_name pn_1) hisR ?_
  intro p e s m args below meth c s₁ Bd hml0 hP hK
  obtain ⟨rfl, hZ, hh⟩ := hP
  have hx := Bd.exec
  have hby := Bd.bytes
  have hml : c.maxLocals = 1 := hml0
  have hown : s.vm.findClass "com/example/setnix/setnix/io/Attempt" = some m.cls := findClass_of_methodNamed Bd.named
  have hnm := (name_of_methodNamed Bd.named Bd.method).1
  have X0 : Stand p l e ({ frames := 0, cells := 0, slots := 0, locals := 0 } : Room) s m #[(.ref a1)] below meth c s₁ [] 0 0 := Stand.of_body Bd
  have e0 : s₁.heap = h0 := by rw [← hh, Bd.state]; rfl
  have N0 := Fr.nil n0
  have K0 := Keep.refl h0 []
  have k0 : Go p.tables e below (s₁.setTop (entryFrame m #[(.ref a1)] 1)) (s₁.setTop (mkF m 0 #[rv a1] [])) := fun t k => castTop (by first | rfl | (simp [entryFrame, mkF, argsToLocals, Value.category]; done)) k
  have ⟨S_TAKEN, E_TAKEN, S_REFUSED, E_REFUSED, S_ALREADY_HELD, E_ALREADY_HELD, S_FREE, E_FREE, R_REFUSED_ordinal, R_TAKEN_ordinal, R_ALREADY_HELD_ordinal, R_FREE_ordinal⟩ := G
  have k_36 : Go p.tables e below (s₁.setTop (entryFrame m #[(.ref a1)] 1)) (s₁.setTop (mkF m 1 #[rv a1] [(.ref a1)])) := fun t q => by
    refine k0 t ?_
    refine XS.aloadN X0.here hx rfl (hb hby d4_0) rfl rfl ?_
    show Steps _ _ _ (s₁.setTop (mkF m 1 #[rv a1] [(.ref a1)])) _
    exact q
  obtain ⟨T37, X37, e37, st37⟩ := getF X0 hx hZ hown (host := "") (Or.inl (hw _ (wd 17 rfl))) Via.refl e0 F0 (g := (mkF m 1 #[rv a1] [(.ref a1)])) rfl rfl (hb hby d4_1)
  have k_38 : Go p.tables e below (s₁.setTop (entryFrame m #[(.ref a1)] 1)) (T37.setTop (mkF m 4 #[rv a1] [(.ref a_ALREADY_HELD)])) := fun t q => by
    refine k_36 t ?_
    refine st37 _ ?_
    show Steps _ _ _ (T37.setTop (mkF m 4 #[rv a1] [(.ref a_ALREADY_HELD)])) _
    exact q
  obtain ⟨T39, X39, e39, st39⟩ := getS2 X37 hx hZ hown (host := "") (Or.inl (hw _ (wd 28 rfl))) Via.refl e37 (S_TAKEN.ext O0.2) (g := (mkF m 4 #[rv a1] [(.ref a_ALREADY_HELD)])) rfl (hb hby d4_4)
  have k_40 : Go p.tables e below (s₁.setTop (entryFrame m #[(.ref a1)] 1)) (T39.setTop (mkF m 11 #[rv a1] [(.ref a1)])) := fun t q => by
    refine k_38 t ?_
    refine st39 _ ?_
    show Steps _ _ _ (T39.setTop (mkF m 7 #[rv a1] [(.ref a_TAKEN), (.ref a_ALREADY_HELD)])) _
    refine Jvm.RoadKit.acmp (g := (mkF m 7 #[rv a1] [(.ref a_TAKEN), (.ref a_ALREADY_HELD)])) X39 hx rfl rfl rfl (pc0 := 7) (pc' := 10) (same := false) rfl (hb hby d4_7) rfl (decide_eq_false fun q => (own_ne R_ALREADY_HELD_ordinal R_TAKEN_ordinal (by decide)) (Value.ref.inj q)) (by decide) (by decide) ?_
    show Steps _ _ _ (T39.setTop (mkF m 10 #[rv a1] [])) _
    refine XS.aloadN X39.here hx rfl (hb hby d4_10) rfl rfl ?_
    show Steps _ _ _ (T39.setTop (mkF m 11 #[rv a1] [(.ref a1)])) _
    exact q
  obtain ⟨T41, X41, e41, st41⟩ := getF X39 hx hZ hown (host := "") (Or.inl (hw _ (wd 17 rfl))) Via.refl e39 F0 (g := (mkF m 11 #[rv a1] [(.ref a1)])) rfl rfl (hb hby d4_11)
  have k_42 : Go p.tables e below (s₁.setTop (entryFrame m #[(.ref a1)] 1)) (T41.setTop (mkF m 14 #[rv a1] [(.ref a_ALREADY_HELD)])) := fun t q => by
    refine k_40 t ?_
    refine st41 _ ?_
    show Steps _ _ _ (T41.setTop (mkF m 14 #[rv a1] [(.ref a_ALREADY_HELD)])) _
    exact q
  obtain ⟨T43, X43, e43, st43⟩ := getS2 X41 hx hZ hown (host := "") (Or.inl (hw _ (wd 31 rfl))) Via.refl e41 (S_ALREADY_HELD.ext O0.2) (g := (mkF m 14 #[rv a1] [(.ref a_ALREADY_HELD)])) rfl (hb hby d4_14)
  have k_44 : Go p.tables e below (s₁.setTop (entryFrame m #[(.ref a1)] 1)) (T43.setTop (mkF m 25 #[rv a1] [(.int 1)])) := fun t q => by
    refine k_42 t ?_
    refine st43 _ ?_
    show Steps _ _ _ (T43.setTop (mkF m 17 #[rv a1] [(.ref a_ALREADY_HELD), (.ref a_ALREADY_HELD)])) _
    refine Jvm.RoadKit.acmp (g := (mkF m 17 #[rv a1] [(.ref a_ALREADY_HELD), (.ref a_ALREADY_HELD)])) X43 hx rfl rfl rfl (pc0 := 17) (pc' := 20) (same := true) rfl (hb hby d4_17) rfl (decide_eq_true rfl) (by decide) (by decide) ?_
    show Steps _ _ _ (T43.setTop (mkF m 20 #[rv a1] [])) _
    refine XS.iconst X43.here hx rfl (hb hby d4_20) ?_
    show Steps _ _ _ (T43.setTop (mkF m 21 #[rv a1] [(.int 1)])) _
    refine XS.goto X43.here hx rfl (pc0 := 21) (pc' := 25) rfl (hb hby d4_21) (by decide) (by decide) ?_
    show Steps _ _ _ (T43.setTop (mkF m 25 #[rv a1] [(.int 1)])) _
    exact q
  obtain ⟨fs, hr, hrun, hended, hW, hsame⟩ := X43.leave (v := some (.int 1)) (fun h => by rw [Bd.returns] at h; cases h)
  refine ⟨_, _, k_44 _ ?_, hrun, hended, _, _, rfl, ?_, ⟨_, rfl⟩, hW, hsame.mono (by decide) (by decide)⟩
  · exact retN X43 hx (t := .boolean) Bd.returns (by simp) (hb hby d4_25) hr
  · show QV (some (.int 1)) h0 n0 _ T43.heap _
    rw [e43]
    exact ⟨rfl, N0, rfl⟩
set_option maxRecDepth 65536 in
set_option maxHeartbeats 40000000 in
theorem held_REFUSED (l : Launch) (Z : State) (a0 : Array Value) (hw : ∀ d ∈ tables_1, d.before a0 Z = true) (ws : List Jvm.Cond) (a_TAKEN a_REFUSED a_ALREADY_HELD a_FREE : Addr) (G : Own Z a_TAKEN a_REFUSED a_ALREADY_HELD a_FREE) (a1 : Addr) (h0 : Heap) (n0 : Nat) (O0 : Old Z n0 h0) (F0 : Fld Z h0 a1 "com/example/setnix/setnix/io/Attempt" "outcome" "Lcom/example/setnix/setnix/io/Attempt$Outcome;" (.ref a_REFUSED)) :
    MetFree l y_2 (head1 (Jvm.Cond.code y_2 prog_3_method_4_code 1 (some .boolean) :: ws) ({ frames := 0, cells := 0, slots := 0, locals := 0 } : Room)) (fun a U => a = #[(.ref a1)] ∧ Z.Warmed39 U.vm ∧ U.heap = h0) (fun _ _ _ _ _ => True) (fun _ U o U' => ∃ v L, o = .returned v ∧ QV (some (.int 0)) h0 n0 v U'.heap L ∧ FrameEnd U o U' L ({ frames := 0, cells := 0, slots := 0, locals := 0 } : Room).cells ({ frames := 0, cells := 0, slots := 0, locals := 0 } : Room).slots) := by
  refine MetFree.of_bodySF (plainFor_of_name pn_1) hisR ?_
  intro p e s m args below meth c s₁ Bd hml0 hP hK
  obtain ⟨rfl, hZ, hh⟩ := hP
  have hx := Bd.exec
  have hby := Bd.bytes
  have hml : c.maxLocals = 1 := hml0
  have hown : s.vm.findClass "com/example/setnix/setnix/io/Attempt" = some m.cls := findClass_of_methodNamed Bd.named
  have hnm := (name_of_methodNamed Bd.named Bd.method).1
  have X0 : Stand p l e ({ frames := 0, cells := 0, slots := 0, locals := 0 } : Room) s m #[(.ref a1)] below meth c s₁ [] 0 0 := Stand.of_body Bd
  have e0 : s₁.heap = h0 := by rw [← hh, Bd.state]; rfl
  have N0 := Fr.nil n0
  have K0 := Keep.refl h0 []
  have k0 : Go p.tables e below (s₁.setTop (entryFrame m #[(.ref a1)] 1)) (s₁.setTop (mkF m 0 #[rv a1] [])) := fun t k => castTop (by first | rfl | (simp [entryFrame, mkF, argsToLocals, Value.category]; done)) k
  have ⟨S_TAKEN, E_TAKEN, S_REFUSED, E_REFUSED, S_ALREADY_HELD, E_ALREADY_HELD, S_FREE, E_FREE, R_REFUSED_ordinal, R_TAKEN_ordinal, R_ALREADY_HELD_ordinal, R_FREE_ordinal⟩ := G
  have k_45 : Go p.tables e below (s₁.setTop (entryFrame m #[(.ref a1)] 1)) (s₁.setTop (mkF m 1 #[rv a1] [(.ref a1)])) := fun t q => by
    refine k0 t ?_
    refine XS.aloadN X0.here hx rfl (hb hby d4_0) rfl rfl ?_
    show Steps _ _ _ (s₁.setTop (mkF m 1 #[rv a1] [(.ref a1)])) _
    exact q
  obtain ⟨T46, X46, e46, st46⟩ := getF X0 hx hZ hown (host := "") (Or.inl (hw _ (wd 17 rfl))) Via.refl e0 F0 (g := (mkF m 1 #[rv a1] [(.ref a1)])) rfl rfl (hb hby d4_1)
  have k_47 : Go p.tables e below (s₁.setTop (entryFrame m #[(.ref a1)] 1)) (T46.setTop (mkF m 4 #[rv a1] [(.ref a_REFUSED)])) := fun t q => by
    refine k_45 t ?_
    refine st46 _ ?_
    show Steps _ _ _ (T46.setTop (mkF m 4 #[rv a1] [(.ref a_REFUSED)])) _
    exact q
  obtain ⟨T48, X48, e48, st48⟩ := getS2 X46 hx hZ hown (host := "") (Or.inl (hw _ (wd 28 rfl))) Via.refl e46 (S_TAKEN.ext O0.2) (g := (mkF m 4 #[rv a1] [(.ref a_REFUSED)])) rfl (hb hby d4_4)
  have k_49 : Go p.tables e below (s₁.setTop (entryFrame m #[(.ref a1)] 1)) (T48.setTop (mkF m 11 #[rv a1] [(.ref a1)])) := fun t q => by
    refine k_47 t ?_
    refine st48 _ ?_
    show Steps _ _ _ (T48.setTop (mkF m 7 #[rv a1] [(.ref a_TAKEN), (.ref a_REFUSED)])) _
    refine Jvm.RoadKit.acmp (g := (mkF m 7 #[rv a1] [(.ref a_TAKEN), (.ref a_REFUSED)])) X48 hx rfl rfl rfl (pc0 := 7) (pc' := 10) (same := false) rfl (hb hby d4_7) rfl (decide_eq_false fun q => (own_ne R_REFUSED_ordinal R_TAKEN_ordinal (by decide)) (Value.ref.inj q)) (by decide) (by decide) ?_
    show Steps _ _ _ (T48.setTop (mkF m 10 #[rv a1] [])) _
    refine XS.aloadN X48.here hx rfl (hb hby d4_10) rfl rfl ?_
    show Steps _ _ _ (T48.setTop (mkF m 11 #[rv a1] [(.ref a1)])) _
    exact q
  obtain ⟨T50, X50, e50, st50⟩ := getF X48 hx hZ hown (host := "") (Or.inl (hw _ (wd 17 rfl))) Via.refl e48 F0 (g := (mkF m 11 #[rv a1] [(.ref a1)])) rfl rfl (hb hby d4_11)
  have k_51 : Go p.tables e below (s₁.setTop (entryFrame m #[(.ref a1)] 1)) (T50.setTop (mkF m 14 #[rv a1] [(.ref a_REFUSED)])) := fun t q => by
    refine k_49 t ?_
    refine st50 _ ?_
    show Steps _ _ _ (T50.setTop (mkF m 14 #[rv a1] [(.ref a_REFUSED)])) _
    exact q
  obtain ⟨T52, X52, e52, st52⟩ := getS2 X50 hx hZ hown (host := "") (Or.inl (hw _ (wd 31 rfl))) Via.refl e50 (S_ALREADY_HELD.ext O0.2) (g := (mkF m 14 #[rv a1] [(.ref a_REFUSED)])) rfl (hb hby d4_14)
  have k_53 : Go p.tables e below (s₁.setTop (entryFrame m #[(.ref a1)] 1)) (T52.setTop (mkF m 25 #[rv a1] [(.int 0)])) := fun t q => by
    refine k_51 t ?_
    refine st52 _ ?_
    show Steps _ _ _ (T52.setTop (mkF m 17 #[rv a1] [(.ref a_ALREADY_HELD), (.ref a_REFUSED)])) _
    refine Jvm.RoadKit.acmp (g := (mkF m 17 #[rv a1] [(.ref a_ALREADY_HELD), (.ref a_REFUSED)])) X52 hx rfl rfl rfl (pc0 := 17) (pc' := 24) (same := false) rfl (hb hby d4_17) rfl (decide_eq_false fun q => (own_ne R_REFUSED_ordinal R_ALREADY_HELD_ordinal (by decide)) (Value.ref.inj q)) (by decide) (by decide) ?_
    show Steps _ _ _ (T52.setTop (mkF m 24 #[rv a1] [])) _
    refine XS.iconst X52.here hx rfl (hb hby d4_24) ?_
    show Steps _ _ _ (T52.setTop (mkF m 25 #[rv a1] [(.int 0)])) _
    exact q
  obtain ⟨fs, hr, hrun, hended, hW, hsame⟩ := X52.leave (v := some (.int 0)) (fun h => by rw [Bd.returns] at h; cases h)
  refine ⟨_, _, k_53 _ ?_, hrun, hended, _, _, rfl, ?_, ⟨_, rfl⟩, hW, hsame.mono (by decide) (by decide)⟩
  · exact retN X52 hx (t := .boolean) Bd.returns (by simp) (hb hby d4_25) hr
  · show QV (some (.int 0)) h0 n0 _ T52.heap _
    rw [e52]
    exact ⟨rfl, N0, rfl⟩
set_option maxRecDepth 65536 in
set_option maxHeartbeats 40000000 in
theorem held_FREE (l : Launch) (Z : State) (a0 : Array Value) (hw : ∀ d ∈ tables_1, d.before a0 Z = true) (ws : List Jvm.Cond) (a_TAKEN a_REFUSED a_ALREADY_HELD a_FREE : Addr) (G : Own Z a_TAKEN a_REFUSED a_ALREADY_HELD a_FREE) (a1 : Addr) (h0 : Heap) (n0 : Nat) (O0 : Old Z n0 h0) (F0 : Fld Z h0 a1 "com/example/setnix/setnix/io/Attempt" "outcome" "Lcom/example/setnix/setnix/io/Attempt$Outcome;" (.ref a_FREE)) :
    MetFree l y_2 (head1 (Jvm.Cond.code y_2 prog_3_method_4_code 1 (some .boolean) :: ws) ({ frames := 0, cells := 0, slots := 0, locals := 0 } : Room)) (fun a U => a = #[(.ref a1)] ∧ Z.Warmed39 U.vm ∧ U.heap = h0) (fun _ _ _ _ _ => True) (fun _ U o U' => ∃ v L, o = .returned v ∧ QV (some (.int 0)) h0 n0 v U'.heap L ∧ FrameEnd U o U' L ({ frames := 0, cells := 0, slots := 0, locals := 0 } : Room).cells ({ frames := 0, cells := 0, slots := 0, locals := 0 } : Room).slots) := by
  refine MetFree.of_bodySF (plainFor_of_name pn_1) hisR ?_
  intro p e s m args below meth c s₁ Bd hml0 hP hK
  obtain ⟨rfl, hZ, hh⟩ := hP
  have hx := Bd.exec
  have hby := Bd.bytes
  have hml : c.maxLocals = 1 := hml0
  have hown : s.vm.findClass "com/example/setnix/setnix/io/Attempt" = some m.cls := findClass_of_methodNamed Bd.named
  have hnm := (name_of_methodNamed Bd.named Bd.method).1
  have X0 : Stand p l e ({ frames := 0, cells := 0, slots := 0, locals := 0 } : Room) s m #[(.ref a1)] below meth c s₁ [] 0 0 := Stand.of_body Bd
  have e0 : s₁.heap = h0 := by rw [← hh, Bd.state]; rfl
  have N0 := Fr.nil n0
  have K0 := Keep.refl h0 []
  have k0 : Go p.tables e below (s₁.setTop (entryFrame m #[(.ref a1)] 1)) (s₁.setTop (mkF m 0 #[rv a1] [])) := fun t k => castTop (by first | rfl | (simp [entryFrame, mkF, argsToLocals, Value.category]; done)) k
  have ⟨S_TAKEN, E_TAKEN, S_REFUSED, E_REFUSED, S_ALREADY_HELD, E_ALREADY_HELD, S_FREE, E_FREE, R_REFUSED_ordinal, R_TAKEN_ordinal, R_ALREADY_HELD_ordinal, R_FREE_ordinal⟩ := G
  have k_54 : Go p.tables e below (s₁.setTop (entryFrame m #[(.ref a1)] 1)) (s₁.setTop (mkF m 1 #[rv a1] [(.ref a1)])) := fun t q => by
    refine k0 t ?_
    refine XS.aloadN X0.here hx rfl (hb hby d4_0) rfl rfl ?_
    show Steps _ _ _ (s₁.setTop (mkF m 1 #[rv a1] [(.ref a1)])) _
    exact q
  obtain ⟨T55, X55, e55, st55⟩ := getF X0 hx hZ hown (host := "") (Or.inl (hw _ (wd 17 rfl))) Via.refl e0 F0 (g := (mkF m 1 #[rv a1] [(.ref a1)])) rfl rfl (hb hby d4_1)
  have k_56 : Go p.tables e below (s₁.setTop (entryFrame m #[(.ref a1)] 1)) (T55.setTop (mkF m 4 #[rv a1] [(.ref a_FREE)])) := fun t q => by
    refine k_54 t ?_
    refine st55 _ ?_
    show Steps _ _ _ (T55.setTop (mkF m 4 #[rv a1] [(.ref a_FREE)])) _
    exact q
  obtain ⟨T57, X57, e57, st57⟩ := getS2 X55 hx hZ hown (host := "") (Or.inl (hw _ (wd 28 rfl))) Via.refl e55 (S_TAKEN.ext O0.2) (g := (mkF m 4 #[rv a1] [(.ref a_FREE)])) rfl (hb hby d4_4)
  have k_58 : Go p.tables e below (s₁.setTop (entryFrame m #[(.ref a1)] 1)) (T57.setTop (mkF m 11 #[rv a1] [(.ref a1)])) := fun t q => by
    refine k_56 t ?_
    refine st57 _ ?_
    show Steps _ _ _ (T57.setTop (mkF m 7 #[rv a1] [(.ref a_TAKEN), (.ref a_FREE)])) _
    refine Jvm.RoadKit.acmp (g := (mkF m 7 #[rv a1] [(.ref a_TAKEN), (.ref a_FREE)])) X57 hx rfl rfl rfl (pc0 := 7) (pc' := 10) (same := false) rfl (hb hby d4_7) rfl (decide_eq_false fun q => (own_ne R_FREE_ordinal R_TAKEN_ordinal (by decide)) (Value.ref.inj q)) (by decide) (by decide) ?_
    show Steps _ _ _ (T57.setTop (mkF m 10 #[rv a1] [])) _
    refine XS.aloadN X57.here hx rfl (hb hby d4_10) rfl rfl ?_
    show Steps _ _ _ (T57.setTop (mkF m 11 #[rv a1] [(.ref a1)])) _
    exact q
  obtain ⟨T59, X59, e59, st59⟩ := getF X57 hx hZ hown (host := "") (Or.inl (hw _ (wd 17 rfl))) Via.refl e57 F0 (g := (mkF m 11 #[rv a1] [(.ref a1)])) rfl rfl (hb hby d4_11)
  have k_60 : Go p.tables e below (s₁.setTop (entryFrame m #[(.ref a1)] 1)) (T59.setTop (mkF m 14 #[rv a1] [(.ref a_FREE)])) := fun t q => by
    refine k_58 t ?_
    refine st59 _ ?_
    show Steps _ _ _ (T59.setTop (mkF m 14 #[rv a1] [(.ref a_FREE)])) _
    exact q
  obtain ⟨T61, X61, e61, st61⟩ := getS2 X59 hx hZ hown (host := "") (Or.inl (hw _ (wd 31 rfl))) Via.refl e59 (S_ALREADY_HELD.ext O0.2) (g := (mkF m 14 #[rv a1] [(.ref a_FREE)])) rfl (hb hby d4_14)
  have k_62 : Go p.tables e below (s₁.setTop (entryFrame m #[(.ref a1)] 1)) (T61.setTop (mkF m 25 #[rv a1] [(.int 0)])) := fun t q => by
    refine k_60 t ?_
    refine st61 _ ?_
    show Steps _ _ _ (T61.setTop (mkF m 17 #[rv a1] [(.ref a_ALREADY_HELD), (.ref a_FREE)])) _
    refine Jvm.RoadKit.acmp (g := (mkF m 17 #[rv a1] [(.ref a_ALREADY_HELD), (.ref a_FREE)])) X61 hx rfl rfl rfl (pc0 := 17) (pc' := 24) (same := false) rfl (hb hby d4_17) rfl (decide_eq_false fun q => (own_ne R_FREE_ordinal R_ALREADY_HELD_ordinal (by decide)) (Value.ref.inj q)) (by decide) (by decide) ?_
    show Steps _ _ _ (T61.setTop (mkF m 24 #[rv a1] [])) _
    refine XS.iconst X61.here hx rfl (hb hby d4_24) ?_
    show Steps _ _ _ (T61.setTop (mkF m 25 #[rv a1] [(.int 0)])) _
    exact q
  obtain ⟨fs, hr, hrun, hended, hW, hsame⟩ := X61.leave (v := some (.int 0)) (fun h => by rw [Bd.returns] at h; cases h)
  refine ⟨_, _, k_62 _ ?_, hrun, hended, _, _, rfl, ?_, ⟨_, rfl⟩, hW, hsame.mono (by decide) (by decide)⟩
  · exact retN X61 hx (t := .boolean) Bd.returns (by simp) (hb hby d4_25) hr
  · show QV (some (.int 0)) h0 n0 _ T61.heap _
    rw [e61]
    exact ⟨rfl, N0, rfl⟩
set_option maxRecDepth 65536 in
set_option maxHeartbeats 40000000 in
theorem rm0 (l : Launch) (Z : State) (a0 : Array Value) (hw : ∀ d ∈ tables_1, d.before a0 Z = true) (ws : List Jvm.Cond) (a_TAKEN a_REFUSED a_ALREADY_HELD a_FREE : Addr) (G : Own Z a_TAKEN a_REFUSED a_ALREADY_HELD a_FREE) (q1 : Int32) (q2 q3 : Int64) (h0 : Heap) (n0 : Nat) (O0 : Old Z n0 h0)  :
    MetFree l x (head1 (Jvm.Cond.code x code maxLocals ret :: ws) room_1) (fun a U => a = #[(.int q1), (.long q2), (.long q3)] ∧ Z.Warmed39 U.vm ∧ U.heap = h0) (fun _ _ _ _ _ => True) (fun _ U o U' => ∃ v L, o = .returned v ∧ Q0 n0 v U'.heap L ∧ FrameEnd U o U' L room_1.cells room_1.slots) := by
  refine MetFree.of_bodySF (plainFor_of_name pn_2) hisR ?_
  intro p e s m args below meth c s₁ Bd hml0 hP hK
  obtain ⟨rfl, hZ, hh⟩ := hP
  have hx := Bd.exec
  have hby := Bd.bytes
  have hml : c.maxLocals = 9 := hml0
  have hown : s.vm.findClass "com/example/setnix/setnix/io/AttemptHeldPinLaw" = some m.cls := findClass_of_methodNamed Bd.named
  have hnm := (name_of_methodNamed Bd.named Bd.method).1
  have X0 : Stand p l e room_1 s m #[(.int q1), (.long q2), (.long q3)] below meth c s₁ [] 0 0 := Stand.of_body Bd
  have e0 : s₁.heap = h0 := by rw [← hh, Bd.state]; rfl
  have N0 := Fr.nil n0
  have K0 := Keep.refl h0 []
  have k0 : Go p.tables e below (s₁.setTop (entryFrame m #[(.int q1), (.long q2), (.long q3)] maxLocals)) (s₁.setTop (mkF m 0 #[iv q1, .val (.long q2), .second, .val (.long q3), .second, .unset, .unset, .unset, .unset] [])) := fun t k => castTop (by first | rfl | (simp [entryFrame, mkF, argsToLocals, Value.category, maxLocals]; done)) k
  have ⟨S_TAKEN, E_TAKEN, S_REFUSED, E_REFUSED, S_ALREADY_HELD, E_ALREADY_HELD, S_FREE, E_FREE, R_REFUSED_ordinal, R_TAKEN_ordinal, R_ALREADY_HELD_ordinal, R_FREE_ordinal⟩ := G
  rcases own_mask_4 q1 with hi | hi | hi | hi
  · skip
    have k_63 : Go p.tables e below (s₁.setTop (entryFrame m #[(.int q1), (.long q2), (.long q3)] maxLocals)) (s₁.setTop (mkF m 10 #[iv q1, .val (.long q2), .second, .val (.long q3), .second, iv 0, .unset, .unset, .unset] [])) := fun t q => by
      refine k0 t ?_
      refine XS.iloadN X0.here hx rfl (hb hby at_0) rfl ?_
      show Steps _ _ _ (s₁.setTop (mkF m 1 #[iv q1, .val (.long q2), .second, .val (.long q3), .second, .unset, .unset, .unset, .unset] [(.int q1)])) _
      refine XS.iconst X0.here hx rfl (hb hby at_1) ?_
      show Steps _ _ _ (s₁.setTop (mkF m 2 #[iv q1, .val (.long q2), .second, .val (.long q3), .second, .unset, .unset, .unset, .unset] [(.int 3), (.int q1)])) _
      refine XS.iand X0.here hx rfl (hb hby at_2) rfl ?_
      show Steps _ _ _ (s₁.setTop (mkF m 3 #[iv q1, .val (.long q2), .second, .val (.long q3), .second, .unset, .unset, .unset, .unset] [(.int (q1 &&& (3 : Int32)))])) _
      rw [hi]
      show Steps _ _ _ (s₁.setTop (mkF m 3 #[iv q1, .val (.long q2), .second, .val (.long q3), .second, .unset, .unset, .unset, .unset] [(.int 0)])) _
      refine XS.istore X0.here hx rfl (hb hby at_3) rfl (l' := #[iv q1, .val (.long q2), .second, .val (.long q3), .second, iv 0, .unset, .unset, .unset]) rfl ?_
      show Steps _ _ _ (s₁.setTop (mkF m 5 #[iv q1, .val (.long q2), .second, .val (.long q3), .second, iv 0, .unset, .unset, .unset] [])) _
      refine XS.iload X0.here hx rfl (hb hby at_5) rfl ?_
      show Steps _ _ _ (s₁.setTop (mkF m 7 #[iv q1, .val (.long q2), .second, .val (.long q3), .second, iv 0, .unset, .unset, .unset] [(.int 0)])) _
      refine XS.ifNo X0.here hx rfl (hb hby at_7) rfl (by decide) ?_
      show Steps _ _ _ (s₁.setTop (mkF m 10 #[iv q1, .val (.long q2), .second, .val (.long q3), .second, iv 0, .unset, .unset, .unset] [])) _
      exact q
    obtain ⟨T64, X64, e64, st64⟩ := getS2 X0 hx hZ hown (host := "") (Or.inl (hw _ (wd 0 rfl))) Via.refl e0 (S_TAKEN.ext O0.2) (g := (mkF m 10 #[iv q1, .val (.long q2), .second, .val (.long q3), .second, iv 0, .unset, .unset, .unset] [])) rfl (hb hby at_10)
    have k_65 : Go p.tables e below (s₁.setTop (entryFrame m #[(.int q1), (.long q2), (.long q3)] maxLocals)) (T64.setTop (mkF m 63 #[iv q1, .val (.long q2), .second, .val (.long q3), .second, iv 0, rv a_TAKEN, iv 1, .unset] [])) := fun t q => by
      refine k_63 t ?_
      refine st64 _ ?_
      show Steps _ _ _ (T64.setTop (mkF m 13 #[iv q1, .val (.long q2), .second, .val (.long q3), .second, iv 0, .unset, .unset, .unset] [(.ref a_TAKEN)])) _
      refine XS.astore X64.here hx rfl (hb hby at_13) rfl rfl (l' := #[iv q1, .val (.long q2), .second, .val (.long q3), .second, iv 0, rv a_TAKEN, .unset, .unset]) rfl ?_
      show Steps _ _ _ (T64.setTop (mkF m 15 #[iv q1, .val (.long q2), .second, .val (.long q3), .second, iv 0, rv a_TAKEN, .unset, .unset] [])) _
      refine XS.iconst X64.here hx rfl (hb hby at_15) ?_
      show Steps _ _ _ (T64.setTop (mkF m 16 #[iv q1, .val (.long q2), .second, .val (.long q3), .second, iv 0, rv a_TAKEN, .unset, .unset] [(.int 1)])) _
      refine XS.istore X64.here hx rfl (hb hby at_16) rfl (l' := #[iv q1, .val (.long q2), .second, .val (.long q3), .second, iv 0, rv a_TAKEN, iv 1, .unset]) rfl ?_
      show Steps _ _ _ (T64.setTop (mkF m 18 #[iv q1, .val (.long q2), .second, .val (.long q3), .second, iv 0, rv a_TAKEN, iv 1, .unset] [])) _
      refine XS.goto X64.here hx rfl (pc0 := 18) (pc' := 63) rfl (hb hby at_18) (by decide) (by decide) ?_
      show Steps _ _ _ (T64.setTop (mkF m 63 #[iv q1, .val (.long q2), .second, .val (.long q3), .second, iv 0, rv a_TAKEN, iv 1, .unset] [])) _
      exact q
    obtain ⟨T66, h66, X66, e66, E66, A66, D66, -, st66⟩ := newO X64 hx hZ hown (hw _ (wd 3 rfl)) (hw _ (wd 4 rfl)) (hw _ (wd 5 rfl)) e64 (g := (mkF m 63 #[iv q1, .val (.long q2), .second, .val (.long q3), .second, iv 0, rv a_TAKEN, iv 1, .unset] [])) rfl (hb hby at_63) (by decide) (by decide)
    obtain ⟨b66, g66⟩ : ∃ z, z = h0.size := ⟨_, rfl⟩
    rw [← g66] at A66 D66 st66
    have g_b66 : n0 ≤ b66 := Nat.le_trans (own_old_le O0) (Nat.le_of_eq g66.symm)
    have sz_b66 : h0.size ≤ b66 := Nat.le_trans K0.1 (Nat.le_of_eq g66.symm)
    have O_67 := O0.ext E66
    have K_68 := K0.ext E66
    have F66_outcome : Fld Z h66 b66 "com/example/setnix/setnix/io/Attempt" "outcome" "Lcom/example/setnix/setnix/io/Attempt$Outcome;" .null := D66 (Or.inr (hw _ (wd 18 rfl))) (ty := (.object "com/example/setnix/setnix/io/Attempt$Outcome")) (by decide)
    have F66_holderLeaseMillis : Fld Z h66 b66 "com/example/setnix/setnix/io/Attempt" "holderLeaseMillis" "J" (.long (0 : Int64)) := D66 (Or.inr (hw _ (wd 20 rfl))) (ty := .long) (by decide)
    have F66_fencingToken : Fld Z h66 b66 "com/example/setnix/setnix/io/Attempt" "fencingToken" "J" (.long (0 : Int64)) := D66 (Or.inr (hw _ (wd 22 rfl))) (ty := .long) (by decide)
    have k_69 : Go p.tables e below (s₁.setTop (entryFrame m #[(.int q1), (.long q2), (.long q3)] maxLocals)) (T66.setTop (mkF m 71 #[iv q1, .val (.long q2), .second, .val (.long q3), .second, iv 0, rv a_TAKEN, iv 1, .unset] [(.long q3), (.long q2), (.ref a_TAKEN), (.ref b66), (.ref b66)])) := fun t q => by
      refine k_65 t ?_
      refine st66 _ ?_
      show Steps _ _ _ (T66.setTop (mkF m 66 #[iv q1, .val (.long q2), .second, .val (.long q3), .second, iv 0, rv a_TAKEN, iv 1, .unset] [(.ref b66)])) _
      refine XS.dup X66.here hx rfl (hb hby at_66) rfl rfl ?_
      show Steps _ _ _ (T66.setTop (mkF m 67 #[iv q1, .val (.long q2), .second, .val (.long q3), .second, iv 0, rv a_TAKEN, iv 1, .unset] [(.ref b66), (.ref b66)])) _
      refine XS.aload X66.here hx rfl (hb hby at_67) rfl rfl ?_
      show Steps _ _ _ (T66.setTop (mkF m 69 #[iv q1, .val (.long q2), .second, .val (.long q3), .second, iv 0, rv a_TAKEN, iv 1, .unset] [(.ref a_TAKEN), (.ref b66), (.ref b66)])) _
      refine XS.lloadN X66.here hx rfl (hb hby at_69) rfl ?_
      show Steps _ _ _ (T66.setTop (mkF m 70 #[iv q1, .val (.long q2), .second, .val (.long q3), .second, iv 0, rv a_TAKEN, iv 1, .unset] [(.long q2), (.ref a_TAKEN), (.ref b66), (.ref b66)])) _
      refine XS.lloadN X66.here hx rfl (hb hby at_70) rfl ?_
      show Steps _ _ _ (T66.setTop (mkF m 71 #[iv q1, .val (.long q2), .second, .val (.long q3), .second, iv 0, rv a_TAKEN, iv 1, .unset] [(.long q3), (.long q2), (.ref a_TAKEN), (.ref b66), (.ref b66)])) _
      exact q
    obtain ⟨_, _, ⟨T70, L70, k70, n70⟩, -, X70, ⟨Lc70, hQ70, l70, y70, z70⟩, st70⟩ := X66.specialBack hx (y := y_1) rfl hown (mvT hZ (hw _ (wd 6 rfl))) (mvT hZ (hw _ (wd 7 rfl))) (mvT hZ (hw _ (wd 8 rfl))) (by decide) (backOf (W := 1) (init_r l Z a0 hw [] a_TAKEN a_REFUSED a_ALREADY_HELD a_FREE G b66 a_TAKEN q2 q3 h66 n0 O_67 A66 F66_outcome F66_holderLeaseMillis F66_fencingToken g_b66) hZ (hw _ (wd 8 rfl)) (hw _ (wd 5 rfl)) (by decide) (by decide)) (g := (mkF m 71 #[iv q1, .val (.long q2), .second, .val (.long q3), .second, iv 0, rv a_TAKEN, iv 1, .unset] [(.long q3), (.long q2), (.ref a_TAKEN), (.ref b66), (.ref b66)])) rfl (by rw [hml]; rfl) (Steps.refl _) (a := b66) (argsL := [(.ref a_TAKEN), (.long q2), (.long q3)]) (rest := [(.ref b66)]) (lenOf pd_1 rfl) rfl (by show 2 * 0 + _ ≤ _; exact Nat.le_of_eq rfl) (hb hby at_71) (fun _ _ => ⟨rfl, e66, (by decide : 1 + 0 ≤ _), (by decide : 3 + 0 ≤ _)⟩)
    dsimp only [Pt.U, Pt.locs, Pt.cells, Pt.slots] at X70 l70 y70 z70 st70 hQ70
    subst l70 y70 z70
    obtain ⟨rfl, N70q, K70, I70_0, I70_1, I70_2⟩ := hQ70
    have N70 := Fr.app N0 N70q
    have f_71 := Exa.keep A66 K70
    have O_75 := O_67.keep K70 (allS g_b66 all0)
    have K_76 := K_68.trans K70 (allS (Or.inr sz_b66) all0)
    have k_77 : Go p.tables e below (s₁.setTop (entryFrame m #[(.int q1), (.long q2), (.long q3)] maxLocals)) (T70.setTop (mkF m 78 #[iv q1, .val (.long q2), .second, .val (.long q3), .second, iv 0, rv a_TAKEN, iv 1, rv b66] [(.ref b66)])) := fun t q => by
      refine k_69 t ?_
      refine st70.trans ?_
      show Steps _ _ _ (T70.setTop (mkF m 74 #[iv q1, .val (.long q2), .second, .val (.long q3), .second, iv 0, rv a_TAKEN, iv 1, .unset] [(.ref b66)])) _
      refine XS.astore X70.here hx rfl (hb hby at_74) rfl rfl (l' := #[iv q1, .val (.long q2), .second, .val (.long q3), .second, iv 0, rv a_TAKEN, iv 1, rv b66]) rfl ?_
      show Steps _ _ _ (T70.setTop (mkF m 76 #[iv q1, .val (.long q2), .second, .val (.long q3), .second, iv 0, rv a_TAKEN, iv 1, rv b66] [])) _
      refine XS.aload X70.here hx rfl (hb hby at_76) rfl rfl ?_
      show Steps _ _ _ (T70.setTop (mkF m 78 #[iv q1, .val (.long q2), .second, .val (.long q3), .second, iv 0, rv a_TAKEN, iv 1, rv b66] [(.ref b66)])) _
      exact q
    obtain ⟨cq78, kq78, q78a, q78b, q78c⟩ := isOf hZ (rfl : T70.heap = _) f_71
    obtain ⟨_, _, ⟨T78, L78, k78, n78⟩, -, X78, ⟨Lc78, hQ78, l78, y78, z78⟩, st78⟩ := X70.virtualBack hx (y := y_2) (z := y_2) hown (mvT hZ (hw _ (wd 23 rfl))) (mvT hZ (hw _ (wd 24 rfl))) (notFace_of_selects (args := #[]) (mvT hZ (hw _ (wd 26 rfl)))) (mvT hZ (hw _ (wd 26 rfl))) (mvT hZ (hw _ (wd 25 rfl))) (by decide) (backOf (W := 0) (held_TAKEN l Z a0 hw [] a_TAKEN a_REFUSED a_ALREADY_HELD a_FREE G b66 T70.heap n0 O_75 I70_0) hZ (hw _ (wd 27 rfl)) (hw _ (wd 5 rfl)) (by decide) (by decide)) q78a q78c (g := (mkF m 78 #[iv q1, .val (.long q2), .second, .val (.long q3), .second, iv 0, rv a_TAKEN, iv 1, rv b66] [(.ref b66)])) rfl (by rw [hml]; rfl) (Steps.refl _) (argsL := []) (rest := []) (lenOf pd_2 rfl) rfl (by show 2 * 0 + _ ≤ _; exact Nat.le_of_eq rfl) (hb hby at_78) (fun _ _ => ⟨rfl, (rfl : T70.heap = _), (by decide : 1 + 0 ≤ _), (by decide : 3 + 0 ≤ _)⟩)
    dsimp only [Pt.U, Pt.locs, Pt.cells, Pt.slots] at X78 l78 y78 z78 st78 hQ78
    subst l78 y78 z78
    obtain ⟨rfl, N78q, e78⟩ := hQ78
    have N78 := Fr.app N70 N78q
    have k_79 : Go p.tables e below (s₁.setTop (entryFrame m #[(.int q1), (.long q2), (.long q3)] maxLocals)) (T78.setTop (mkF m 91 #[iv q1, .val (.long q2), .second, .val (.long q3), .second, iv 0, rv a_TAKEN, iv 1, rv b66] [(.int 1)])) := fun t q => by
      refine k_77 t ?_
      refine st78.trans ?_
      show Steps _ _ _ (T78.setTop (mkF m 81 #[iv q1, .val (.long q2), .second, .val (.long q3), .second, iv 0, rv a_TAKEN, iv 1, rv b66] [(.int 1)])) _
      refine XS.iload X78.here hx rfl (hb hby at_81) rfl ?_
      show Steps _ _ _ (T78.setTop (mkF m 83 #[iv q1, .val (.long q2), .second, .val (.long q3), .second, iv 0, rv a_TAKEN, iv 1, rv b66] [(.int 1), (.int 1)])) _
      refine XS.icmpNo X78.here hx rfl (hb hby at_83) rfl (by decide) ?_
      show Steps _ _ _ (T78.setTop (mkF m 86 #[iv q1, .val (.long q2), .second, .val (.long q3), .second, iv 0, rv a_TAKEN, iv 1, rv b66] [])) _
      refine XS.iconst X78.here hx rfl (hb hby at_86) ?_
      show Steps _ _ _ (T78.setTop (mkF m 87 #[iv q1, .val (.long q2), .second, .val (.long q3), .second, iv 0, rv a_TAKEN, iv 1, rv b66] [(.int 1)])) _
      refine XS.goto X78.here hx rfl (pc0 := 87) (pc' := 91) rfl (hb hby at_87) (by decide) (by decide) ?_
      show Steps _ _ _ (T78.setTop (mkF m 91 #[iv q1, .val (.long q2), .second, .val (.long q3), .second, iv 0, rv a_TAKEN, iv 1, rv b66] [(.int 1)])) _
      exact q
    obtain ⟨fs, hr, hrun, hended, hW, hsame⟩ := X78.leave (v := some (.int 1)) (fun h => by rw [Bd.returns] at h; cases h)
    refine ⟨_, _, k_79 _ ?_, hrun, hended, _, _, rfl, ?_, ⟨_, rfl⟩, hW, hsame.mono (by decide) (by decide)⟩
    · exact retN X78 hx (t := .boolean) Bd.returns (by simp) (hb hby at_91) hr
    · show Q0 n0 _ T78.heap _
      rw [e78]
      exact ⟨rfl, N78⟩
  · skip
    have k_80 : Go p.tables e below (s₁.setTop (entryFrame m #[(.int q1), (.long q2), (.long q3)] maxLocals)) (s₁.setTop (mkF m 27 #[iv q1, .val (.long q2), .second, .val (.long q3), .second, iv 1, .unset, .unset, .unset] [])) := fun t q => by
      refine k0 t ?_
      refine XS.iloadN X0.here hx rfl (hb hby at_0) rfl ?_
      show Steps _ _ _ (s₁.setTop (mkF m 1 #[iv q1, .val (.long q2), .second, .val (.long q3), .second, .unset, .unset, .unset, .unset] [(.int q1)])) _
      refine XS.iconst X0.here hx rfl (hb hby at_1) ?_
      show Steps _ _ _ (s₁.setTop (mkF m 2 #[iv q1, .val (.long q2), .second, .val (.long q3), .second, .unset, .unset, .unset, .unset] [(.int 3), (.int q1)])) _
      refine XS.iand X0.here hx rfl (hb hby at_2) rfl ?_
      show Steps _ _ _ (s₁.setTop (mkF m 3 #[iv q1, .val (.long q2), .second, .val (.long q3), .second, .unset, .unset, .unset, .unset] [(.int (q1 &&& (3 : Int32)))])) _
      rw [hi]
      show Steps _ _ _ (s₁.setTop (mkF m 3 #[iv q1, .val (.long q2), .second, .val (.long q3), .second, .unset, .unset, .unset, .unset] [(.int 1)])) _
      refine XS.istore X0.here hx rfl (hb hby at_3) rfl (l' := #[iv q1, .val (.long q2), .second, .val (.long q3), .second, iv 1, .unset, .unset, .unset]) rfl ?_
      show Steps _ _ _ (s₁.setTop (mkF m 5 #[iv q1, .val (.long q2), .second, .val (.long q3), .second, iv 1, .unset, .unset, .unset] [])) _
      refine XS.iload X0.here hx rfl (hb hby at_5) rfl ?_
      show Steps _ _ _ (s₁.setTop (mkF m 7 #[iv q1, .val (.long q2), .second, .val (.long q3), .second, iv 1, .unset, .unset, .unset] [(.int 1)])) _
      refine XS.ifYes X0.here hx rfl (pc0 := 7) (pc' := 21) rfl (hb hby at_7) rfl (by decide) (by decide) (by decide) ?_
      show Steps _ _ _ (s₁.setTop (mkF m 21 #[iv q1, .val (.long q2), .second, .val (.long q3), .second, iv 1, .unset, .unset, .unset] [])) _
      refine XS.iload X0.here hx rfl (hb hby at_21) rfl ?_
      show Steps _ _ _ (s₁.setTop (mkF m 23 #[iv q1, .val (.long q2), .second, .val (.long q3), .second, iv 1, .unset, .unset, .unset] [(.int 1)])) _
      refine XS.iconst X0.here hx rfl (hb hby at_23) ?_
      show Steps _ _ _ (s₁.setTop (mkF m 24 #[iv q1, .val (.long q2), .second, .val (.long q3), .second, iv 1, .unset, .unset, .unset] [(.int 1), (.int 1)])) _
      refine XS.icmpNo X0.here hx rfl (hb hby at_24) rfl (by decide) ?_
      show Steps _ _ _ (s₁.setTop (mkF m 27 #[iv q1, .val (.long q2), .second, .val (.long q3), .second, iv 1, .unset, .unset, .unset] [])) _
      exact q
    obtain ⟨T81, X81, e81, st81⟩ := getS2 X0 hx hZ hown (host := "") (Or.inl (hw _ (wd 35 rfl))) Via.refl e0 (S_ALREADY_HELD.ext O0.2) (g := (mkF m 27 #[iv q1, .val (.long q2), .second, .val (.long q3), .second, iv 1, .unset, .unset, .unset] [])) rfl (hb hby at_27)
    have k_82 : Go p.tables e below (s₁.setTop (entryFrame m #[(.int q1), (.long q2), (.long q3)] maxLocals)) (T81.setTop (mkF m 63 #[iv q1, .val (.long q2), .second, .val (.long q3), .second, iv 1, rv a_ALREADY_HELD, iv 1, .unset] [])) := fun t q => by
      refine k_80 t ?_
      refine st81 _ ?_
      show Steps _ _ _ (T81.setTop (mkF m 30 #[iv q1, .val (.long q2), .second, .val (.long q3), .second, iv 1, .unset, .unset, .unset] [(.ref a_ALREADY_HELD)])) _
      refine XS.astore X81.here hx rfl (hb hby at_30) rfl rfl (l' := #[iv q1, .val (.long q2), .second, .val (.long q3), .second, iv 1, rv a_ALREADY_HELD, .unset, .unset]) rfl ?_
      show Steps _ _ _ (T81.setTop (mkF m 32 #[iv q1, .val (.long q2), .second, .val (.long q3), .second, iv 1, rv a_ALREADY_HELD, .unset, .unset] [])) _
      refine XS.iconst X81.here hx rfl (hb hby at_32) ?_
      show Steps _ _ _ (T81.setTop (mkF m 33 #[iv q1, .val (.long q2), .second, .val (.long q3), .second, iv 1, rv a_ALREADY_HELD, .unset, .unset] [(.int 1)])) _
      refine XS.istore X81.here hx rfl (hb hby at_33) rfl (l' := #[iv q1, .val (.long q2), .second, .val (.long q3), .second, iv 1, rv a_ALREADY_HELD, iv 1, .unset]) rfl ?_
      show Steps _ _ _ (T81.setTop (mkF m 35 #[iv q1, .val (.long q2), .second, .val (.long q3), .second, iv 1, rv a_ALREADY_HELD, iv 1, .unset] [])) _
      refine XS.goto X81.here hx rfl (pc0 := 35) (pc' := 63) rfl (hb hby at_35) (by decide) (by decide) ?_
      show Steps _ _ _ (T81.setTop (mkF m 63 #[iv q1, .val (.long q2), .second, .val (.long q3), .second, iv 1, rv a_ALREADY_HELD, iv 1, .unset] [])) _
      exact q
    obtain ⟨T83, h83, X83, e83, E83, A83, D83, -, st83⟩ := newO X81 hx hZ hown (hw _ (wd 3 rfl)) (hw _ (wd 4 rfl)) (hw _ (wd 5 rfl)) e81 (g := (mkF m 63 #[iv q1, .val (.long q2), .second, .val (.long q3), .second, iv 1, rv a_ALREADY_HELD, iv 1, .unset] [])) rfl (hb hby at_63) (by decide) (by decide)
    obtain ⟨b83, g83⟩ : ∃ z, z = h0.size := ⟨_, rfl⟩
    rw [← g83] at A83 D83 st83
    have g_b83 : n0 ≤ b83 := Nat.le_trans (own_old_le O0) (Nat.le_of_eq g83.symm)
    have sz_b83 : h0.size ≤ b83 := Nat.le_trans K0.1 (Nat.le_of_eq g83.symm)
    have O_84 := O0.ext E83
    have K_85 := K0.ext E83
    have F83_outcome : Fld Z h83 b83 "com/example/setnix/setnix/io/Attempt" "outcome" "Lcom/example/setnix/setnix/io/Attempt$Outcome;" .null := D83 (Or.inr (hw _ (wd 18 rfl))) (ty := (.object "com/example/setnix/setnix/io/Attempt$Outcome")) (by decide)
    have F83_holderLeaseMillis : Fld Z h83 b83 "com/example/setnix/setnix/io/Attempt" "holderLeaseMillis" "J" (.long (0 : Int64)) := D83 (Or.inr (hw _ (wd 20 rfl))) (ty := .long) (by decide)
    have F83_fencingToken : Fld Z h83 b83 "com/example/setnix/setnix/io/Attempt" "fencingToken" "J" (.long (0 : Int64)) := D83 (Or.inr (hw _ (wd 22 rfl))) (ty := .long) (by decide)
    have k_86 : Go p.tables e below (s₁.setTop (entryFrame m #[(.int q1), (.long q2), (.long q3)] maxLocals)) (T83.setTop (mkF m 71 #[iv q1, .val (.long q2), .second, .val (.long q3), .second, iv 1, rv a_ALREADY_HELD, iv 1, .unset] [(.long q3), (.long q2), (.ref a_ALREADY_HELD), (.ref b83), (.ref b83)])) := fun t q => by
      refine k_82 t ?_
      refine st83 _ ?_
      show Steps _ _ _ (T83.setTop (mkF m 66 #[iv q1, .val (.long q2), .second, .val (.long q3), .second, iv 1, rv a_ALREADY_HELD, iv 1, .unset] [(.ref b83)])) _
      refine XS.dup X83.here hx rfl (hb hby at_66) rfl rfl ?_
      show Steps _ _ _ (T83.setTop (mkF m 67 #[iv q1, .val (.long q2), .second, .val (.long q3), .second, iv 1, rv a_ALREADY_HELD, iv 1, .unset] [(.ref b83), (.ref b83)])) _
      refine XS.aload X83.here hx rfl (hb hby at_67) rfl rfl ?_
      show Steps _ _ _ (T83.setTop (mkF m 69 #[iv q1, .val (.long q2), .second, .val (.long q3), .second, iv 1, rv a_ALREADY_HELD, iv 1, .unset] [(.ref a_ALREADY_HELD), (.ref b83), (.ref b83)])) _
      refine XS.lloadN X83.here hx rfl (hb hby at_69) rfl ?_
      show Steps _ _ _ (T83.setTop (mkF m 70 #[iv q1, .val (.long q2), .second, .val (.long q3), .second, iv 1, rv a_ALREADY_HELD, iv 1, .unset] [(.long q2), (.ref a_ALREADY_HELD), (.ref b83), (.ref b83)])) _
      refine XS.lloadN X83.here hx rfl (hb hby at_70) rfl ?_
      show Steps _ _ _ (T83.setTop (mkF m 71 #[iv q1, .val (.long q2), .second, .val (.long q3), .second, iv 1, rv a_ALREADY_HELD, iv 1, .unset] [(.long q3), (.long q2), (.ref a_ALREADY_HELD), (.ref b83), (.ref b83)])) _
      exact q
    obtain ⟨_, _, ⟨T87, L87, k87, n87⟩, -, X87, ⟨Lc87, hQ87, l87, y87, z87⟩, st87⟩ := X83.specialBack hx (y := y_1) rfl hown (mvT hZ (hw _ (wd 6 rfl))) (mvT hZ (hw _ (wd 7 rfl))) (mvT hZ (hw _ (wd 8 rfl))) (by decide) (backOf (W := 1) (init_r l Z a0 hw [] a_TAKEN a_REFUSED a_ALREADY_HELD a_FREE G b83 a_ALREADY_HELD q2 q3 h83 n0 O_84 A83 F83_outcome F83_holderLeaseMillis F83_fencingToken g_b83) hZ (hw _ (wd 8 rfl)) (hw _ (wd 5 rfl)) (by decide) (by decide)) (g := (mkF m 71 #[iv q1, .val (.long q2), .second, .val (.long q3), .second, iv 1, rv a_ALREADY_HELD, iv 1, .unset] [(.long q3), (.long q2), (.ref a_ALREADY_HELD), (.ref b83), (.ref b83)])) rfl (by rw [hml]; rfl) (Steps.refl _) (a := b83) (argsL := [(.ref a_ALREADY_HELD), (.long q2), (.long q3)]) (rest := [(.ref b83)]) (lenOf pd_1 rfl) rfl (by show 2 * 0 + _ ≤ _; exact Nat.le_of_eq rfl) (hb hby at_71) (fun _ _ => ⟨rfl, e83, (by decide : 1 + 0 ≤ _), (by decide : 3 + 0 ≤ _)⟩)
    dsimp only [Pt.U, Pt.locs, Pt.cells, Pt.slots] at X87 l87 y87 z87 st87 hQ87
    subst l87 y87 z87
    obtain ⟨rfl, N87q, K87, I87_0, I87_1, I87_2⟩ := hQ87
    have N87 := Fr.app N0 N87q
    have f_88 := Exa.keep A83 K87
    have O_92 := O_84.keep K87 (allS g_b83 all0)
    have K_93 := K_85.trans K87 (allS (Or.inr sz_b83) all0)
    have k_94 : Go p.tables e below (s₁.setTop (entryFrame m #[(.int q1), (.long q2), (.long q3)] maxLocals)) (T87.setTop (mkF m 78 #[iv q1, .val (.long q2), .second, .val (.long q3), .second, iv 1, rv a_ALREADY_HELD, iv 1, rv b83] [(.ref b83)])) := fun t q => by
      refine k_86 t ?_
      refine st87.trans ?_
      show Steps _ _ _ (T87.setTop (mkF m 74 #[iv q1, .val (.long q2), .second, .val (.long q3), .second, iv 1, rv a_ALREADY_HELD, iv 1, .unset] [(.ref b83)])) _
      refine XS.astore X87.here hx rfl (hb hby at_74) rfl rfl (l' := #[iv q1, .val (.long q2), .second, .val (.long q3), .second, iv 1, rv a_ALREADY_HELD, iv 1, rv b83]) rfl ?_
      show Steps _ _ _ (T87.setTop (mkF m 76 #[iv q1, .val (.long q2), .second, .val (.long q3), .second, iv 1, rv a_ALREADY_HELD, iv 1, rv b83] [])) _
      refine XS.aload X87.here hx rfl (hb hby at_76) rfl rfl ?_
      show Steps _ _ _ (T87.setTop (mkF m 78 #[iv q1, .val (.long q2), .second, .val (.long q3), .second, iv 1, rv a_ALREADY_HELD, iv 1, rv b83] [(.ref b83)])) _
      exact q
    obtain ⟨cq95, kq95, q95a, q95b, q95c⟩ := isOf hZ (rfl : T87.heap = _) f_88
    obtain ⟨_, _, ⟨T95, L95, k95, n95⟩, -, X95, ⟨Lc95, hQ95, l95, y95, z95⟩, st95⟩ := X87.virtualBack hx (y := y_2) (z := y_2) hown (mvT hZ (hw _ (wd 23 rfl))) (mvT hZ (hw _ (wd 24 rfl))) (notFace_of_selects (args := #[]) (mvT hZ (hw _ (wd 26 rfl)))) (mvT hZ (hw _ (wd 26 rfl))) (mvT hZ (hw _ (wd 25 rfl))) (by decide) (backOf (W := 0) (held_ALREADY_HELD l Z a0 hw [] a_TAKEN a_REFUSED a_ALREADY_HELD a_FREE G b83 T87.heap n0 O_92 I87_0) hZ (hw _ (wd 27 rfl)) (hw _ (wd 5 rfl)) (by decide) (by decide)) q95a q95c (g := (mkF m 78 #[iv q1, .val (.long q2), .second, .val (.long q3), .second, iv 1, rv a_ALREADY_HELD, iv 1, rv b83] [(.ref b83)])) rfl (by rw [hml]; rfl) (Steps.refl _) (argsL := []) (rest := []) (lenOf pd_2 rfl) rfl (by show 2 * 0 + _ ≤ _; exact Nat.le_of_eq rfl) (hb hby at_78) (fun _ _ => ⟨rfl, (rfl : T87.heap = _), (by decide : 1 + 0 ≤ _), (by decide : 3 + 0 ≤ _)⟩)
    dsimp only [Pt.U, Pt.locs, Pt.cells, Pt.slots] at X95 l95 y95 z95 st95 hQ95
    subst l95 y95 z95
    obtain ⟨rfl, N95q, e95⟩ := hQ95
    have N95 := Fr.app N87 N95q
    have k_96 : Go p.tables e below (s₁.setTop (entryFrame m #[(.int q1), (.long q2), (.long q3)] maxLocals)) (T95.setTop (mkF m 91 #[iv q1, .val (.long q2), .second, .val (.long q3), .second, iv 1, rv a_ALREADY_HELD, iv 1, rv b83] [(.int 1)])) := fun t q => by
      refine k_94 t ?_
      refine st95.trans ?_
      show Steps _ _ _ (T95.setTop (mkF m 81 #[iv q1, .val (.long q2), .second, .val (.long q3), .second, iv 1, rv a_ALREADY_HELD, iv 1, rv b83] [(.int 1)])) _
      refine XS.iload X95.here hx rfl (hb hby at_81) rfl ?_
      show Steps _ _ _ (T95.setTop (mkF m 83 #[iv q1, .val (.long q2), .second, .val (.long q3), .second, iv 1, rv a_ALREADY_HELD, iv 1, rv b83] [(.int 1), (.int 1)])) _
      refine XS.icmpNo X95.here hx rfl (hb hby at_83) rfl (by decide) ?_
      show Steps _ _ _ (T95.setTop (mkF m 86 #[iv q1, .val (.long q2), .second, .val (.long q3), .second, iv 1, rv a_ALREADY_HELD, iv 1, rv b83] [])) _
      refine XS.iconst X95.here hx rfl (hb hby at_86) ?_
      show Steps _ _ _ (T95.setTop (mkF m 87 #[iv q1, .val (.long q2), .second, .val (.long q3), .second, iv 1, rv a_ALREADY_HELD, iv 1, rv b83] [(.int 1)])) _
      refine XS.goto X95.here hx rfl (pc0 := 87) (pc' := 91) rfl (hb hby at_87) (by decide) (by decide) ?_
      show Steps _ _ _ (T95.setTop (mkF m 91 #[iv q1, .val (.long q2), .second, .val (.long q3), .second, iv 1, rv a_ALREADY_HELD, iv 1, rv b83] [(.int 1)])) _
      exact q
    obtain ⟨fs, hr, hrun, hended, hW, hsame⟩ := X95.leave (v := some (.int 1)) (fun h => by rw [Bd.returns] at h; cases h)
    refine ⟨_, _, k_96 _ ?_, hrun, hended, _, _, rfl, ?_, ⟨_, rfl⟩, hW, hsame.mono (by decide) (by decide)⟩
    · exact retN X95 hx (t := .boolean) Bd.returns (by simp) (hb hby at_91) hr
    · show Q0 n0 _ T95.heap _
      rw [e95]
      exact ⟨rfl, N95⟩
  · skip
    have k_97 : Go p.tables e below (s₁.setTop (entryFrame m #[(.int q1), (.long q2), (.long q3)] maxLocals)) (s₁.setTop (mkF m 44 #[iv q1, .val (.long q2), .second, .val (.long q3), .second, iv 2, .unset, .unset, .unset] [])) := fun t q => by
      refine k0 t ?_
      refine XS.iloadN X0.here hx rfl (hb hby at_0) rfl ?_
      show Steps _ _ _ (s₁.setTop (mkF m 1 #[iv q1, .val (.long q2), .second, .val (.long q3), .second, .unset, .unset, .unset, .unset] [(.int q1)])) _
      refine XS.iconst X0.here hx rfl (hb hby at_1) ?_
      show Steps _ _ _ (s₁.setTop (mkF m 2 #[iv q1, .val (.long q2), .second, .val (.long q3), .second, .unset, .unset, .unset, .unset] [(.int 3), (.int q1)])) _
      refine XS.iand X0.here hx rfl (hb hby at_2) rfl ?_
      show Steps _ _ _ (s₁.setTop (mkF m 3 #[iv q1, .val (.long q2), .second, .val (.long q3), .second, .unset, .unset, .unset, .unset] [(.int (q1 &&& (3 : Int32)))])) _
      rw [hi]
      show Steps _ _ _ (s₁.setTop (mkF m 3 #[iv q1, .val (.long q2), .second, .val (.long q3), .second, .unset, .unset, .unset, .unset] [(.int 2)])) _
      refine XS.istore X0.here hx rfl (hb hby at_3) rfl (l' := #[iv q1, .val (.long q2), .second, .val (.long q3), .second, iv 2, .unset, .unset, .unset]) rfl ?_
      show Steps _ _ _ (s₁.setTop (mkF m 5 #[iv q1, .val (.long q2), .second, .val (.long q3), .second, iv 2, .unset, .unset, .unset] [])) _
      refine XS.iload X0.here hx rfl (hb hby at_5) rfl ?_
      show Steps _ _ _ (s₁.setTop (mkF m 7 #[iv q1, .val (.long q2), .second, .val (.long q3), .second, iv 2, .unset, .unset, .unset] [(.int 2)])) _
      refine XS.ifYes X0.here hx rfl (pc0 := 7) (pc' := 21) rfl (hb hby at_7) rfl (by decide) (by decide) (by decide) ?_
      show Steps _ _ _ (s₁.setTop (mkF m 21 #[iv q1, .val (.long q2), .second, .val (.long q3), .second, iv 2, .unset, .unset, .unset] [])) _
      refine XS.iload X0.here hx rfl (hb hby at_21) rfl ?_
      show Steps _ _ _ (s₁.setTop (mkF m 23 #[iv q1, .val (.long q2), .second, .val (.long q3), .second, iv 2, .unset, .unset, .unset] [(.int 2)])) _
      refine XS.iconst X0.here hx rfl (hb hby at_23) ?_
      show Steps _ _ _ (s₁.setTop (mkF m 24 #[iv q1, .val (.long q2), .second, .val (.long q3), .second, iv 2, .unset, .unset, .unset] [(.int 1), (.int 2)])) _
      refine XS.icmpYes X0.here hx rfl (pc0 := 24) (pc' := 38) rfl (hb hby at_24) rfl (by decide) (by decide) (by decide) ?_
      show Steps _ _ _ (s₁.setTop (mkF m 38 #[iv q1, .val (.long q2), .second, .val (.long q3), .second, iv 2, .unset, .unset, .unset] [])) _
      refine XS.iload X0.here hx rfl (hb hby at_38) rfl ?_
      show Steps _ _ _ (s₁.setTop (mkF m 40 #[iv q1, .val (.long q2), .second, .val (.long q3), .second, iv 2, .unset, .unset, .unset] [(.int 2)])) _
      refine XS.iconst X0.here hx rfl (hb hby at_40) ?_
      show Steps _ _ _ (s₁.setTop (mkF m 41 #[iv q1, .val (.long q2), .second, .val (.long q3), .second, iv 2, .unset, .unset, .unset] [(.int 2), (.int 2)])) _
      refine XS.icmpNo X0.here hx rfl (hb hby at_41) rfl (by decide) ?_
      show Steps _ _ _ (s₁.setTop (mkF m 44 #[iv q1, .val (.long q2), .second, .val (.long q3), .second, iv 2, .unset, .unset, .unset] [])) _
      exact q
    obtain ⟨T98, X98, e98, st98⟩ := getS2 X0 hx hZ hown (host := "") (Or.inl (hw _ (wd 29 rfl))) Via.refl e0 (S_REFUSED.ext O0.2) (g := (mkF m 44 #[iv q1, .val (.long q2), .second, .val (.long q3), .second, iv 2, .unset, .unset, .unset] [])) rfl (hb hby at_44)
    have k_99 : Go p.tables e below (s₁.setTop (entryFrame m #[(.int q1), (.long q2), (.long q3)] maxLocals)) (T98.setTop (mkF m 63 #[iv q1, .val (.long q2), .second, .val (.long q3), .second, iv 2, rv a_REFUSED, iv 0, .unset] [])) := fun t q => by
      refine k_97 t ?_
      refine st98 _ ?_
      show Steps _ _ _ (T98.setTop (mkF m 47 #[iv q1, .val (.long q2), .second, .val (.long q3), .second, iv 2, .unset, .unset, .unset] [(.ref a_REFUSED)])) _
      refine XS.astore X98.here hx rfl (hb hby at_47) rfl rfl (l' := #[iv q1, .val (.long q2), .second, .val (.long q3), .second, iv 2, rv a_REFUSED, .unset, .unset]) rfl ?_
      show Steps _ _ _ (T98.setTop (mkF m 49 #[iv q1, .val (.long q2), .second, .val (.long q3), .second, iv 2, rv a_REFUSED, .unset, .unset] [])) _
      refine XS.iconst X98.here hx rfl (hb hby at_49) ?_
      show Steps _ _ _ (T98.setTop (mkF m 50 #[iv q1, .val (.long q2), .second, .val (.long q3), .second, iv 2, rv a_REFUSED, .unset, .unset] [(.int 0)])) _
      refine XS.istore X98.here hx rfl (hb hby at_50) rfl (l' := #[iv q1, .val (.long q2), .second, .val (.long q3), .second, iv 2, rv a_REFUSED, iv 0, .unset]) rfl ?_
      show Steps _ _ _ (T98.setTop (mkF m 52 #[iv q1, .val (.long q2), .second, .val (.long q3), .second, iv 2, rv a_REFUSED, iv 0, .unset] [])) _
      refine XS.goto X98.here hx rfl (pc0 := 52) (pc' := 63) rfl (hb hby at_52) (by decide) (by decide) ?_
      show Steps _ _ _ (T98.setTop (mkF m 63 #[iv q1, .val (.long q2), .second, .val (.long q3), .second, iv 2, rv a_REFUSED, iv 0, .unset] [])) _
      exact q
    obtain ⟨T100, h100, X100, e100, E100, A100, D100, -, st100⟩ := newO X98 hx hZ hown (hw _ (wd 3 rfl)) (hw _ (wd 4 rfl)) (hw _ (wd 5 rfl)) e98 (g := (mkF m 63 #[iv q1, .val (.long q2), .second, .val (.long q3), .second, iv 2, rv a_REFUSED, iv 0, .unset] [])) rfl (hb hby at_63) (by decide) (by decide)
    obtain ⟨b100, g100⟩ : ∃ z, z = h0.size := ⟨_, rfl⟩
    rw [← g100] at A100 D100 st100
    have g_b100 : n0 ≤ b100 := Nat.le_trans (own_old_le O0) (Nat.le_of_eq g100.symm)
    have sz_b100 : h0.size ≤ b100 := Nat.le_trans K0.1 (Nat.le_of_eq g100.symm)
    have O_101 := O0.ext E100
    have K_102 := K0.ext E100
    have F100_outcome : Fld Z h100 b100 "com/example/setnix/setnix/io/Attempt" "outcome" "Lcom/example/setnix/setnix/io/Attempt$Outcome;" .null := D100 (Or.inr (hw _ (wd 18 rfl))) (ty := (.object "com/example/setnix/setnix/io/Attempt$Outcome")) (by decide)
    have F100_holderLeaseMillis : Fld Z h100 b100 "com/example/setnix/setnix/io/Attempt" "holderLeaseMillis" "J" (.long (0 : Int64)) := D100 (Or.inr (hw _ (wd 20 rfl))) (ty := .long) (by decide)
    have F100_fencingToken : Fld Z h100 b100 "com/example/setnix/setnix/io/Attempt" "fencingToken" "J" (.long (0 : Int64)) := D100 (Or.inr (hw _ (wd 22 rfl))) (ty := .long) (by decide)
    have k_103 : Go p.tables e below (s₁.setTop (entryFrame m #[(.int q1), (.long q2), (.long q3)] maxLocals)) (T100.setTop (mkF m 71 #[iv q1, .val (.long q2), .second, .val (.long q3), .second, iv 2, rv a_REFUSED, iv 0, .unset] [(.long q3), (.long q2), (.ref a_REFUSED), (.ref b100), (.ref b100)])) := fun t q => by
      refine k_99 t ?_
      refine st100 _ ?_
      show Steps _ _ _ (T100.setTop (mkF m 66 #[iv q1, .val (.long q2), .second, .val (.long q3), .second, iv 2, rv a_REFUSED, iv 0, .unset] [(.ref b100)])) _
      refine XS.dup X100.here hx rfl (hb hby at_66) rfl rfl ?_
      show Steps _ _ _ (T100.setTop (mkF m 67 #[iv q1, .val (.long q2), .second, .val (.long q3), .second, iv 2, rv a_REFUSED, iv 0, .unset] [(.ref b100), (.ref b100)])) _
      refine XS.aload X100.here hx rfl (hb hby at_67) rfl rfl ?_
      show Steps _ _ _ (T100.setTop (mkF m 69 #[iv q1, .val (.long q2), .second, .val (.long q3), .second, iv 2, rv a_REFUSED, iv 0, .unset] [(.ref a_REFUSED), (.ref b100), (.ref b100)])) _
      refine XS.lloadN X100.here hx rfl (hb hby at_69) rfl ?_
      show Steps _ _ _ (T100.setTop (mkF m 70 #[iv q1, .val (.long q2), .second, .val (.long q3), .second, iv 2, rv a_REFUSED, iv 0, .unset] [(.long q2), (.ref a_REFUSED), (.ref b100), (.ref b100)])) _
      refine XS.lloadN X100.here hx rfl (hb hby at_70) rfl ?_
      show Steps _ _ _ (T100.setTop (mkF m 71 #[iv q1, .val (.long q2), .second, .val (.long q3), .second, iv 2, rv a_REFUSED, iv 0, .unset] [(.long q3), (.long q2), (.ref a_REFUSED), (.ref b100), (.ref b100)])) _
      exact q
    obtain ⟨_, _, ⟨T104, L104, k104, n104⟩, -, X104, ⟨Lc104, hQ104, l104, y104, z104⟩, st104⟩ := X100.specialBack hx (y := y_1) rfl hown (mvT hZ (hw _ (wd 6 rfl))) (mvT hZ (hw _ (wd 7 rfl))) (mvT hZ (hw _ (wd 8 rfl))) (by decide) (backOf (W := 1) (init_r l Z a0 hw [] a_TAKEN a_REFUSED a_ALREADY_HELD a_FREE G b100 a_REFUSED q2 q3 h100 n0 O_101 A100 F100_outcome F100_holderLeaseMillis F100_fencingToken g_b100) hZ (hw _ (wd 8 rfl)) (hw _ (wd 5 rfl)) (by decide) (by decide)) (g := (mkF m 71 #[iv q1, .val (.long q2), .second, .val (.long q3), .second, iv 2, rv a_REFUSED, iv 0, .unset] [(.long q3), (.long q2), (.ref a_REFUSED), (.ref b100), (.ref b100)])) rfl (by rw [hml]; rfl) (Steps.refl _) (a := b100) (argsL := [(.ref a_REFUSED), (.long q2), (.long q3)]) (rest := [(.ref b100)]) (lenOf pd_1 rfl) rfl (by show 2 * 0 + _ ≤ _; exact Nat.le_of_eq rfl) (hb hby at_71) (fun _ _ => ⟨rfl, e100, (by decide : 1 + 0 ≤ _), (by decide : 3 + 0 ≤ _)⟩)
    dsimp only [Pt.U, Pt.locs, Pt.cells, Pt.slots] at X104 l104 y104 z104 st104 hQ104
    subst l104 y104 z104
    obtain ⟨rfl, N104q, K104, I104_0, I104_1, I104_2⟩ := hQ104
    have N104 := Fr.app N0 N104q
    have f_105 := Exa.keep A100 K104
    have O_109 := O_101.keep K104 (allS g_b100 all0)
    have K_110 := K_102.trans K104 (allS (Or.inr sz_b100) all0)
    have k_111 : Go p.tables e below (s₁.setTop (entryFrame m #[(.int q1), (.long q2), (.long q3)] maxLocals)) (T104.setTop (mkF m 78 #[iv q1, .val (.long q2), .second, .val (.long q3), .second, iv 2, rv a_REFUSED, iv 0, rv b100] [(.ref b100)])) := fun t q => by
      refine k_103 t ?_
      refine st104.trans ?_
      show Steps _ _ _ (T104.setTop (mkF m 74 #[iv q1, .val (.long q2), .second, .val (.long q3), .second, iv 2, rv a_REFUSED, iv 0, .unset] [(.ref b100)])) _
      refine XS.astore X104.here hx rfl (hb hby at_74) rfl rfl (l' := #[iv q1, .val (.long q2), .second, .val (.long q3), .second, iv 2, rv a_REFUSED, iv 0, rv b100]) rfl ?_
      show Steps _ _ _ (T104.setTop (mkF m 76 #[iv q1, .val (.long q2), .second, .val (.long q3), .second, iv 2, rv a_REFUSED, iv 0, rv b100] [])) _
      refine XS.aload X104.here hx rfl (hb hby at_76) rfl rfl ?_
      show Steps _ _ _ (T104.setTop (mkF m 78 #[iv q1, .val (.long q2), .second, .val (.long q3), .second, iv 2, rv a_REFUSED, iv 0, rv b100] [(.ref b100)])) _
      exact q
    obtain ⟨cq112, kq112, q112a, q112b, q112c⟩ := isOf hZ (rfl : T104.heap = _) f_105
    obtain ⟨_, _, ⟨T112, L112, k112, n112⟩, -, X112, ⟨Lc112, hQ112, l112, y112, z112⟩, st112⟩ := X104.virtualBack hx (y := y_2) (z := y_2) hown (mvT hZ (hw _ (wd 23 rfl))) (mvT hZ (hw _ (wd 24 rfl))) (notFace_of_selects (args := #[]) (mvT hZ (hw _ (wd 26 rfl)))) (mvT hZ (hw _ (wd 26 rfl))) (mvT hZ (hw _ (wd 25 rfl))) (by decide) (backOf (W := 0) (held_REFUSED l Z a0 hw [] a_TAKEN a_REFUSED a_ALREADY_HELD a_FREE G b100 T104.heap n0 O_109 I104_0) hZ (hw _ (wd 27 rfl)) (hw _ (wd 5 rfl)) (by decide) (by decide)) q112a q112c (g := (mkF m 78 #[iv q1, .val (.long q2), .second, .val (.long q3), .second, iv 2, rv a_REFUSED, iv 0, rv b100] [(.ref b100)])) rfl (by rw [hml]; rfl) (Steps.refl _) (argsL := []) (rest := []) (lenOf pd_2 rfl) rfl (by show 2 * 0 + _ ≤ _; exact Nat.le_of_eq rfl) (hb hby at_78) (fun _ _ => ⟨rfl, (rfl : T104.heap = _), (by decide : 1 + 0 ≤ _), (by decide : 3 + 0 ≤ _)⟩)
    dsimp only [Pt.U, Pt.locs, Pt.cells, Pt.slots] at X112 l112 y112 z112 st112 hQ112
    subst l112 y112 z112
    obtain ⟨rfl, N112q, e112⟩ := hQ112
    have N112 := Fr.app N104 N112q
    have k_113 : Go p.tables e below (s₁.setTop (entryFrame m #[(.int q1), (.long q2), (.long q3)] maxLocals)) (T112.setTop (mkF m 91 #[iv q1, .val (.long q2), .second, .val (.long q3), .second, iv 2, rv a_REFUSED, iv 0, rv b100] [(.int 1)])) := fun t q => by
      refine k_111 t ?_
      refine st112.trans ?_
      show Steps _ _ _ (T112.setTop (mkF m 81 #[iv q1, .val (.long q2), .second, .val (.long q3), .second, iv 2, rv a_REFUSED, iv 0, rv b100] [(.int 0)])) _
      refine XS.iload X112.here hx rfl (hb hby at_81) rfl ?_
      show Steps _ _ _ (T112.setTop (mkF m 83 #[iv q1, .val (.long q2), .second, .val (.long q3), .second, iv 2, rv a_REFUSED, iv 0, rv b100] [(.int 0), (.int 0)])) _
      refine XS.icmpNo X112.here hx rfl (hb hby at_83) rfl (by decide) ?_
      show Steps _ _ _ (T112.setTop (mkF m 86 #[iv q1, .val (.long q2), .second, .val (.long q3), .second, iv 2, rv a_REFUSED, iv 0, rv b100] [])) _
      refine XS.iconst X112.here hx rfl (hb hby at_86) ?_
      show Steps _ _ _ (T112.setTop (mkF m 87 #[iv q1, .val (.long q2), .second, .val (.long q3), .second, iv 2, rv a_REFUSED, iv 0, rv b100] [(.int 1)])) _
      refine XS.goto X112.here hx rfl (pc0 := 87) (pc' := 91) rfl (hb hby at_87) (by decide) (by decide) ?_
      show Steps _ _ _ (T112.setTop (mkF m 91 #[iv q1, .val (.long q2), .second, .val (.long q3), .second, iv 2, rv a_REFUSED, iv 0, rv b100] [(.int 1)])) _
      exact q
    obtain ⟨fs, hr, hrun, hended, hW, hsame⟩ := X112.leave (v := some (.int 1)) (fun h => by rw [Bd.returns] at h; cases h)
    refine ⟨_, _, k_113 _ ?_, hrun, hended, _, _, rfl, ?_, ⟨_, rfl⟩, hW, hsame.mono (by decide) (by decide)⟩
    · exact retN X112 hx (t := .boolean) Bd.returns (by simp) (hb hby at_91) hr
    · show Q0 n0 _ T112.heap _
      rw [e112]
      exact ⟨rfl, N112⟩
  · skip
    have k_114 : Go p.tables e below (s₁.setTop (entryFrame m #[(.int q1), (.long q2), (.long q3)] maxLocals)) (s₁.setTop (mkF m 55 #[iv q1, .val (.long q2), .second, .val (.long q3), .second, iv 3, .unset, .unset, .unset] [])) := fun t q => by
      refine k0 t ?_
      refine XS.iloadN X0.here hx rfl (hb hby at_0) rfl ?_
      show Steps _ _ _ (s₁.setTop (mkF m 1 #[iv q1, .val (.long q2), .second, .val (.long q3), .second, .unset, .unset, .unset, .unset] [(.int q1)])) _
      refine XS.iconst X0.here hx rfl (hb hby at_1) ?_
      show Steps _ _ _ (s₁.setTop (mkF m 2 #[iv q1, .val (.long q2), .second, .val (.long q3), .second, .unset, .unset, .unset, .unset] [(.int 3), (.int q1)])) _
      refine XS.iand X0.here hx rfl (hb hby at_2) rfl ?_
      show Steps _ _ _ (s₁.setTop (mkF m 3 #[iv q1, .val (.long q2), .second, .val (.long q3), .second, .unset, .unset, .unset, .unset] [(.int (q1 &&& (3 : Int32)))])) _
      rw [hi]
      show Steps _ _ _ (s₁.setTop (mkF m 3 #[iv q1, .val (.long q2), .second, .val (.long q3), .second, .unset, .unset, .unset, .unset] [(.int 3)])) _
      refine XS.istore X0.here hx rfl (hb hby at_3) rfl (l' := #[iv q1, .val (.long q2), .second, .val (.long q3), .second, iv 3, .unset, .unset, .unset]) rfl ?_
      show Steps _ _ _ (s₁.setTop (mkF m 5 #[iv q1, .val (.long q2), .second, .val (.long q3), .second, iv 3, .unset, .unset, .unset] [])) _
      refine XS.iload X0.here hx rfl (hb hby at_5) rfl ?_
      show Steps _ _ _ (s₁.setTop (mkF m 7 #[iv q1, .val (.long q2), .second, .val (.long q3), .second, iv 3, .unset, .unset, .unset] [(.int 3)])) _
      refine XS.ifYes X0.here hx rfl (pc0 := 7) (pc' := 21) rfl (hb hby at_7) rfl (by decide) (by decide) (by decide) ?_
      show Steps _ _ _ (s₁.setTop (mkF m 21 #[iv q1, .val (.long q2), .second, .val (.long q3), .second, iv 3, .unset, .unset, .unset] [])) _
      refine XS.iload X0.here hx rfl (hb hby at_21) rfl ?_
      show Steps _ _ _ (s₁.setTop (mkF m 23 #[iv q1, .val (.long q2), .second, .val (.long q3), .second, iv 3, .unset, .unset, .unset] [(.int 3)])) _
      refine XS.iconst X0.here hx rfl (hb hby at_23) ?_
      show Steps _ _ _ (s₁.setTop (mkF m 24 #[iv q1, .val (.long q2), .second, .val (.long q3), .second, iv 3, .unset, .unset, .unset] [(.int 1), (.int 3)])) _
      refine XS.icmpYes X0.here hx rfl (pc0 := 24) (pc' := 38) rfl (hb hby at_24) rfl (by decide) (by decide) (by decide) ?_
      show Steps _ _ _ (s₁.setTop (mkF m 38 #[iv q1, .val (.long q2), .second, .val (.long q3), .second, iv 3, .unset, .unset, .unset] [])) _
      refine XS.iload X0.here hx rfl (hb hby at_38) rfl ?_
      show Steps _ _ _ (s₁.setTop (mkF m 40 #[iv q1, .val (.long q2), .second, .val (.long q3), .second, iv 3, .unset, .unset, .unset] [(.int 3)])) _
      refine XS.iconst X0.here hx rfl (hb hby at_40) ?_
      show Steps _ _ _ (s₁.setTop (mkF m 41 #[iv q1, .val (.long q2), .second, .val (.long q3), .second, iv 3, .unset, .unset, .unset] [(.int 2), (.int 3)])) _
      refine XS.icmpYes X0.here hx rfl (pc0 := 41) (pc' := 55) rfl (hb hby at_41) rfl (by decide) (by decide) (by decide) ?_
      show Steps _ _ _ (s₁.setTop (mkF m 55 #[iv q1, .val (.long q2), .second, .val (.long q3), .second, iv 3, .unset, .unset, .unset] [])) _
      exact q
    obtain ⟨T115, X115, e115, st115⟩ := getS2 X0 hx hZ hown (host := "") (Or.inl (hw _ (wd 33 rfl))) Via.refl e0 (S_FREE.ext O0.2) (g := (mkF m 55 #[iv q1, .val (.long q2), .second, .val (.long q3), .second, iv 3, .unset, .unset, .unset] [])) rfl (hb hby at_55)
    have k_116 : Go p.tables e below (s₁.setTop (entryFrame m #[(.int q1), (.long q2), (.long q3)] maxLocals)) (T115.setTop (mkF m 63 #[iv q1, .val (.long q2), .second, .val (.long q3), .second, iv 3, rv a_FREE, iv 0, .unset] [])) := fun t q => by
      refine k_114 t ?_
      refine st115 _ ?_
      show Steps _ _ _ (T115.setTop (mkF m 58 #[iv q1, .val (.long q2), .second, .val (.long q3), .second, iv 3, .unset, .unset, .unset] [(.ref a_FREE)])) _
      refine XS.astore X115.here hx rfl (hb hby at_58) rfl rfl (l' := #[iv q1, .val (.long q2), .second, .val (.long q3), .second, iv 3, rv a_FREE, .unset, .unset]) rfl ?_
      show Steps _ _ _ (T115.setTop (mkF m 60 #[iv q1, .val (.long q2), .second, .val (.long q3), .second, iv 3, rv a_FREE, .unset, .unset] [])) _
      refine XS.iconst X115.here hx rfl (hb hby at_60) ?_
      show Steps _ _ _ (T115.setTop (mkF m 61 #[iv q1, .val (.long q2), .second, .val (.long q3), .second, iv 3, rv a_FREE, .unset, .unset] [(.int 0)])) _
      refine XS.istore X115.here hx rfl (hb hby at_61) rfl (l' := #[iv q1, .val (.long q2), .second, .val (.long q3), .second, iv 3, rv a_FREE, iv 0, .unset]) rfl ?_
      show Steps _ _ _ (T115.setTop (mkF m 63 #[iv q1, .val (.long q2), .second, .val (.long q3), .second, iv 3, rv a_FREE, iv 0, .unset] [])) _
      exact q
    obtain ⟨T117, h117, X117, e117, E117, A117, D117, -, st117⟩ := newO X115 hx hZ hown (hw _ (wd 3 rfl)) (hw _ (wd 4 rfl)) (hw _ (wd 5 rfl)) e115 (g := (mkF m 63 #[iv q1, .val (.long q2), .second, .val (.long q3), .second, iv 3, rv a_FREE, iv 0, .unset] [])) rfl (hb hby at_63) (by decide) (by decide)
    obtain ⟨b117, g117⟩ : ∃ z, z = h0.size := ⟨_, rfl⟩
    rw [← g117] at A117 D117 st117
    have g_b117 : n0 ≤ b117 := Nat.le_trans (own_old_le O0) (Nat.le_of_eq g117.symm)
    have sz_b117 : h0.size ≤ b117 := Nat.le_trans K0.1 (Nat.le_of_eq g117.symm)
    have O_118 := O0.ext E117
    have K_119 := K0.ext E117
    have F117_outcome : Fld Z h117 b117 "com/example/setnix/setnix/io/Attempt" "outcome" "Lcom/example/setnix/setnix/io/Attempt$Outcome;" .null := D117 (Or.inr (hw _ (wd 18 rfl))) (ty := (.object "com/example/setnix/setnix/io/Attempt$Outcome")) (by decide)
    have F117_holderLeaseMillis : Fld Z h117 b117 "com/example/setnix/setnix/io/Attempt" "holderLeaseMillis" "J" (.long (0 : Int64)) := D117 (Or.inr (hw _ (wd 20 rfl))) (ty := .long) (by decide)
    have F117_fencingToken : Fld Z h117 b117 "com/example/setnix/setnix/io/Attempt" "fencingToken" "J" (.long (0 : Int64)) := D117 (Or.inr (hw _ (wd 22 rfl))) (ty := .long) (by decide)
    have k_120 : Go p.tables e below (s₁.setTop (entryFrame m #[(.int q1), (.long q2), (.long q3)] maxLocals)) (T117.setTop (mkF m 71 #[iv q1, .val (.long q2), .second, .val (.long q3), .second, iv 3, rv a_FREE, iv 0, .unset] [(.long q3), (.long q2), (.ref a_FREE), (.ref b117), (.ref b117)])) := fun t q => by
      refine k_116 t ?_
      refine st117 _ ?_
      show Steps _ _ _ (T117.setTop (mkF m 66 #[iv q1, .val (.long q2), .second, .val (.long q3), .second, iv 3, rv a_FREE, iv 0, .unset] [(.ref b117)])) _
      refine XS.dup X117.here hx rfl (hb hby at_66) rfl rfl ?_
      show Steps _ _ _ (T117.setTop (mkF m 67 #[iv q1, .val (.long q2), .second, .val (.long q3), .second, iv 3, rv a_FREE, iv 0, .unset] [(.ref b117), (.ref b117)])) _
      refine XS.aload X117.here hx rfl (hb hby at_67) rfl rfl ?_
      show Steps _ _ _ (T117.setTop (mkF m 69 #[iv q1, .val (.long q2), .second, .val (.long q3), .second, iv 3, rv a_FREE, iv 0, .unset] [(.ref a_FREE), (.ref b117), (.ref b117)])) _
      refine XS.lloadN X117.here hx rfl (hb hby at_69) rfl ?_
      show Steps _ _ _ (T117.setTop (mkF m 70 #[iv q1, .val (.long q2), .second, .val (.long q3), .second, iv 3, rv a_FREE, iv 0, .unset] [(.long q2), (.ref a_FREE), (.ref b117), (.ref b117)])) _
      refine XS.lloadN X117.here hx rfl (hb hby at_70) rfl ?_
      show Steps _ _ _ (T117.setTop (mkF m 71 #[iv q1, .val (.long q2), .second, .val (.long q3), .second, iv 3, rv a_FREE, iv 0, .unset] [(.long q3), (.long q2), (.ref a_FREE), (.ref b117), (.ref b117)])) _
      exact q
    obtain ⟨_, _, ⟨T121, L121, k121, n121⟩, -, X121, ⟨Lc121, hQ121, l121, y121, z121⟩, st121⟩ := X117.specialBack hx (y := y_1) rfl hown (mvT hZ (hw _ (wd 6 rfl))) (mvT hZ (hw _ (wd 7 rfl))) (mvT hZ (hw _ (wd 8 rfl))) (by decide) (backOf (W := 1) (init_r l Z a0 hw [] a_TAKEN a_REFUSED a_ALREADY_HELD a_FREE G b117 a_FREE q2 q3 h117 n0 O_118 A117 F117_outcome F117_holderLeaseMillis F117_fencingToken g_b117) hZ (hw _ (wd 8 rfl)) (hw _ (wd 5 rfl)) (by decide) (by decide)) (g := (mkF m 71 #[iv q1, .val (.long q2), .second, .val (.long q3), .second, iv 3, rv a_FREE, iv 0, .unset] [(.long q3), (.long q2), (.ref a_FREE), (.ref b117), (.ref b117)])) rfl (by rw [hml]; rfl) (Steps.refl _) (a := b117) (argsL := [(.ref a_FREE), (.long q2), (.long q3)]) (rest := [(.ref b117)]) (lenOf pd_1 rfl) rfl (by show 2 * 0 + _ ≤ _; exact Nat.le_of_eq rfl) (hb hby at_71) (fun _ _ => ⟨rfl, e117, (by decide : 1 + 0 ≤ _), (by decide : 3 + 0 ≤ _)⟩)
    dsimp only [Pt.U, Pt.locs, Pt.cells, Pt.slots] at X121 l121 y121 z121 st121 hQ121
    subst l121 y121 z121
    obtain ⟨rfl, N121q, K121, I121_0, I121_1, I121_2⟩ := hQ121
    have N121 := Fr.app N0 N121q
    have f_122 := Exa.keep A117 K121
    have O_126 := O_118.keep K121 (allS g_b117 all0)
    have K_127 := K_119.trans K121 (allS (Or.inr sz_b117) all0)
    have k_128 : Go p.tables e below (s₁.setTop (entryFrame m #[(.int q1), (.long q2), (.long q3)] maxLocals)) (T121.setTop (mkF m 78 #[iv q1, .val (.long q2), .second, .val (.long q3), .second, iv 3, rv a_FREE, iv 0, rv b117] [(.ref b117)])) := fun t q => by
      refine k_120 t ?_
      refine st121.trans ?_
      show Steps _ _ _ (T121.setTop (mkF m 74 #[iv q1, .val (.long q2), .second, .val (.long q3), .second, iv 3, rv a_FREE, iv 0, .unset] [(.ref b117)])) _
      refine XS.astore X121.here hx rfl (hb hby at_74) rfl rfl (l' := #[iv q1, .val (.long q2), .second, .val (.long q3), .second, iv 3, rv a_FREE, iv 0, rv b117]) rfl ?_
      show Steps _ _ _ (T121.setTop (mkF m 76 #[iv q1, .val (.long q2), .second, .val (.long q3), .second, iv 3, rv a_FREE, iv 0, rv b117] [])) _
      refine XS.aload X121.here hx rfl (hb hby at_76) rfl rfl ?_
      show Steps _ _ _ (T121.setTop (mkF m 78 #[iv q1, .val (.long q2), .second, .val (.long q3), .second, iv 3, rv a_FREE, iv 0, rv b117] [(.ref b117)])) _
      exact q
    obtain ⟨cq129, kq129, q129a, q129b, q129c⟩ := isOf hZ (rfl : T121.heap = _) f_122
    obtain ⟨_, _, ⟨T129, L129, k129, n129⟩, -, X129, ⟨Lc129, hQ129, l129, y129, z129⟩, st129⟩ := X121.virtualBack hx (y := y_2) (z := y_2) hown (mvT hZ (hw _ (wd 23 rfl))) (mvT hZ (hw _ (wd 24 rfl))) (notFace_of_selects (args := #[]) (mvT hZ (hw _ (wd 26 rfl)))) (mvT hZ (hw _ (wd 26 rfl))) (mvT hZ (hw _ (wd 25 rfl))) (by decide) (backOf (W := 0) (held_FREE l Z a0 hw [] a_TAKEN a_REFUSED a_ALREADY_HELD a_FREE G b117 T121.heap n0 O_126 I121_0) hZ (hw _ (wd 27 rfl)) (hw _ (wd 5 rfl)) (by decide) (by decide)) q129a q129c (g := (mkF m 78 #[iv q1, .val (.long q2), .second, .val (.long q3), .second, iv 3, rv a_FREE, iv 0, rv b117] [(.ref b117)])) rfl (by rw [hml]; rfl) (Steps.refl _) (argsL := []) (rest := []) (lenOf pd_2 rfl) rfl (by show 2 * 0 + _ ≤ _; exact Nat.le_of_eq rfl) (hb hby at_78) (fun _ _ => ⟨rfl, (rfl : T121.heap = _), (by decide : 1 + 0 ≤ _), (by decide : 3 + 0 ≤ _)⟩)
    dsimp only [Pt.U, Pt.locs, Pt.cells, Pt.slots] at X129 l129 y129 z129 st129 hQ129
    subst l129 y129 z129
    obtain ⟨rfl, N129q, e129⟩ := hQ129
    have N129 := Fr.app N121 N129q
    have k_130 : Go p.tables e below (s₁.setTop (entryFrame m #[(.int q1), (.long q2), (.long q3)] maxLocals)) (T129.setTop (mkF m 91 #[iv q1, .val (.long q2), .second, .val (.long q3), .second, iv 3, rv a_FREE, iv 0, rv b117] [(.int 1)])) := fun t q => by
      refine k_128 t ?_
      refine st129.trans ?_
      show Steps _ _ _ (T129.setTop (mkF m 81 #[iv q1, .val (.long q2), .second, .val (.long q3), .second, iv 3, rv a_FREE, iv 0, rv b117] [(.int 0)])) _
      refine XS.iload X129.here hx rfl (hb hby at_81) rfl ?_
      show Steps _ _ _ (T129.setTop (mkF m 83 #[iv q1, .val (.long q2), .second, .val (.long q3), .second, iv 3, rv a_FREE, iv 0, rv b117] [(.int 0), (.int 0)])) _
      refine XS.icmpNo X129.here hx rfl (hb hby at_83) rfl (by decide) ?_
      show Steps _ _ _ (T129.setTop (mkF m 86 #[iv q1, .val (.long q2), .second, .val (.long q3), .second, iv 3, rv a_FREE, iv 0, rv b117] [])) _
      refine XS.iconst X129.here hx rfl (hb hby at_86) ?_
      show Steps _ _ _ (T129.setTop (mkF m 87 #[iv q1, .val (.long q2), .second, .val (.long q3), .second, iv 3, rv a_FREE, iv 0, rv b117] [(.int 1)])) _
      refine XS.goto X129.here hx rfl (pc0 := 87) (pc' := 91) rfl (hb hby at_87) (by decide) (by decide) ?_
      show Steps _ _ _ (T129.setTop (mkF m 91 #[iv q1, .val (.long q2), .second, .val (.long q3), .second, iv 3, rv a_FREE, iv 0, rv b117] [(.int 1)])) _
      exact q
    obtain ⟨fs, hr, hrun, hended, hW, hsame⟩ := X129.leave (v := some (.int 1)) (fun h => by rw [Bd.returns] at h; cases h)
    refine ⟨_, _, k_130 _ ?_, hrun, hended, _, _, rfl, ?_, ⟨_, rfl⟩, hW, hsame.mono (by decide) (by decide)⟩
    · exact retN X129 hx (t := .boolean) Bd.returns (by simp) (hb hby at_91) hr
    · show Q0 n0 _ T129.heap _
      rw [e129]
      exact ⟨rfl, N129⟩
set_option maxRecDepth 65536 in
set_option maxHeartbeats 40000000 in
theorem comes_1 {Post : Tables → Env → Array Value → State → Outcome → State → Prop} (hpost : ∀ tb e args s v u, (limb_1_1.after args s (.returned v) u = true ∧ limb_1_2.after args s (.returned v) u = true ∧ True) → FrameEnd s (.returned v) u (Jvm.fieldLocs frame_1_writes args s ++ Jvm.arrayLocs frame_1_arrays args s ++ Jvm.staticLocs frame_1_statics s) 16 128 → Post tb e args s (.returned v) u) :
    ArmFor flags0 classFile x code maxLocals ret World_1 tables_1 room_1 Calls_1 rest_1 Pre_1 Post := by
  intro l hfl _ _ p e ha hc hk s m args below hf hA hF happ hP
  obtain ⟨hcalls, hrest, hpre⟩ := hP
  obtain ⟨-, -, -, hnamed, -, -, -, hat⟩ := (Spec.applies_iff hf).mp happ
  obtain ⟨hg, hn⟩ := and_e (Cond.before_iff.mp (show (Jvm.Cond.and given_1 narrow_1).before args s = true from hpre))
  obtain ⟨g0, c0⟩ := and_e hg
  obtain ⟨g1, c1⟩ := and_e c0
  obtain ⟨g2, c2⟩ := and_e c1
  obtain ⟨w0, w1, w2, rfl⟩ : ∃ w0 w1 w2 : Value, args = #[w0, w1, w2] := by
    have hs : args.size = 3 := by simpa [Cond.value, given_1] using g0
    obtain ⟨L⟩ := args
    match L, hs with
    | [w0, w1, w2], _ => exact ⟨w0, w1, w2, rfl⟩
  have hw := fun d (hd : d ∈ tables_1) => atoms_spec (ws := Jvm.Cond.code x code maxLocals ret :: tables_1) hat d (List.mem_cons_of_mem _ hd)
  obtain ⟨i0, ei0⟩ := is_v g1
  obtain rfl : w0 = (.int i0) := Option.some.inj ei0
  obtain ⟨i1, ei1⟩ := isL_v g2
  obtain rfl : w1 = (.long i1) := Option.some.inj ei1
  obtain ⟨i2, ei2⟩ := isL_v c2
  obtain rfl : w2 = (.long i2) := Option.some.inj ei2
  obtain ⟨n0, r0⟩ := and_e hn
  obtain ⟨n1, r1⟩ := and_e r0
  obtain ⟨n2, r2⟩ := and_e r1
  obtain ⟨n3, r3⟩ := and_e r2
  obtain ⟨n4, r4⟩ := and_e r3
  obtain ⟨n5, r5⟩ := and_e r4
  obtain ⟨n6, r6⟩ := and_e r5
  obtain ⟨a_TAKEN, v_TAKEN⟩ := exa_v n0
  have E_TAKEN := Exa.start v_TAKEN n0
  have S_TAKEN := Sta.start v_TAKEN (Or.inr ⟨(hw _ (wd 1 rfl)), (hw _ (wd 2 rfl))⟩)
  obtain ⟨a_REFUSED, v_REFUSED⟩ := exa_v n1
  have E_REFUSED := Exa.start v_REFUSED n1
  have S_REFUSED := Sta.start v_REFUSED (Or.inr ⟨(hw _ (wd 1 rfl)), (hw _ (wd 30 rfl))⟩)
  obtain ⟨a_ALREADY_HELD, v_ALREADY_HELD⟩ := exa_v n4
  have E_ALREADY_HELD := Exa.start v_ALREADY_HELD n4
  have S_ALREADY_HELD := Sta.start v_ALREADY_HELD (Or.inr ⟨(hw _ (wd 1 rfl)), (hw _ (wd 32 rfl))⟩)
  obtain ⟨a_FREE, v_FREE⟩ := exa_v n6
  have E_FREE := Exa.start v_FREE n6
  have S_FREE := Sta.start v_FREE (Or.inr ⟨(hw _ (wd 1 rfl)), (hw _ (wd 34 rfl))⟩)
  have R_REFUSED_ordinal := own_fld v_REFUSED n2
  have R_TAKEN_ordinal := own_fld v_TAKEN n3
  have R_ALREADY_HELD_ordinal := own_fld v_ALREADY_HELD n5
  have R_FREE_ordinal := own_fld v_FREE r6
  have G : Own s a_TAKEN a_REFUSED a_ALREADY_HELD a_FREE := ⟨S_TAKEN, E_TAKEN, S_REFUSED, E_REFUSED, S_ALREADY_HELD, E_ALREADY_HELD, S_FREE, E_FREE, R_REFUSED_ordinal, R_TAKEN_ordinal, R_ALREADY_HELD_ordinal, R_FREE_ordinal⟩
  obtain ⟨n, o, h1, h2, h3, _, L, rfl, ⟨rfl, N⟩, hq⟩ := rm0 l s _ hw tables_1 a_TAKEN a_REFUSED a_ALREADY_HELD a_FREE G i0 i1 i2 s.heap s.heap.size (Old.start s) p e ha hc hk s m _ below hf ((Spec.applies_iff_loose hf).mp happ).1 ⟨rfl, State.Warmed39.refl s, rfl⟩ trivial
  refine ⟨n, _, h1, h2, h3, hpost _ _ _ _ _ _ ⟨Cond.after_iff.mpr rfl, Cond.after_iff.mpr (eq_i res_at (Term.int_eval (1)) rfl), trivial⟩ ⟨hq.1, hq.2.1, (hq.2.2.sift fun y hy => Or.inr (N y hy)).mono (by decide) (by decide)⟩⟩
theorem main_1_1 : Claimed_1_1 := comes_1 fun _ _ _ _ _ _ h hF => ⟨h.1, hF⟩
theorem main_1_2 : Claimed_1_2 := comes_1 fun _ _ _ _ _ _ h hF => ⟨h.2.1, hF⟩
end Jvm.Pilot.@@N@@
namespace Jvm.Pilot.@@N@@
open Jvm Jvm.ClassFile Sem Op Lib Jvm.Free Jvm.Stand Jvm.Pilot.@@N@@.Jvm.D
/-! MADE BY PROGRAM (witnessworld.py) out of the Statement's table words and the real class files: 14 classes; the members and pool entries that the words name. The judged class is class 1, her method 1. -/
namespace start1
open Jvm.ClassFile
def u (s : String) : CpInfo := .utf8 (stringToUtf16 s)
/-- a pool by its gaps: so many unusable entries, then the entry; so many at the end -/
def gap : Nat → List CpInfo → List CpInfo
  | 0, r => r
  | n + 1, r => .unusable :: gap n r
def poolList (es : List (Nat × CpInfo)) (last : Nat) : List CpInfo := es.foldr (fun e r => gap e.1 (e.2 :: r)) (gap last [])
def pool (es : List (Nat × CpInfo)) (last : Nat) : Array CpInfo := ⟨poolList es last⟩
def fileOf (pool : Array CpInfo) (this : Nat) (attrs : Array Attribute := #[]) (ms : Array MethodInfo := #[]) (fl : Nat := 33) (sup : Nat := 0) (ifs : Array Nat := #[]) (fds : Array FieldInfo := #[]) : ClassFile where
  minorVersion := 0
  majorVersion := 65
  constantPool := pool
  accessFlags := fl
  thisClass := this
  superClass := sup
  interfaces := ifs
  fields := fds
  methods := ms
  attributes := attrs
def plain (name : String) (sup : Option ClassId) : Class where
  name := name
  kind := .ordinary
  loader := none
  accessFlags := 33
  super := sup
  interfaces := #[]
  cf := none
  fields := #[]
  methods := #[]
  instanceTypes := #[]
  staticTypes := #[]
  resolved := #[]
  callSites := []
  init := .initialized
  statics := none
  mirror := none

def pool0 : Array CpInfo := pool [(5, u "<init>"), (0, u "()V"), (1, .class_ 10), (1, u "java/lang/Object")] 113

def k0c0 : Code := { maxStack := 0, maxLocals := 1, code := object_method_1_code, exceptionTable := #[], attributes := #[] }
def k0m0 : Method := { name := "<init>", desc := "()V", sig := { parameters := [], returnType := none }, accessFlags := 1, code := some k0c0 }
/-- java/lang/Object -/
def k0 : Class := { plain "java/lang/Object" none with
  accessFlags := 33
  interfaces := #[]
  cf := some (fileOf pool0 8 #[] #[{ accessFlags := 1, nameIndex := 5, descriptorIndex := 6, attributes := #[] }] 33 0 #[] #[])
  fields := #[]
  methods := #[k0m0]
  instanceTypes := #[]
  staticTypes := #[]
  resolved := Array.replicate 124 none
  statics := none }

def pool1 : Array CpInfo := pool [(2, .class_ 4), (1, u "java/lang/Object"), (0, u "<init>"), (0, u "()V"), (0, .fieldref 8 9), (0, .class_ 10), (0, .nameAndType 11 12), (0, u "com/example/setnix/setnix/io/Attempt$Outcome"), (0, u "TAKEN"), (0, u "Lcom/example/setnix/setnix/io/Attempt$Outcome;"), (0, .fieldref 8 14), (0, .nameAndType 15 12), (0, u "ALREADY_HELD"), (0, .fieldref 8 17), (0, .nameAndType 18 12), (0, u "REFUSED"), (0, .fieldref 8 20), (0, .nameAndType 21 12), (0, u "FREE"), (0, .class_ 23), (0, u "com/example/setnix/setnix/io/Attempt"), (0, .methodref 22 25), (0, .nameAndType 5 26), (0, u "(Lcom/example/setnix/setnix/io/Attempt$Outcome;JJ)V"), (0, .methodref 22 28), (0, .nameAndType 29 30), (0, u "held"), (0, u "()Z"), (0, .class_ 32), (0, u "com/example/setnix/setnix/io/AttemptHeldPinLaw"), (2, u "law"), (0, u "(IJJ)Z")] 5

def k1m0 : Method := { name := "<init>", desc := "()V", sig := { parameters := [], returnType := none }, accessFlags := 1, code := none }
def k1c1 : Code := { maxStack := 7, maxLocals := 9, code := code, exceptionTable := #[], attributes := #[] }
def k1m1 : Method := { name := "law", desc := "(IJJ)Z", sig := { parameters := [.int, .long, .long], returnType := some .boolean }, accessFlags := 9, code := some k1c1 }
/-- com/example/setnix/setnix/io/AttemptHeldPinLaw -/
def k1 : Class := { plain "com/example/setnix/setnix/io/AttemptHeldPinLaw" (some 0) with
  accessFlags := 49
  interfaces := #[]
  cf := some (fileOf pool1 31 #[] #[{ accessFlags := 1, nameIndex := 5, descriptorIndex := 6, attributes := #[] }, { accessFlags := 9, nameIndex := 35, descriptorIndex := 36, attributes := #[] }] 49 2 #[] #[])
  fields := #[]
  methods := #[k1m0, k1m1]
  instanceTypes := #[]
  staticTypes := #[]
  resolved := Array.replicate 42 none
  statics := none }

def pool2 : Array CpInfo := pool [(1, .class_ 2), (0, u "java/lang/constant/Constable"), (0, .class_ 4), (0, u "java/lang/Object")] 6

/-- java/lang/constant/Constable -/
def k2 : Class := { plain "java/lang/constant/Constable" (some 0) with
  accessFlags := 1537
  interfaces := #[]
  cf := some (fileOf pool2 1 #[] #[] 1537 3 #[] #[])
  fields := #[]
  methods := #[]
  instanceTypes := #[]
  staticTypes := #[]
  resolved := Array.replicate 11 none
  statics := none }

def pool3 : Array CpInfo := pool [(1, .class_ 2), (0, u "java/lang/Comparable"), (0, .class_ 4), (0, u "java/lang/Object")] 7

/-- java/lang/Comparable -/
def k3 : Class := { plain "java/lang/Comparable" (some 0) with
  accessFlags := 1537
  interfaces := #[]
  cf := some (fileOf pool3 1 #[] #[] 1537 3 #[] #[])
  fields := #[]
  methods := #[]
  instanceTypes := #[]
  staticTypes := #[]
  resolved := Array.replicate 12 none
  statics := none }

def pool4 : Array CpInfo := pool [(1, .class_ 2), (0, u "java/io/Serializable"), (0, .class_ 4), (0, u "java/lang/Object")] 2

/-- java/io/Serializable -/
def k4 : Class := { plain "java/io/Serializable" (some 0) with
  accessFlags := 1537
  interfaces := #[]
  cf := some (fileOf pool4 1 #[] #[] 1537 3 #[] #[])
  fields := #[]
  methods := #[]
  instanceTypes := #[]
  staticTypes := #[]
  resolved := Array.replicate 7 none
  statics := none }

def pool5 : Array CpInfo := pool [(2, .class_ 4), (1, u "java/lang/Enum"), (0, u "name"), (0, u "Ljava/lang/String;"), (2, u "ordinal"), (0, u "I"), (1, .class_ 14), (1, u "java/lang/Object"), (4, u "hash"), (86, .class_ 108), (1, u "java/lang/Enum$EnumDesc"), (2, .class_ 112), (0, u "java/lang/constant/Constable"), (0, .class_ 114), (0, u "java/lang/Comparable"), (0, .class_ 116), (0, u "java/io/Serializable")] 87

/-- java/lang/Enum -/
def k5 : Class := { plain "java/lang/Enum" (some 0) with
  accessFlags := 1057
  interfaces := #[2, 3, 4]
  cf := some (fileOf pool5 2 #[.nestMembers #[106]] #[] 1057 12 #[111, 113, 115] #[{ accessFlags := 18, nameIndex := 5, descriptorIndex := 6, attributes := #[] }, { accessFlags := 18, nameIndex := 9, descriptorIndex := 10, attributes := #[] }, { accessFlags := 2, nameIndex := 19, descriptorIndex := 10, attributes := #[] }])
  fields := #[{ name := "name", type := (.object "java/lang/String"), accessFlags := 18, slot := 0, constantValue := 0 }, { name := "ordinal", type := .int, accessFlags := 18, slot := 1, constantValue := 0 }, { name := "hash", type := .int, accessFlags := 2, slot := 2, constantValue := 0 }]
  methods := #[]
  instanceTypes := #[(.object "java/lang/String"), .int, .int]
  staticTypes := #[]
  resolved := Array.replicate 204 none
  statics := none }

def pool6 : Array CpInfo := pool [(1, .class_ 2), (0, u "com/example/setnix/setnix/io/Attempt$Outcome"), (2, u "TAKEN"), (0, u "Lcom/example/setnix/setnix/io/Attempt$Outcome;"), (2, u "ALREADY_HELD"), (2, u "REFUSED"), (2, u "FREE"), (2, u "$VALUES"), (0, u "[Lcom/example/setnix/setnix/io/Attempt$Outcome;"), (6, .class_ 28), (1, u "java/lang/Enum"), (27, .class_ 57), (0, u "com/example/setnix/setnix/io/Attempt")] 2

/-- com/example/setnix/setnix/io/Attempt$Outcome -/
def k6 : Class := { plain "com/example/setnix/setnix/io/Attempt$Outcome" (some 5) with
  accessFlags := 16433
  interfaces := #[]
  cf := some (fileOf pool6 1 #[.nestHost 56] #[] 16433 26 #[] #[{ accessFlags := 16409, nameIndex := 5, descriptorIndex := 6, attributes := #[] }, { accessFlags := 16409, nameIndex := 9, descriptorIndex := 6, attributes := #[] }, { accessFlags := 16409, nameIndex := 12, descriptorIndex := 6, attributes := #[] }, { accessFlags := 16409, nameIndex := 15, descriptorIndex := 6, attributes := #[] }, { accessFlags := 4122, nameIndex := 18, descriptorIndex := 19, attributes := #[] }])
  fields := #[{ name := "TAKEN", type := (.object "com/example/setnix/setnix/io/Attempt$Outcome"), accessFlags := 16409, slot := 0, constantValue := 0 }, { name := "ALREADY_HELD", type := (.object "com/example/setnix/setnix/io/Attempt$Outcome"), accessFlags := 16409, slot := 1, constantValue := 0 }, { name := "REFUSED", type := (.object "com/example/setnix/setnix/io/Attempt$Outcome"), accessFlags := 16409, slot := 2, constantValue := 0 }, { name := "FREE", type := (.object "com/example/setnix/setnix/io/Attempt$Outcome"), accessFlags := 16409, slot := 3, constantValue := 0 }, { name := "$VALUES", type := (.array (.object "com/example/setnix/setnix/io/Attempt$Outcome")), accessFlags := 4122, slot := 4, constantValue := 0 }]
  methods := #[]
  instanceTypes := #[(.object "java/lang/String"), .int, .int]
  staticTypes := #[(.object "com/example/setnix/setnix/io/Attempt$Outcome"), (.object "com/example/setnix/setnix/io/Attempt$Outcome"), (.object "com/example/setnix/setnix/io/Attempt$Outcome"), (.object "com/example/setnix/setnix/io/Attempt$Outcome"), (.array (.object "com/example/setnix/setnix/io/Attempt$Outcome"))]
  resolved := Array.replicate 60 none
  statics := some 0 }

def pool7 : Array CpInfo := pool [(1, .methodref 2 3), (0, .class_ 4), (0, .nameAndType 5 6), (0, u "java/lang/Object"), (0, u "<init>"), (0, u "()V"), (0, .class_ 8), (0, u "java/lang/Record")] 13

def k7c0 : Code := { maxStack := 1, maxLocals := 1, code := jdk_30_method_1_code, exceptionTable := #[], attributes := #[] }
def k7m0 : Method := { name := "<init>", desc := "()V", sig := { parameters := [], returnType := none }, accessFlags := 4, code := some k7c0 }
/-- java/lang/Record -/
def k7 : Class := { plain "java/lang/Record" (some 0) with
  accessFlags := 1057
  interfaces := #[]
  cf := some (fileOf pool7 7 #[] #[{ accessFlags := 4, nameIndex := 5, descriptorIndex := 6, attributes := #[] }] 1057 2 #[] #[])
  fields := #[]
  methods := #[k7m0]
  instanceTypes := #[]
  staticTypes := #[]
  resolved := Array.replicate 22 none
  statics := none }

def pool8 : Array CpInfo := pool [(1, .methodref 2 3), (0, .class_ 4), (0, .nameAndType 5 6), (0, u "java/lang/Record"), (0, u "<init>"), (0, u "()V"), (0, .fieldref 8 9), (0, .class_ 10), (0, .nameAndType 11 12), (0, u "com/example/setnix/setnix/io/Attempt"), (0, u "outcome"), (0, u "Lcom/example/setnix/setnix/io/Attempt$Outcome;"), (0, .fieldref 8 14), (0, .nameAndType 15 16), (0, u "holderLeaseMillis"), (0, u "J"), (0, .fieldref 8 18), (0, .nameAndType 19 16), (0, u "fencingToken"), (0, .fieldref 21 22), (0, .class_ 23), (0, .nameAndType 24 12), (0, u "com/example/setnix/setnix/io/Attempt$Outcome"), (0, u "TAKEN"), (2, u "(Lcom/example/setnix/setnix/io/Attempt$Outcome;JJ)V"), (3, .fieldref 21 32), (0, .nameAndType 33 12), (0, u "ALREADY_HELD"), (14, u "FREE"), (2, u "Lcom/example/setnix/setnix/io/Attempt;"), (6, u "held"), (0, u "()Z")] 31

def k8c0 : Code := { maxStack := 3, maxLocals := 6, code := prog_3_method_1_code, exceptionTable := #[], attributes := #[] }
def k8m0 : Method := { name := "<init>", desc := "(Lcom/example/setnix/setnix/io/Attempt$Outcome;JJ)V", sig := { parameters := [(.object "com/example/setnix/setnix/io/Attempt$Outcome"), .long, .long], returnType := none }, accessFlags := 1, code := some k8c0 }
def k8c1 : Code := { maxStack := 2, maxLocals := 1, code := prog_3_method_4_code, exceptionTable := #[], attributes := #[] }
def k8m1 : Method := { name := "held", desc := "()Z", sig := { parameters := [], returnType := some .boolean }, accessFlags := 1, code := some k8c1 }
/-- com/example/setnix/setnix/io/Attempt -/
def k8 : Class := { plain "com/example/setnix/setnix/io/Attempt" (some 7) with
  accessFlags := 49
  interfaces := #[]
  cf := some (fileOf pool8 8 #[.nestMembers #[21]] #[{ accessFlags := 1, nameIndex := 5, descriptorIndex := 27, attributes := #[] }, { accessFlags := 1, nameIndex := 58, descriptorIndex := 59, attributes := #[] }] 49 2 #[] #[{ accessFlags := 18, nameIndex := 11, descriptorIndex := 12, attributes := #[] }, { accessFlags := 18, nameIndex := 15, descriptorIndex := 16, attributes := #[] }, { accessFlags := 18, nameIndex := 19, descriptorIndex := 16, attributes := #[] }, { accessFlags := 24, nameIndex := 48, descriptorIndex := 51, attributes := #[] }])
  fields := #[{ name := "outcome", type := (.object "com/example/setnix/setnix/io/Attempt$Outcome"), accessFlags := 18, slot := 0, constantValue := 0 }, { name := "holderLeaseMillis", type := .long, accessFlags := 18, slot := 1, constantValue := 0 }, { name := "fencingToken", type := .long, accessFlags := 18, slot := 2, constantValue := 0 }, { name := "FREE", type := (.object "com/example/setnix/setnix/io/Attempt"), accessFlags := 24, slot := 0, constantValue := 0 }]
  methods := #[k8m0, k8m1]
  instanceTypes := #[(.object "com/example/setnix/setnix/io/Attempt$Outcome"), .long, .long]
  staticTypes := #[(.object "com/example/setnix/setnix/io/Attempt")]
  resolved := Array.replicate 91 none
  statics := none }

def pool9 : Array CpInfo := pool [(1, u "java/lang/Cloneable"), (0, .class_ 1), (0, u "java/lang/Object"), (0, .class_ 3)] 3

/-- java/lang/Cloneable -/
def k9 : Class := { plain "java/lang/Cloneable" (some 0) with
  accessFlags := 1537
  interfaces := #[]
  cf := some (fileOf pool9 2 #[] #[] 1537 4 #[] #[])
  fields := #[]
  methods := #[]
  instanceTypes := #[]
  staticTypes := #[]
  resolved := Array.replicate 8 none
  statics := none }

/-- the primitive byte -/
def k10 : Class := { plain "byte" none with kind := .primitive 'B', accessFlags := 0x411 }
/-- [B -/
def k11 : Class := { plain "[B" (some 0) with kind := .array 10 .byte, interfaces := #[9, 4], accessFlags := 1041 }

/-- the primitive int -/
def k12 : Class := { plain "int" none with kind := .primitive 'I', accessFlags := 0x411 }
/-- [I -/
def k13 : Class := { plain "[I" (some 0) with kind := .array 12 .int, interfaces := #[9, 4], accessFlags := 1041 }

def heap : Heap := #[{ cls := 6, slots := #[.ref 1, .ref 3, .ref 2, .ref 4, .null], vm := .statics 6 },
  { cls := 6, slots := #[.null, .int 0, .int 0], vm := .none },
  { cls := 6, slots := #[.null, .int 2, .int 0], vm := .none },
  { cls := 6, slots := #[.null, .int 1, .int 0], vm := .none },
  { cls := 6, slots := #[.null, .int 3, .int 0], vm := .none }]
def classes : Array Class := #[k0, k1, k2, k3, k4, k5, k6, k7, k8, k9, k10, k11, k12, k13]
def interned : List (Array UInt16 × Addr) := []
def slotsUsed : Nat := 17
def theMethod : MethodId := ⟨1, 1⟩
def args0 : Array Value := #[.int 5, .long 7, .long 8]
def aboutOver (below : List Frame) : State where
  vm := { classes := classes, interned := interned.toArray }
  heap := heap
  slotsUsed := slotsUsed
  threads := #[{ frames := .invoking theMethod args0 :: below }]
def below0 : List Frame := [.native { method := ⟨0, 0⟩, args := #[] }]
def about1 : State := aboutOver below0
def p0 : Program := .bare "" "" ""
def e0 : Env := launch0.env 0 0 0
theorem w_frames : about1.frames = Frame.invoking theMethod args0 :: below0 := rfl
set_option maxRecDepth 65536 in
theorem w_args : argsFit about1.vm theMethod args0 = true := by decide +kernel
set_option maxRecDepth 65536 in
theorem w_heap : heapFits about1 = true := by decide +kernel
set_option maxRecDepth 65536 in
theorem w_runnable : about1.curStatus? = some .runnable := by decide +kernel
set_option maxRecDepth 65536 in
theorem w_alone : about1.alone = true := by decide +kernel
set_option maxRecDepth 65536 in
theorem w_named : about1.methodNamed? x = some theMethod := by decide +kernel
set_option maxRecDepth 65536 in
theorem w_hears : about1.hears theMethod below0 = true := by decide +kernel
set_option maxRecDepth 65536 in
theorem w_ripe : about1.ripe theMethod args0 below0 = true := by decide +kernel
theorem w_running : about1.status = .running := rfl
set_option maxRecDepth 65536 in
theorem w_room : about1.hasRoom e0.platform room_1 = true :=
  launch0.hasRoom_least _ room_1 (by decide +kernel) (by decide +kernel) (by decide +kernel) (by decide +kernel) (by decide +kernel) (by decide +kernel)
theorem allAtoms_all (ts : List Jvm.Cond) (a : Array Jvm.Value) (st : Jvm.State) : (allAtoms ts).before a st = ts.all (fun c => c.before a st) := by
  induction ts with
  | nil => rfl
  | cons c t ih =>
    show (Jvm.Cond.and c (allAtoms t)).before a st = _
    rw [Jvm.Cond.before_and, ih, List.all_cons]
def words1 : List Jvm.Cond := Jvm.Cond.code x code maxLocals ret :: tables_1
/-- a 'code' word, met by the world's own term for the bytes: nothing is compared byte by byte -/
theorem code_word {y : MethodName} {bytes : ByteArray} {mx : Nat} {rt : Option FieldType} {a : Array Value} {s : State} {m : MethodId} {meth : Method} {c : Code} (h1 : s.methodNamed? y = some m) (h2 : s.vm.method? m = some meth) (h3 : meth.code = some c) (h4 : c.code = bytes)
    (h5 : (c.maxLocals == mx && c.exceptionTable.isEmpty && decide (c.maxStack ≤ mostOperands) && decide (meth.sig.returnType = rt) && !meth.locks && decide (parseMethodDescriptor y.desc = some meth.sig)) = true) : (Jvm.Cond.code y bytes mx rt).before a s = true := by
  simp only [Bool.and_eq_true, beq_iff_eq, Bool.not_eq_true', decide_eq_true_eq] at h5
  obtain ⟨⟨⟨⟨⟨g1, g2⟩, g3⟩, g4⟩, g5⟩, g6⟩ := h5
  simp [Cond.before, Cond.holds, Cond.value, h1, h2, h3, h4, g1, g2, g3, g4, g5, g6]
def isCode : Jvm.Cond → Bool
  | .code _ _ _ _ => true
  | _ => false
theorem all_split {L : List Jvm.Cond} {P : Jvm.Cond → Bool} (h1 : L.all (fun c => isCode c || P c) = true) (h2 : ∀ c ∈ L.filter isCode, P c = true) : L.all P = true := by
  refine List.all_eq_true.mpr fun c hc => ?_
  have h := List.all_eq_true.mp h1 c hc
  rcases Bool.eq_false_or_eq_true (isCode c) with hi | hi
  · exact h2 c (List.mem_filter.mpr ⟨hc, hi⟩)
  · simpa [hi] using h
set_option maxRecDepth 65536 in
theorem w_c0 : (Jvm.Cond.code x code maxLocals ret).before args0 about1 = true := code_word (m := ⟨1, 1⟩) (meth := k1m1) (c := k1c1) (by decide +kernel) rfl rfl rfl (by decide +kernel)
set_option maxRecDepth 65536 in
theorem w_c1 : (Jvm.Cond.code ({ cls := "com/example/setnix/setnix/io/Attempt", name := "<init>", desc := "(Lcom/example/setnix/setnix/io/Attempt$Outcome;JJ)V" } : Jvm.MethodName) prog_3_method_1_code (6 : Nat) (Option.none : Option Jvm.ClassFile.FieldType)).before args0 about1 = true := code_word (m := ⟨8, 0⟩) (meth := k8m0) (c := k8c0) (by decide +kernel) rfl rfl rfl (by decide +kernel)
set_option maxRecDepth 65536 in
theorem w_c2 : (Jvm.Cond.code ({ cls := "java/lang/Record", name := "<init>", desc := "()V" } : Jvm.MethodName) jdk_30_method_1_code (1 : Nat) (Option.none : Option Jvm.ClassFile.FieldType)).before args0 about1 = true := code_word (m := ⟨7, 0⟩) (meth := k7m0) (c := k7c0) (by decide +kernel) rfl rfl rfl (by decide +kernel)
set_option maxRecDepth 65536 in
theorem w_c3 : (Jvm.Cond.code ({ cls := "java/lang/Object", name := "<init>", desc := "()V" } : Jvm.MethodName) object_method_1_code (1 : Nat) (Option.none : Option Jvm.ClassFile.FieldType)).before args0 about1 = true := code_word (m := ⟨0, 0⟩) (meth := k0m0) (c := k0c0) (by decide +kernel) rfl rfl rfl (by decide +kernel)
set_option maxRecDepth 65536 in
theorem w_c4 : (Jvm.Cond.code ({ cls := "com/example/setnix/setnix/io/Attempt", name := "held", desc := "()Z" } : Jvm.MethodName) prog_3_method_4_code (1 : Nat) (Option.some Jvm.ClassFile.FieldType.boolean)).before args0 about1 = true := code_word (m := ⟨8, 1⟩) (meth := k8m1) (c := k8c1) (by decide +kernel) rfl rfl rfl (by decide +kernel)
def codes1 : List Jvm.Cond := [Jvm.Cond.code x code maxLocals ret, Jvm.Cond.code ({ cls := "com/example/setnix/setnix/io/Attempt", name := "<init>", desc := "(Lcom/example/setnix/setnix/io/Attempt$Outcome;JJ)V" } : Jvm.MethodName) prog_3_method_1_code (6 : Nat) (Option.none : Option Jvm.ClassFile.FieldType), Jvm.Cond.code ({ cls := "java/lang/Record", name := "<init>", desc := "()V" } : Jvm.MethodName) jdk_30_method_1_code (1 : Nat) (Option.none : Option Jvm.ClassFile.FieldType), Jvm.Cond.code ({ cls := "java/lang/Object", name := "<init>", desc := "()V" } : Jvm.MethodName) object_method_1_code (1 : Nat) (Option.none : Option Jvm.ClassFile.FieldType), Jvm.Cond.code ({ cls := "com/example/setnix/setnix/io/Attempt", name := "held", desc := "()Z" } : Jvm.MethodName) prog_3_method_4_code (1 : Nat) (Option.some Jvm.ClassFile.FieldType.boolean)]
set_option maxRecDepth 65536 in
theorem codes_eq : words1.filter isCode = codes1 := rfl
theorem w_codes : ∀ c ∈ words1.filter isCode, c.before args0 about1 = true := by
  rw [codes_eq]
  intro c hc
  simp only [codes1, List.mem_cons, List.not_mem_nil, or_false] at hc
  rcases hc with rfl | rfl | rfl | rfl | rfl
  · exact w_c0
  · exact w_c1
  · exact w_c2
  · exact w_c3
  · exact w_c4
set_option maxRecDepth 65536 in
theorem w_t1 : (words1.take 24).all (fun c => isCode c || c.before args0 about1) = true := by decide +kernel
set_option maxRecDepth 65536 in
theorem w_t2 : (words1.drop 24).all (fun c => isCode c || c.before args0 about1) = true := by decide +kernel
theorem w_tables : (allAtoms (Jvm.Cond.code x code maxLocals ret :: tables_1)).before args0 about1 = true := by
  rw [allAtoms_all]
  show words1.all (fun c => c.before args0 about1) = true
  refine all_split ?_ w_codes
  rw [← List.take_append_drop 24 words1, List.all_append, w_t1, w_t2]
  rfl
set_option maxRecDepth 65536 in
theorem w_case : (Jvm.Cond.and given_1 narrow_1).before args0 about1 = true := by decide +kernel
theorem w_applies : (headSpec (Jvm.Cond.code x code maxLocals ret :: tables_1) room_1).applies x e0.platform about1 = true :=
  (Spec.applies_iff w_frames).mpr ⟨w_running, w_runnable, w_alone, w_named, w_hears, w_ripe, w_room, w_tables⟩
theorem atStart : AtStart classFile x code maxLocals ret World_1 tables_1 room_1 Calls_1 rest_1 Pre_1 launch0 p0 e0 about1 theMethod args0 below0 :=
  ⟨lists_1, trivial, launch0.admits_env _ _ _, launch0.least_env, fairChoices_fair.cas, fairChoices_fair.clock, w_frames, w_args, w_heap, w_applies, trivial, trivial, w_case⟩
end start1
theorem witness_1 : WitnessClaimed_1 := ⟨start1.p0, start1.e0, start1.about1, start1.theMethod, start1.args0, start1.below0, start1.atStart⟩
end Jvm.Pilot.@@N@@
