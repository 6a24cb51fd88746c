import JvmDerived
import JvmDerived.Pilot.@@N@@Statement
import JvmDerived.Pilot.@@N@@Code
set_option linter.unusedVariables false
set_option linter.unusedSimpArgs false
namespace Jvm.Pilot.@@N@@
open Jvm Jvm.ClassFile Sem Op Lib Jvm.Free Jvm.Stand Jvm.LawKit Jvm.RoadKit Bundle Jvm.Pilot.@@N@@.Jvm.D
theorem wd {d : Jvm.Cond} (i : Nat) (h : tables_1[i]? = some d) : d ∈ tables_1 := List.mem_of_getElem? h
def Go (tb : Tables) (e : Env) (below : List Frame) (S0 S : State) : Prop := ∀ t, Steps tb e below S t → Steps tb e below S0 t
theorem own_old_le {Z : State} {n0 : Nat} {h : Heap} (O : Old Z n0 h) : n0 ≤ h.size := O.1 ▸ O.2.1
theorem own_lcmp_self (x : Int64) : lcmpW x x = 0 := by rw [lcW, lc_eq]
theorem own_ne {Z : State} {h : Heap} {a b : Addr} {C n d : String} {i j : Int32} (F : Fld Z h a C n d (.int i)) (G : Fld Z h b C n d (.int j)) (q : i ≠ j) : a ≠ b := F.ne G fun e => q (Value.int.inj e)
theorem own_narrow_ref {v : Value} {n : String} (h : v.isRef = true) : narrow (.object n) v = v := by rcases ref_cases h with rfl | ⟨_, rfl⟩ <;> rfl
theorem own_fits_ref {v : Value} {n : String} (h : v.isRef = true) : fits (.object n) v = true := by rcases ref_cases h with rfl | ⟨_, rfl⟩ <;> rfl
theorem own_narrow_bool {z : Int32} (h : z = 0 ∨ z = 1) : narrow .boolean (.int z) = .int z := by rcases h with rfl | rfl <;> rfl
theorem own_fits_bool {z : Int32} (h : z = 0 ∨ z = 1) : fits .boolean (.int z) = true := by rcases h with rfl | rfl <;> rfl
def QV (w : Option Value) (h0 : Heap) (n0 : Nat) (v : Option Value) (h : Heap) (L : List Loc) : Prop := v = w ∧ Fr n0 L ∧ h = h0
def Q0 (n0 : Nat) (v : Option Value) (h : Heap) (L : List Loc) : Prop := v = some (.int (1 : Int32)) ∧ Fr n0 L
abbrev y_0 : MethodName := ⟨"java/lang/Record", "<init>", "()V"⟩
abbrev y_1 : MethodName := ⟨"com/example/setnix/setnix/io/Attempt", "<init>", "(Lcom/example/setnix/setnix/io/Attempt$Outcome;JJ)V"⟩
abbrev y_2 : MethodName := ⟨"com/example/setnix/setnix/io/Attempt", "taken", "(J)Lcom/example/setnix/setnix/io/Attempt;"⟩
abbrev y_3 : MethodName := ⟨"com/example/setnix/setnix/io/Attempt", "outcome", "()Lcom/example/setnix/setnix/io/Attempt$Outcome;"⟩
abbrev y_4 : MethodName := ⟨"com/example/setnix/setnix/io/Attempt", "holderLeaseMillis", "()J"⟩
abbrev y_5 : MethodName := ⟨"com/example/setnix/setnix/io/Attempt", "fencingToken", "()J"⟩
abbrev y_6 : MethodName := ⟨"com/example/setnix/setnix/io/Attempt", "held", "()Z"⟩
theorem d1_0 : decode prog_3_method_2_code 0 = .ok (.new 8, 3) := by decide +kernel
theorem d1_3 : decode prog_3_method_2_code 3 = .ok (.dup, 1) := by decide +kernel
theorem d1_4 : decode prog_3_method_2_code 4 = .ok (.getstatic 20, 3) := by decide +kernel
theorem d1_7 : decode prog_3_method_2_code 7 = .ok (.lconst 0, 1) := by decide +kernel
theorem d1_8 : decode prog_3_method_2_code 8 = .ok (.lload_n 0, 1) := by decide +kernel
theorem d1_9 : decode prog_3_method_2_code 9 = .ok (.invokespecial 25, 3) := by decide +kernel
theorem d1_12 : decode prog_3_method_2_code 12 = .ok (.areturn, 1) := by decide +kernel
theorem d2_0 : decode prog_3_method_1_code 0 = .ok (.aload_n 0, 1) := by decide +kernel
theorem d2_1 : decode prog_3_method_1_code 1 = .ok (.invokespecial 1, 3) := by decide +kernel
theorem d2_4 : decode prog_3_method_1_code 4 = .ok (.aload_n 0, 1) := by decide +kernel
theorem d2_5 : decode prog_3_method_1_code 5 = .ok (.aload_n 1, 1) := by decide +kernel
theorem d2_6 : decode prog_3_method_1_code 6 = .ok (.putfield 7, 3) := by decide +kernel
theorem d2_9 : decode prog_3_method_1_code 9 = .ok (.aload_n 0, 1) := by decide +kernel
theorem d2_10 : decode prog_3_method_1_code 10 = .ok (.lload_n 2, 1) := by decide +kernel
theorem d2_11 : decode prog_3_method_1_code 11 = .ok (.putfield 13, 3) := by decide +kernel
theorem d2_14 : decode prog_3_method_1_code 14 = .ok (.aload_n 0, 1) := by decide +kernel
theorem d2_15 : decode prog_3_method_1_code 15 = .ok (.lload 4, 2) := by decide +kernel
theorem d2_17 : decode prog_3_method_1_code 17 = .ok (.putfield 17, 3) := by decide +kernel
theorem d2_20 : decode prog_3_method_1_code 20 = .ok (.return_, 1) := by decide +kernel
theorem d3_0 : decode jdk_30_method_1_code 0 = .ok (.aload_n 0, 1) := by decide +kernel
theorem d3_1 : decode jdk_30_method_1_code 1 = .ok (.invokespecial 1, 3) := by decide +kernel
theorem d3_4 : decode jdk_30_method_1_code 4 = .ok (.return_, 1) := by decide +kernel
theorem d5_0 : decode prog_3_method_8_code 0 = .ok (.aload_n 0, 1) := by decide +kernel
theorem d5_1 : decode prog_3_method_8_code 1 = .ok (.getfield 7, 3) := by decide +kernel
theorem d5_4 : decode prog_3_method_8_code 4 = .ok (.areturn, 1) := by decide +kernel
theorem d6_0 : decode prog_3_method_9_code 0 = .ok (.aload_n 0, 1) := by decide +kernel
theorem d6_1 : decode prog_3_method_9_code 1 = .ok (.getfield 13, 3) := by decide +kernel
theorem d6_4 : decode prog_3_method_9_code 4 = .ok (.lreturn, 1) := by decide +kernel
theorem d7_0 : decode prog_3_method_10_code 0 = .ok (.aload_n 0, 1) := by decide +kernel
theorem d7_1 : decode prog_3_method_10_code 1 = .ok (.getfield 17, 3) := by decide +kernel
theorem d7_4 : decode prog_3_method_10_code 4 = .ok (.lreturn, 1) := by decide +kernel
theorem d8_0 : decode prog_3_method_4_code 0 = .ok (.aload_n 0, 1) := by decide +kernel
theorem d8_1 : decode prog_3_method_4_code 1 = .ok (.getfield 7, 3) := by decide +kernel
theorem d8_4 : decode prog_3_method_4_code 4 = .ok (.getstatic 20, 3) := by decide +kernel
theorem d8_7 : decode prog_3_method_4_code 7 = .ok (.if_acmp .eq 13, 3) := by decide +kernel
theorem d8_20 : decode prog_3_method_4_code 20 = .ok (.iconst 1, 1) := by decide +kernel
theorem d8_21 : decode prog_3_method_4_code 21 = .ok (.goto 4, 3) := by decide +kernel
theorem d8_25 : decode prog_3_method_4_code 25 = .ok (.ireturn, 1) := by decide +kernel
theorem pn_0 : plainName "java/lang/Record" = true := by first | (simp [plainName, overriddenIn]; done) | decide +kernel
theorem pn_1 : plainName "com/example/setnix/setnix/io/Attempt" = true := by first | (simp [plainName, overriddenIn]; done) | decide +kernel
theorem pn_2 : plainName "com/example/setnix/setnix/io/AttemptTakenPinLaw" = true := by first | (simp [plainName, overriddenIn]; done) | decide +kernel
theorem pd_0 : parseMethodDescriptor "()V" = some ⟨[], none⟩ := by decide +kernel
theorem pd_1 : parseMethodDescriptor "(Lcom/example/setnix/setnix/io/Attempt$Outcome;JJ)V" = some ⟨[(.object "com/example/setnix/setnix/io/Attempt$Outcome"), .long, .long], none⟩ := by decide +kernel
theorem pd_2 : parseMethodDescriptor "(J)Lcom/example/setnix/setnix/io/Attempt;" = some ⟨[.long], some (.object "com/example/setnix/setnix/io/Attempt")⟩ := by decide +kernel
theorem pd_3 : parseMethodDescriptor "()Lcom/example/setnix/setnix/io/Attempt$Outcome;" = some ⟨[], some (.object "com/example/setnix/setnix/io/Attempt$Outcome")⟩ := by decide +kernel
theorem pd_4 : parseMethodDescriptor "()J" = some ⟨[], some .long⟩ := by decide +kernel
theorem pd_5 : parseMethodDescriptor "()Z" = some ⟨[], some .boolean⟩ := by decide +kernel
def Own (Z : State) (a_TAKEN : Addr) : Prop := Sta Z Z.heap "com/example/setnix/setnix/io/Attempt$Outcome" "TAKEN" "Lcom/example/setnix/setnix/io/Attempt$Outcome;" (.ref a_TAKEN) ∧ Exa Z Z.heap a_TAKEN "com/example/setnix/setnix/io/Attempt$Outcome"
theorem own_fld {args : Array Value} {s : State} {t : Term} {C n d : String} {a : Addr} {k : Int32} (ev : t.eval args s none [] s = some (.ref a)) (h : (Jvm.Cond.eq (.field t C n d) (.int k)).value args s none s [] = some true) : Fld s s.heap a C n d (.int k) := by
  refine Fld.start ?_
  obtain ⟨u, w, h1, h2, h3, h4⟩ := cmp_v (Or.inl h)
  have e2 : w = .int k := (Option.some.inj h2).symm
  subst e2
  obtain ⟨z, rfl⟩ := h4
  rw [fld_at ev] at h1
  rw [h1]
  have q : (Jvm.Cond.eq (.field t C n d) (.int k)).value args s none s [] = some (decide (z = k)) := by simp [Cond.value, Term.eval, ev, h1]
  have := gotT q h
  rw [this]
def QI_r (Z : State) (a : Addr) (x0 : Addr) (x1 : Int64) (x2 : Int64) (h0 : Heap) (n0 : Nat) (v : Option Value) (h : Heap) (L : List Loc) : Prop := v = none ∧ Fr n0 L ∧ Keep h0 h [a] ∧ Fld Z h a "com/example/setnix/setnix/io/Attempt" "outcome" "Lcom/example/setnix/setnix/io/Attempt$Outcome;" (.ref x0) ∧ Fld Z h a "com/example/setnix/setnix/io/Attempt" "holderLeaseMillis" "J" (.long x1) ∧ Fld Z h a "com/example/setnix/setnix/io/Attempt" "fencingToken" "J" (.long x2)
def QM_r (Z : State) (x0 : Addr) (x1 : Int64) (x2 : Int64) (h0 : Heap) (n0 : Nat) (v : Option Value) (h : Heap) (L : List Loc) : Prop := ∃ b : Addr, v = some (.ref b) ∧ Fr n0 L ∧ Keep h0 h [] ∧ n0 ≤ b ∧ h0.size ≤ b ∧ Exa Z h b "com/example/setnix/setnix/io/Attempt" ∧ Fld Z h b "com/example/setnix/setnix/io/Attempt" "outcome" "Lcom/example/setnix/setnix/io/Attempt$Outcome;" (.ref x0) ∧ Fld Z h b "com/example/setnix/setnix/io/Attempt" "holderLeaseMillis" "J" (.long x1) ∧ Fld Z h b "com/example/setnix/setnix/io/Attempt" "fencingToken" "J" (.long x2)
set_option maxRecDepth 65536 in
set_option maxHeartbeats 40000000 in
theorem rec0 (l : Launch) (Z : State) (a0 : Array Value) (hw : ∀ d ∈ tables_1, d.before a0 Z = true) (ws : List Jvm.Cond) (a_TAKEN : Addr) (G : Own Z a_TAKEN) (a1 : Addr) (h0 : Heap) (n0 : Nat) (O0 : Old Z n0 h0)  :
    MetFree l y_0 (head1 (Jvm.Cond.code y_0 jdk_30_method_1_code 1 none :: ws) ({ frames := 1, cells := 0, slots := 0, locals := 12 } : Room)) (fun a U => a = #[(.ref a1)] ∧ Z.Warmed39 U.vm ∧ U.heap = h0) (fun _ _ _ _ _ => True) (fun _ U o U' => ∃ v L, o = .returned v ∧ QV none h0 n0 v U'.heap L ∧ FrameEnd U o U' L ({ frames := 1, cells := 0, slots := 0, locals := 12 } : Room).cells ({ frames := 1, cells := 0, slots := 0, locals := 12 } : Room).slots) := by
  refine MetFree.of_bodySF (plainFor_of_name pn_0) hisR ?_
  intro p e s m args below meth c s₁ Bd hml0 hP hK
  obtain ⟨rfl, hZ, hh⟩ := hP
  have hx := Bd.exec
  have hby := Bd.bytes
  have hml : c.maxLocals = 1 := hml0
  have hown : s.vm.findClass "java/lang/Record" = some m.cls := findClass_of_methodNamed Bd.named
  have hnm := (name_of_methodNamed Bd.named Bd.method).1
  have X0 : Stand p l e ({ frames := 1, cells := 0, slots := 0, locals := 12 } : Room) s m #[(.ref a1)] below meth c s₁ [] 0 0 := Stand.of_body Bd
  have e0 : s₁.heap = h0 := by rw [← hh, Bd.state]; rfl
  have N0 := Fr.nil n0
  have K0 := Keep.refl h0 []
  have k0 : Go p.tables e below (s₁.setTop (entryFrame m #[(.ref a1)] 1)) (s₁.setTop (mkF m 0 #[rv a1] [])) := fun t k => castTop (by first | rfl | (simp [entryFrame, mkF, argsToLocals, Value.category]; done)) k
  have ⟨S_TAKEN, E_TAKEN⟩ := G
  have k_1 : Go p.tables e below (s₁.setTop (entryFrame m #[(.ref a1)] 1)) (s₁.setTop (mkF m 1 #[rv a1] [(.ref a1)])) := fun t q => by
    refine k0 t ?_
    refine XS.aloadN X0.here hx rfl (hb hby d3_0) rfl rfl ?_
    show Steps _ _ _ (s₁.setTop (mkF m 1 #[rv a1] [(.ref a1)])) _
    exact q
  obtain ⟨T2, X2, e2, st2⟩ := initO X0 hx hZ hown (hw _ (wd 17 rfl)) (hw _ (wd 18 rfl)) (hw _ (wd 19 rfl)) e0 (g := (mkF m 1 #[rv a1] [(.ref a1)])) rfl (by rw [hml]; rfl) rfl (hb hby d3_1) (by decide) (W := 0) (by show 2 * 0 + _ ≤ _; exact Nat.le_of_eq rfl) (by decide)
  have k_3 : Go p.tables e below (s₁.setTop (entryFrame m #[(.ref a1)] 1)) (T2.setTop (mkF m 4 #[rv a1] [])) := fun t q => by
    refine k_1 t ?_
    refine st2 _ ?_
    show Steps _ _ _ (T2.setTop (mkF m 4 #[rv a1] [])) _
    exact q
  obtain ⟨fs, hr, hrun, hended, hW, hsame⟩ := X2.leave (v := none) (fun _ => rfl)
  refine ⟨_, _, k_3 _ ?_, hrun, hended, _, _, rfl, ?_, ⟨_, rfl⟩, hW, hsame.mono (by decide) (by decide)⟩
  · exact X2.returnOut hx Bd.returns (hb hby d3_4) hr
  · show QV none h0 n0 _ T2.heap _
    rw [e2]
    exact ⟨rfl, N0, rfl⟩
set_option maxRecDepth 65536 in
set_option maxHeartbeats 40000000 in
theorem init_r (l : Launch) (Z : State) (a0 : Array Value) (hw : ∀ d ∈ tables_1, d.before a0 Z = true) (ws : List Jvm.Cond) (a_TAKEN : Addr) (G : Own Z a_TAKEN) (a1 : Addr) (x0 : Addr) (x1 : Int64) (x2 : Int64) (h0 : Heap) (n0 : Nat) (O0 : Old Z n0 h0) (E0 : Exa Z h0 a1 "com/example/setnix/setnix/io/Attempt") (F0_0 : Fld Z h0 a1 "com/example/setnix/setnix/io/Attempt" "outcome" "Lcom/example/setnix/setnix/io/Attempt$Outcome;" .null) (F0_1 : Fld Z h0 a1 "com/example/setnix/setnix/io/Attempt" "holderLeaseMillis" "J" (.long (0 : Int64))) (F0_2 : Fld Z h0 a1 "com/example/setnix/setnix/io/Attempt" "fencingToken" "J" (.long (0 : Int64))) (g0 : n0 ≤ a1) :
    MetFree l y_1 (head1 (Jvm.Cond.code y_1 prog_3_method_1_code 6 none :: ws) ({ frames := 2, cells := 0, slots := 0, locals := 24 } : Room)) (fun a U => a = #[(.ref a1), (.ref x0), (.long x1), (.long x2)] ∧ Z.Warmed39 U.vm ∧ U.heap = h0) (fun _ _ _ _ _ => True) (fun _ U o U' => ∃ v L, o = .returned v ∧ QI_r Z a1 x0 x1 x2 h0 n0 v U'.heap L ∧ FrameEnd U o U' L ({ frames := 2, cells := 0, slots := 0, locals := 24 } : Room).cells ({ frames := 2, cells := 0, slots := 0, locals := 24 } : Room).slots) := by
  refine MetFree.of_bodySF (plainFor_of_name pn_1) hisR ?_
  intro p e s m args below meth c s₁ Bd hml0 hP hK
  obtain ⟨rfl, hZ, hh⟩ := hP
  have hx := Bd.exec
  have hby := Bd.bytes
  have hml : c.maxLocals = 6 := hml0
  have hown : s.vm.findClass "com/example/setnix/setnix/io/Attempt" = some m.cls := findClass_of_methodNamed Bd.named
  have hnm := (name_of_methodNamed Bd.named Bd.method).1
  have X0 : Stand p l e ({ frames := 2, cells := 0, slots := 0, locals := 24 } : Room) s m #[(.ref a1), (.ref x0), (.long x1), (.long x2)] below meth c s₁ [] 0 0 := Stand.of_body Bd
  have e0 : s₁.heap = h0 := by rw [← hh, Bd.state]; rfl
  have N0 := Fr.nil n0
  have K0 := Keep.refl h0 [a1]
  have k0 : Go p.tables e below (s₁.setTop (entryFrame m #[(.ref a1), (.ref x0), (.long x1), (.long x2)] 6)) (s₁.setTop (mkF m 0 #[rv a1, rv x0, .val (.long x1), .second, .val (.long x2), .second] [])) := fun t k => castTop (by first | rfl | (simp [entryFrame, mkF, argsToLocals, Value.category]; done)) k
  have ⟨S_TAKEN, E_TAKEN⟩ := G
  have k_4 : Go p.tables e below (s₁.setTop (entryFrame m #[(.ref a1), (.ref x0), (.long x1), (.long x2)] 6)) (s₁.setTop (mkF m 1 #[rv a1, rv x0, .val (.long x1), .second, .val (.long x2), .second] [(.ref a1)])) := fun t q => by
    refine k0 t ?_
    refine XS.aloadN X0.here hx rfl (hb hby d2_0) rfl rfl ?_
    show Steps _ _ _ (s₁.setTop (mkF m 1 #[rv a1, rv x0, .val (.long x1), .second, .val (.long x2), .second] [(.ref a1)])) _
    exact q
  obtain ⟨_, _, ⟨T5, L5, k5, n5⟩, -, X5, ⟨Lc5, hQ5, l5, y5, z5⟩, st5⟩ := X0.specialBack hx (y := y_0) rfl hown (mvT hZ (hw _ (wd 12 rfl))) (mvT hZ (hw _ (wd 13 rfl))) (mvT hZ (hw _ (wd 16 rfl))) (by decide) (backOf (W := 0) (rec0 l Z a0 hw [] a_TAKEN G a1 h0 n0 O0) hZ (hw _ (wd 16 rfl)) (hw _ (wd 15 rfl)) (by decide) (by decide)) (g := (mkF m 1 #[rv a1, rv x0, .val (.long x1), .second, .val (.long x2), .second] [(.ref a1)])) rfl (by rw [hml]; rfl) (Steps.refl _) (a := a1) (argsL := []) (rest := []) (lenOf pd_0 rfl) rfl (by show 2 * 0 + _ ≤ _; exact Nat.le_of_eq rfl) (hb hby d2_1) (fun _ _ => ⟨rfl, e0, (by decide : 0 + 0 ≤ _), (by decide : 0 + 0 ≤ _)⟩)
  dsimp only [Pt.U, Pt.locs, Pt.cells, Pt.slots] at X5 l5 y5 z5 st5 hQ5
  subst l5 y5 z5
  obtain ⟨rfl, N5q, e5⟩ := hQ5
  have N5 := Fr.app N0 N5q
  have k_6 : Go p.tables e below (s₁.setTop (entryFrame m #[(.ref a1), (.ref x0), (.long x1), (.long x2)] 6)) (T5.setTop (mkF m 6 #[rv a1, rv x0, .val (.long x1), .second, .val (.long x2), .second] [(.ref x0), (.ref a1)])) := fun t q => by
    refine k_4 t ?_
    refine st5.trans ?_
    show Steps _ _ _ (T5.setTop (mkF m 4 #[rv a1, rv x0, .val (.long x1), .second, .val (.long x2), .second] [])) _
    refine XS.aloadN X5.here hx rfl (hb hby d2_4) rfl rfl ?_
    show Steps _ _ _ (T5.setTop (mkF m 5 #[rv a1, rv x0, .val (.long x1), .second, .val (.long x2), .second] [(.ref a1)])) _
    refine XS.aloadN X5.here hx rfl (hb hby d2_5) rfl rfl ?_
    show Steps _ _ _ (T5.setTop (mkF m 6 #[rv a1, rv x0, .val (.long x1), .second, .val (.long x2), .second] [(.ref x0), (.ref a1)])) _
    exact q
  obtain ⟨T7, h7, X7, e7, W7, st7⟩ := putF X5 hx hZ hown (host := "") (Or.inl (hw _ (wd 20 rfl))) Via.refl e5 F0_0 E0 (Or.inr ⟨(hw _ (wd 21 rfl)), rfl, hnm⟩) (hw _ (wd 5 rfl)) (ty := (.object "com/example/setnix/setnix/io/Attempt$Outcome")) (by decide) rfl rfl (g := (mkF m 6 #[rv a1, rv x0, .val (.long x1), .second, .val (.long x2), .second] [(.ref x0), (.ref a1)])) rfl rfl (hb hby d2_6)
  have N7 := Fr.snoc X7 N5 g0
  have f_8 := Fld.same W7 F0_0
  have f_9 := Exa.wr W7 E0
  have f_10 := Fld.other W7 F0_1 (Or.inr (slot_ne (Or.inr (hw _ (wd 23 rfl))) (Or.inr (hw _ (wd 21 rfl))) (by decide) (t := .long) (t' := (.object "com/example/setnix/setnix/io/Attempt$Outcome")) (by decide) (by decide)))
  have f_11 := Fld.other W7 F0_2 (Or.inr (slot_ne (Or.inr (hw _ (wd 25 rfl))) (Or.inr (hw _ (wd 21 rfl))) (by decide) (t := .long) (t' := (.object "com/example/setnix/setnix/io/Attempt$Outcome")) (by decide) (by decide)))
  have O_12 := O0.wr W7 g0
  have K_13 := K0.wr W7 (Or.inl (List.mem_of_getElem? (i := 0) rfl))
  have k_14 : Go p.tables e below (s₁.setTop (entryFrame m #[(.ref a1), (.ref x0), (.long x1), (.long x2)] 6)) (T7.setTop (mkF m 11 #[rv a1, rv x0, .val (.long x1), .second, .val (.long x2), .second] [(.long x1), (.ref a1)])) := fun t q => by
    refine k_6 t ?_
    refine st7 _ ?_
    show Steps _ _ _ (T7.setTop (mkF m 9 #[rv a1, rv x0, .val (.long x1), .second, .val (.long x2), .second] [])) _
    refine XS.aloadN X7.here hx rfl (hb hby d2_9) rfl rfl ?_
    show Steps _ _ _ (T7.setTop (mkF m 10 #[rv a1, rv x0, .val (.long x1), .second, .val (.long x2), .second] [(.ref a1)])) _
    refine XS.lloadN X7.here hx rfl (hb hby d2_10) rfl ?_
    show Steps _ _ _ (T7.setTop (mkF m 11 #[rv a1, rv x0, .val (.long x1), .second, .val (.long x2), .second] [(.long x1), (.ref a1)])) _
    exact q
  obtain ⟨T15, h15, X15, e15, W15, st15⟩ := putF X7 hx hZ hown (host := "") (Or.inl (hw _ (wd 22 rfl))) Via.refl e7 f_10 f_9 (Or.inr ⟨(hw _ (wd 23 rfl)), rfl, hnm⟩) (hw _ (wd 5 rfl)) (ty := .long) (by decide) rfl rfl (g := (mkF m 11 #[rv a1, rv x0, .val (.long x1), .second, .val (.long x2), .second] [(.long x1), (.ref a1)])) rfl rfl (hb hby d2_11)
  have N15 := Fr.snoc X15 N7 g0
  have f_16 := Fld.same W15 f_10
  have f_17 := Exa.wr W15 f_9
  have f_18 := Fld.other W15 f_11 (Or.inr (slot_ne (Or.inr (hw _ (wd 25 rfl))) (Or.inr (hw _ (wd 23 rfl))) (by decide) (t := .long) (t' := .long) (by decide) (by decide)))
  have f_19 := Fld.other W15 f_8 (Or.inr (slot_ne (Or.inr (hw _ (wd 21 rfl))) (Or.inr (hw _ (wd 23 rfl))) (by decide) (t := (.object "com/example/setnix/setnix/io/Attempt$Outcome")) (t' := .long) (by decide) (by decide)))
  have O_20 := O_12.wr W15 g0
  have K_21 := K_13.wr W15 (Or.inl (List.mem_of_getElem? (i := 0) rfl))
  have k_22 : Go p.tables e below (s₁.setTop (entryFrame m #[(.ref a1), (.ref x0), (.long x1), (.long x2)] 6)) (T15.setTop (mkF m 17 #[rv a1, rv x0, .val (.long x1), .second, .val (.long x2), .second] [(.long x2), (.ref a1)])) := fun t q => by
    refine k_14 t ?_
    refine st15 _ ?_
    show Steps _ _ _ (T15.setTop (mkF m 14 #[rv a1, rv x0, .val (.long x1), .second, .val (.long x2), .second] [])) _
    refine XS.aloadN X15.here hx rfl (hb hby d2_14) rfl rfl ?_
    show Steps _ _ _ (T15.setTop (mkF m 15 #[rv a1, rv x0, .val (.long x1), .second, .val (.long x2), .second] [(.ref a1)])) _
    refine XS.lload X15.here hx rfl (hb hby d2_15) rfl ?_
    show Steps _ _ _ (T15.setTop (mkF m 17 #[rv a1, rv x0, .val (.long x1), .second, .val (.long x2), .second] [(.long x2), (.ref a1)])) _
    exact q
  obtain ⟨T23, h23, X23, e23, W23, st23⟩ := putF X15 hx hZ hown (host := "") (Or.inl (hw _ (wd 24 rfl))) Via.refl e15 f_18 f_17 (Or.inr ⟨(hw _ (wd 25 rfl)), rfl, hnm⟩) (hw _ (wd 5 rfl)) (ty := .long) (by decide) rfl rfl (g := (mkF m 17 #[rv a1, rv x0, .val (.long x1), .second, .val (.long x2), .second] [(.long x2), (.ref a1)])) rfl rfl (hb hby d2_17)
  have N23 := Fr.snoc X23 N15 g0
  have f_24 := Fld.same W23 f_18
  have f_25 := Exa.wr W23 f_17
  have f_26 := Fld.other W23 f_19 (Or.inr (slot_ne (Or.inr (hw _ (wd 21 rfl))) (Or.inr (hw _ (wd 25 rfl))) (by decide) (t := (.object "com/example/setnix/setnix/io/Attempt$Outcome")) (t' := .long) (by decide) (by decide)))
  have f_27 := Fld.other W23 f_16 (Or.inr (slot_ne (Or.inr (hw _ (wd 23 rfl))) (Or.inr (hw _ (wd 25 rfl))) (by decide) (t := .long) (t' := .long) (by decide) (by decide)))
  have O_28 := O_20.wr W23 g0
  have K_29 := K_21.wr W23 (Or.inl (List.mem_of_getElem? (i := 0) rfl))
  have k_30 : Go p.tables e below (s₁.setTop (entryFrame m #[(.ref a1), (.ref x0), (.long x1), (.long x2)] 6)) (T23.setTop (mkF m 20 #[rv a1, rv x0, .val (.long x1), .second, .val (.long x2), .second] [])) := fun t q => by
    refine k_22 t ?_
    refine st23 _ ?_
    show Steps _ _ _ (T23.setTop (mkF m 20 #[rv a1, rv x0, .val (.long x1), .second, .val (.long x2), .second] [])) _
    exact q
  obtain ⟨fs, hr, hrun, hended, hW, hsame⟩ := X23.leave (v := none) (fun _ => rfl)
  refine ⟨_, _, k_30 _ ?_, hrun, hended, _, _, rfl, ?_, ⟨_, rfl⟩, hW, hsame.mono (by decide) (by decide)⟩
  · exact X23.returnOut hx Bd.returns (hb hby d2_20) hr
  · show QI_r Z a1 x0 x1 x2 h0 n0 _ T23.heap _
    rw [e23]
    exact ⟨rfl, N23, K_29, f_26, f_27, f_24⟩
set_option maxRecDepth 65536 in
set_option maxHeartbeats 40000000 in
theorem mk (l : Launch) (Z : State) (a0 : Array Value) (hw : ∀ d ∈ tables_1, d.before a0 Z = true) (ws : List Jvm.Cond) (a_TAKEN : Addr) (G : Own Z a_TAKEN) (q1 : Int64) (h0 : Heap) (n0 : Nat) (O0 : Old Z n0 h0)  :
    MetFree l y_2 (head1 (Jvm.Cond.code y_2 prog_3_method_2_code 2 (some (.object "com/example/setnix/setnix/io/Attempt")) :: ws) ({ frames := 3, cells := 1, slots := 3, locals := 42 } : Room)) (fun a U => a = #[(.long q1)] ∧ Z.Warmed39 U.vm ∧ U.heap = h0) (fun _ _ _ _ _ => True) (fun _ U o U' => ∃ v L, o = .returned v ∧ QM_r Z a_TAKEN (0 : Int64) q1 h0 n0 v U'.heap L ∧ FrameEnd U o U' L ({ frames := 3, cells := 1, slots := 3, locals := 42 } : Room).cells ({ frames := 3, cells := 1, slots := 3, locals := 42 } : Room).slots) := by
  refine MetFree.of_bodySF (plainFor_of_name pn_1) hisR ?_
  intro p e s m args below meth c s₁ Bd hml0 hP hK
  obtain ⟨rfl, hZ, hh⟩ := hP
  have hx := Bd.exec
  have hby := Bd.bytes
  have hml : c.maxLocals = 2 := hml0
  have hown : s.vm.findClass "com/example/setnix/setnix/io/Attempt" = some m.cls := findClass_of_methodNamed Bd.named
  have hnm := (name_of_methodNamed Bd.named Bd.method).1
  have X0 : Stand p l e ({ frames := 3, cells := 1, slots := 3, locals := 42 } : Room) s m #[(.long q1)] below meth c s₁ [] 0 0 := Stand.of_body Bd
  have e0 : s₁.heap = h0 := by rw [← hh, Bd.state]; rfl
  have N0 := Fr.nil n0
  have K0 := Keep.refl h0 []
  have k0 : Go p.tables e below (s₁.setTop (entryFrame m #[(.long q1)] 2)) (s₁.setTop (mkF m 0 #[.val (.long q1), .second] [])) := fun t k => castTop (by first | rfl | (simp [entryFrame, mkF, argsToLocals, Value.category]; done)) k
  have ⟨S_TAKEN, E_TAKEN⟩ := G
  obtain ⟨T31, h31, X31, e31, E31, A31, D31, -, st31⟩ := newO X0 hx hZ hown (hw _ (wd 4 rfl)) (hw _ (wd 5 rfl)) (hw _ (wd 2 rfl)) e0 (g := (mkF m 0 #[.val (.long q1), .second] [])) rfl (hb hby d1_0) (by decide) (by decide)
  obtain ⟨b31, g31⟩ : ∃ z, z = h0.size := ⟨_, rfl⟩
  rw [← g31] at A31 D31 st31
  have g_b31 : n0 ≤ b31 := Nat.le_trans (own_old_le O0) (Nat.le_of_eq g31.symm)
  have sz_b31 : h0.size ≤ b31 := Nat.le_trans K0.1 (Nat.le_of_eq g31.symm)
  have O_32 := O0.ext E31
  have K_33 := K0.ext E31
  have F31_outcome : Fld Z h31 b31 "com/example/setnix/setnix/io/Attempt" "outcome" "Lcom/example/setnix/setnix/io/Attempt$Outcome;" .null := D31 (Or.inr (hw _ (wd 21 rfl))) (ty := (.object "com/example/setnix/setnix/io/Attempt$Outcome")) (by decide)
  have F31_holderLeaseMillis : Fld Z h31 b31 "com/example/setnix/setnix/io/Attempt" "holderLeaseMillis" "J" (.long (0 : Int64)) := D31 (Or.inr (hw _ (wd 23 rfl))) (ty := .long) (by decide)
  have F31_fencingToken : Fld Z h31 b31 "com/example/setnix/setnix/io/Attempt" "fencingToken" "J" (.long (0 : Int64)) := D31 (Or.inr (hw _ (wd 25 rfl))) (ty := .long) (by decide)
  have k_34 : Go p.tables e below (s₁.setTop (entryFrame m #[(.long q1)] 2)) (T31.setTop (mkF m 4 #[.val (.long q1), .second] [(.ref b31), (.ref b31)])) := fun t q => by
    refine k0 t ?_
    refine st31 _ ?_
    show Steps _ _ _ (T31.setTop (mkF m 3 #[.val (.long q1), .second] [(.ref b31)])) _
    refine XS.dup X31.here hx rfl (hb hby d1_3) rfl rfl ?_
    show Steps _ _ _ (T31.setTop (mkF m 4 #[.val (.long q1), .second] [(.ref b31), (.ref b31)])) _
    exact q
  obtain ⟨T35, X35, e35, st35⟩ := getS2 X31 hx hZ hown (host := "") (Or.inl (hw _ (wd 6 rfl))) Via.refl e31 (S_TAKEN.ext O_32.2) (g := (mkF m 4 #[.val (.long q1), .second] [(.ref b31), (.ref b31)])) rfl (hb hby d1_4)
  have k_36 : Go p.tables e below (s₁.setTop (entryFrame m #[(.long q1)] 2)) (T35.setTop (mkF m 9 #[.val (.long q1), .second] [(.long q1), (.long (0 : Int64)), (.ref a_TAKEN), (.ref b31), (.ref b31)])) := fun t q => by
    refine k_34 t ?_
    refine st35 _ ?_
    show Steps _ _ _ (T35.setTop (mkF m 7 #[.val (.long q1), .second] [(.ref a_TAKEN), (.ref b31), (.ref b31)])) _
    refine XS.lconst X35.here hx rfl (hb hby d1_7) ?_
    show Steps _ _ _ (T35.setTop (mkF m 8 #[.val (.long q1), .second] [(.long (0 : Int64)), (.ref a_TAKEN), (.ref b31), (.ref b31)])) _
    refine XS.lloadN X35.here hx rfl (hb hby d1_8) rfl ?_
    show Steps _ _ _ (T35.setTop (mkF m 9 #[.val (.long q1), .second] [(.long q1), (.long (0 : Int64)), (.ref a_TAKEN), (.ref b31), (.ref b31)])) _
    exact q
  obtain ⟨_, _, ⟨T37, L37, k37, n37⟩, -, X37, ⟨Lc37, hQ37, l37, y37, z37⟩, st37⟩ := X35.specialBack hx (y := y_1) rfl hown (mvT hZ (hw _ (wd 9 rfl))) (mvT hZ (hw _ (wd 10 rfl))) (mvT hZ (hw _ (wd 11 rfl))) (by decide) (backOf (W := 1) (init_r l Z a0 hw [] a_TAKEN G b31 a_TAKEN (0 : Int64) q1 h31 n0 O_32 A31 F31_outcome F31_holderLeaseMillis F31_fencingToken g_b31) hZ (hw _ (wd 11 rfl)) (hw _ (wd 2 rfl)) (by decide) (by decide)) (g := (mkF m 9 #[.val (.long q1), .second] [(.long q1), (.long (0 : Int64)), (.ref a_TAKEN), (.ref b31), (.ref b31)])) rfl (by rw [hml]; rfl) (Steps.refl _) (a := b31) (argsL := [(.ref a_TAKEN), (.long (0 : Int64)), (.long q1)]) (rest := [(.ref b31)]) (lenOf pd_1 rfl) rfl (by show 2 * 0 + _ ≤ _; exact Nat.le_of_eq rfl) (hb hby d1_9) (fun _ _ => ⟨rfl, e35, (by decide : 1 + 0 ≤ _), (by decide : 3 + 0 ≤ _)⟩)
  dsimp only [Pt.U, Pt.locs, Pt.cells, Pt.slots] at X37 l37 y37 z37 st37 hQ37
  subst l37 y37 z37
  obtain ⟨rfl, N37q, K37, I37_0, I37_1, I37_2⟩ := hQ37
  have N37 := Fr.app N0 N37q
  have f_38 := Exa.keep A31 K37
  have O_42 := O_32.keep K37 (allS g_b31 all0)
  have K_43 := K_33.trans K37 (allS (Or.inr sz_b31) all0)
  have k_44 : Go p.tables e below (s₁.setTop (entryFrame m #[(.long q1)] 2)) (T37.setTop (mkF m 12 #[.val (.long q1), .second] [(.ref b31)])) := fun t q => by
    refine k_36 t ?_
    refine st37.trans ?_
    show Steps _ _ _ (T37.setTop (mkF m 12 #[.val (.long q1), .second] [(.ref b31)])) _
    exact q
  obtain ⟨fs, hr, hrun, hended, hW, hsame⟩ := X37.leave (v := some (.ref b31)) (fun h => by rw [Bd.returns] at h; cases h)
  refine ⟨_, _, k_44 _ ?_, hrun, hended, _, _, rfl, ?_, ⟨_, rfl⟩, hW, hsame.mono (by decide) (by decide)⟩
  · exact retOut X37 hx Bd.returns rfl (Or.inr (Or.inr (Or.inr (Or.inr ⟨rfl, rfl, rfl⟩)))) (hb hby d1_12) hr
  · show QM_r Z a_TAKEN (0 : Int64) q1 h0 n0 _ T37.heap _
    exact ⟨b31, rfl, N37, K_43, g_b31, sz_b31, f_38, I37_0, I37_1, I37_2⟩
set_option maxRecDepth 65536 in
set_option maxHeartbeats 40000000 in
theorem get_outcome (l : Launch) (Z : State) (a0 : Array Value) (hw : ∀ d ∈ tables_1, d.before a0 Z = true) (ws : List Jvm.Cond) (a_TAKEN : Addr) (G : Own Z a_TAKEN) (a1 : Addr) (x1 : Addr) (h0 : Heap) (n0 : Nat) (O0 : Old Z n0 h0) (F0 : Fld Z h0 a1 "com/example/setnix/setnix/io/Attempt" "outcome" "Lcom/example/setnix/setnix/io/Attempt$Outcome;" (.ref x1)) :
    MetFree l y_3 (head1 (Jvm.Cond.code y_3 prog_3_method_8_code 1 (some (.object "com/example/setnix/setnix/io/Attempt$Outcome")) :: ws) ({ frames := 0, cells := 0, slots := 0, locals := 0 } : Room)) (fun a U => a = #[(.ref a1)] ∧ Z.Warmed39 U.vm ∧ U.heap = h0) (fun _ _ _ _ _ => True) (fun _ U o U' => ∃ v L, o = .returned v ∧ QV (some (.ref x1)) h0 n0 v U'.heap L ∧ FrameEnd U o U' L ({ frames := 0, cells := 0, slots := 0, locals := 0 } : Room).cells ({ frames := 0, cells := 0, slots := 0, locals := 0 } : Room).slots) := by
  refine MetFree.of_bodySF (plainFor_of_name pn_1) hisR ?_
  intro p e s m args below meth c s₁ Bd hml0 hP hK
  obtain ⟨rfl, hZ, hh⟩ := hP
  have hx := Bd.exec
  have hby := Bd.bytes
  have hml : c.maxLocals = 1 := hml0
  have hown : s.vm.findClass "com/example/setnix/setnix/io/Attempt" = some m.cls := findClass_of_methodNamed Bd.named
  have hnm := (name_of_methodNamed Bd.named Bd.method).1
  have X0 : Stand p l e ({ frames := 0, cells := 0, slots := 0, locals := 0 } : Room) s m #[(.ref a1)] below meth c s₁ [] 0 0 := Stand.of_body Bd
  have e0 : s₁.heap = h0 := by rw [← hh, Bd.state]; rfl
  have N0 := Fr.nil n0
  have K0 := Keep.refl h0 []
  have k0 : Go p.tables e below (s₁.setTop (entryFrame m #[(.ref a1)] 1)) (s₁.setTop (mkF m 0 #[rv a1] [])) := fun t k => castTop (by first | rfl | (simp [entryFrame, mkF, argsToLocals, Value.category]; done)) k
  have ⟨S_TAKEN, E_TAKEN⟩ := G
  have k_45 : Go p.tables e below (s₁.setTop (entryFrame m #[(.ref a1)] 1)) (s₁.setTop (mkF m 1 #[rv a1] [(.ref a1)])) := fun t q => by
    refine k0 t ?_
    refine XS.aloadN X0.here hx rfl (hb hby d5_0) rfl rfl ?_
    show Steps _ _ _ (s₁.setTop (mkF m 1 #[rv a1] [(.ref a1)])) _
    exact q
  obtain ⟨T46, X46, e46, st46⟩ := getF X0 hx hZ hown (host := "") (Or.inl (hw _ (wd 20 rfl))) Via.refl e0 F0 (g := (mkF m 1 #[rv a1] [(.ref a1)])) rfl rfl (hb hby d5_1)
  have k_47 : Go p.tables e below (s₁.setTop (entryFrame m #[(.ref a1)] 1)) (T46.setTop (mkF m 4 #[rv a1] [(.ref x1)])) := fun t q => by
    refine k_45 t ?_
    refine st46 _ ?_
    show Steps _ _ _ (T46.setTop (mkF m 4 #[rv a1] [(.ref x1)])) _
    exact q
  obtain ⟨fs, hr, hrun, hended, hW, hsame⟩ := X46.leave (v := some (.ref x1)) (fun h => by rw [Bd.returns] at h; cases h)
  refine ⟨_, _, k_47 _ ?_, hrun, hended, _, _, rfl, ?_, ⟨_, rfl⟩, hW, hsame.mono (by decide) (by decide)⟩
  · exact retOut X46 hx Bd.returns rfl (Or.inr (Or.inr (Or.inr (Or.inr ⟨rfl, rfl, rfl⟩)))) (hb hby d5_4) hr
  · show QV (some (.ref x1)) h0 n0 _ T46.heap _
    rw [e46]
    exact ⟨rfl, N0, rfl⟩
set_option maxRecDepth 65536 in
set_option maxHeartbeats 40000000 in
theorem get_holderLeaseMillis (l : Launch) (Z : State) (a0 : Array Value) (hw : ∀ d ∈ tables_1, d.before a0 Z = true) (ws : List Jvm.Cond) (a_TAKEN : Addr) (G : Own Z a_TAKEN) (a1 : Addr) (x1 : Int64) (h0 : Heap) (n0 : Nat) (O0 : Old Z n0 h0) (F0 : Fld Z h0 a1 "com/example/setnix/setnix/io/Attempt" "holderLeaseMillis" "J" (.long x1)) :
    MetFree l y_4 (head1 (Jvm.Cond.code y_4 prog_3_method_9_code 1 (some .long) :: ws) ({ frames := 0, cells := 0, slots := 0, locals := 0 } : Room)) (fun a U => a = #[(.ref a1)] ∧ Z.Warmed39 U.vm ∧ U.heap = h0) (fun _ _ _ _ _ => True) (fun _ U o U' => ∃ v L, o = .returned v ∧ QV (some (.long x1)) h0 n0 v U'.heap L ∧ FrameEnd U o U' L ({ frames := 0, cells := 0, slots := 0, locals := 0 } : Room).cells ({ frames := 0, cells := 0, slots := 0, locals := 0 } : Room).slots) := by
  refine MetFree.of_bodySF (plainFor_of_name pn_1) hisR ?_
  intro p e s m args below meth c s₁ Bd hml0 hP hK
  obtain ⟨rfl, hZ, hh⟩ := hP
  have hx := Bd.exec
  have hby := Bd.bytes
  have hml : c.maxLocals = 1 := hml0
  have hown : s.vm.findClass "com/example/setnix/setnix/io/Attempt" = some m.cls := findClass_of_methodNamed Bd.named
  have hnm := (name_of_methodNamed Bd.named Bd.method).1
  have X0 : Stand p l e ({ frames := 0, cells := 0, slots := 0, locals := 0 } : Room) s m #[(.ref a1)] below meth c s₁ [] 0 0 := Stand.of_body Bd
  have e0 : s₁.heap = h0 := by rw [← hh, Bd.state]; rfl
  have N0 := Fr.nil n0
  have K0 := Keep.refl h0 []
  have k0 : Go p.tables e below (s₁.setTop (entryFrame m #[(.ref a1)] 1)) (s₁.setTop (mkF m 0 #[rv a1] [])) := fun t k => castTop (by first | rfl | (simp [entryFrame, mkF, argsToLocals, Value.category]; done)) k
  have ⟨S_TAKEN, E_TAKEN⟩ := G
  have k_48 : Go p.tables e below (s₁.setTop (entryFrame m #[(.ref a1)] 1)) (s₁.setTop (mkF m 1 #[rv a1] [(.ref a1)])) := fun t q => by
    refine k0 t ?_
    refine XS.aloadN X0.here hx rfl (hb hby d6_0) rfl rfl ?_
    show Steps _ _ _ (s₁.setTop (mkF m 1 #[rv a1] [(.ref a1)])) _
    exact q
  obtain ⟨T49, X49, e49, st49⟩ := getF X0 hx hZ hown (host := "") (Or.inl (hw _ (wd 22 rfl))) Via.refl e0 F0 (g := (mkF m 1 #[rv a1] [(.ref a1)])) rfl rfl (hb hby d6_1)
  have k_50 : Go p.tables e below (s₁.setTop (entryFrame m #[(.ref a1)] 1)) (T49.setTop (mkF m 4 #[rv a1] [(.long x1)])) := fun t q => by
    refine k_48 t ?_
    refine st49 _ ?_
    show Steps _ _ _ (T49.setTop (mkF m 4 #[rv a1] [(.long x1)])) _
    exact q
  obtain ⟨fs, hr, hrun, hended, hW, hsame⟩ := X49.leave (v := some (.long x1)) (fun h => by rw [Bd.returns] at h; cases h)
  refine ⟨_, _, k_50 _ ?_, hrun, hended, _, _, rfl, ?_, ⟨_, rfl⟩, hW, hsame.mono (by decide) (by decide)⟩
  · exact retOut X49 hx Bd.returns rfl (Or.inr (Or.inl ⟨rfl, rfl, _, rfl⟩)) (hb hby d6_4) hr
  · show QV (some (.long x1)) h0 n0 _ T49.heap _
    rw [e49]
    exact ⟨rfl, N0, rfl⟩
set_option maxRecDepth 65536 in
set_option maxHeartbeats 40000000 in
theorem get_fencingToken (l : Launch) (Z : State) (a0 : Array Value) (hw : ∀ d ∈ tables_1, d.before a0 Z = true) (ws : List Jvm.Cond) (a_TAKEN : Addr) (G : Own Z a_TAKEN) (a1 : Addr) (x1 : Int64) (h0 : Heap) (n0 : Nat) (O0 : Old Z n0 h0) (F0 : Fld Z h0 a1 "com/example/setnix/setnix/io/Attempt" "fencingToken" "J" (.long x1)) :
    MetFree l y_5 (head1 (Jvm.Cond.code y_5 prog_3_method_10_code 1 (some .long) :: ws) ({ frames := 0, cells := 0, slots := 0, locals := 0 } : Room)) (fun a U => a = #[(.ref a1)] ∧ Z.Warmed39 U.vm ∧ U.heap = h0) (fun _ _ _ _ _ => True) (fun _ U o U' => ∃ v L, o = .returned v ∧ QV (some (.long x1)) h0 n0 v U'.heap L ∧ FrameEnd U o U' L ({ frames := 0, cells := 0, slots := 0, locals := 0 } : Room).cells ({ frames := 0, cells := 0, slots := 0, locals := 0 } : Room).slots) := by
  refine MetFree.of_bodySF (plainFor_of_name pn_1) hisR ?_
  intro p e s m args below meth c s₁ Bd hml0 hP hK
  obtain ⟨rfl, hZ, hh⟩ := hP
  have hx := Bd.exec
  have hby := Bd.bytes
  have hml : c.maxLocals = 1 := hml0
  have hown : s.vm.findClass "com/example/setnix/setnix/io/Attempt" = some m.cls := findClass_of_methodNamed Bd.named
  have hnm := (name_of_methodNamed Bd.named Bd.method).1
  have X0 : Stand p l e ({ frames := 0, cells := 0, slots := 0, locals := 0 } : Room) s m #[(.ref a1)] below meth c s₁ [] 0 0 := Stand.of_body Bd
  have e0 : s₁.heap = h0 := by rw [← hh, Bd.state]; rfl
  have N0 := Fr.nil n0
  have K0 := Keep.refl h0 []
  have k0 : Go p.tables e below (s₁.setTop (entryFrame m #[(.ref a1)] 1)) (s₁.setTop (mkF m 0 #[rv a1] [])) := fun t k => castTop (by first | rfl | (simp [entryFrame, mkF, argsToLocals, Value.category]; done)) k
  have ⟨S_TAKEN, E_TAKEN⟩ := G
  have k_51 : Go p.tables e below (s₁.setTop (entryFrame m #[(.ref a1)] 1)) (s₁.setTop (mkF m 1 #[rv a1] [(.ref a1)])) := fun t q => by
    refine k0 t ?_
    refine XS.aloadN X0.here hx rfl (hb hby d7_0) rfl rfl ?_
    show Steps _ _ _ (s₁.setTop (mkF m 1 #[rv a1] [(.ref a1)])) _
    exact q
  obtain ⟨T52, X52, e52, st52⟩ := getF X0 hx hZ hown (host := "") (Or.inl (hw _ (wd 24 rfl))) Via.refl e0 F0 (g := (mkF m 1 #[rv a1] [(.ref a1)])) rfl rfl (hb hby d7_1)
  have k_53 : Go p.tables e below (s₁.setTop (entryFrame m #[(.ref a1)] 1)) (T52.setTop (mkF m 4 #[rv a1] [(.long x1)])) := fun t q => by
    refine k_51 t ?_
    refine st52 _ ?_
    show Steps _ _ _ (T52.setTop (mkF m 4 #[rv a1] [(.long x1)])) _
    exact q
  obtain ⟨fs, hr, hrun, hended, hW, hsame⟩ := X52.leave (v := some (.long x1)) (fun h => by rw [Bd.returns] at h; cases h)
  refine ⟨_, _, k_53 _ ?_, hrun, hended, _, _, rfl, ?_, ⟨_, rfl⟩, hW, hsame.mono (by decide) (by decide)⟩
  · exact retOut X52 hx Bd.returns rfl (Or.inr (Or.inl ⟨rfl, rfl, _, rfl⟩)) (hb hby d7_4) hr
  · show QV (some (.long x1)) h0 n0 _ T52.heap _
    rw [e52]
    exact ⟨rfl, N0, rfl⟩
set_option maxRecDepth 65536 in
set_option maxHeartbeats 40000000 in
theorem held_TAKEN (l : Launch) (Z : State) (a0 : Array Value) (hw : ∀ d ∈ tables_1, d.before a0 Z = true) (ws : List Jvm.Cond) (a_TAKEN : Addr) (G : Own Z a_TAKEN) (a1 : Addr) (h0 : Heap) (n0 : Nat) (O0 : Old Z n0 h0) (F0 : Fld Z h0 a1 "com/example/setnix/setnix/io/Attempt" "outcome" "Lcom/example/setnix/setnix/io/Attempt$Outcome;" (.ref a_TAKEN)) :
    MetFree l y_6 (head1 (Jvm.Cond.code y_6 prog_3_method_4_code 1 (some .boolean) :: ws) ({ frames := 0, cells := 0, slots := 0, locals := 0 } : Room)) (fun a U => a = #[(.ref a1)] ∧ Z.Warmed39 U.vm ∧ U.heap = h0) (fun _ _ _ _ _ => True) (fun _ U o U' => ∃ v L, o = .returned v ∧ QV (some (.int 1)) h0 n0 v U'.heap L ∧ FrameEnd U o U' L ({ frames := 0, cells := 0, slots := 0, locals := 0 } : Room).cells ({ frames := 0, cells := 0, slots := 0, locals := 0 } : Room).slots) := by
  refine MetFree.of_bodySF (plainFor_of_name pn_1) hisR ?_
  intro p e s m args below meth c s₁ Bd hml0 hP hK
  obtain ⟨rfl, hZ, hh⟩ := hP
  have hx := Bd.exec
  have hby := Bd.bytes
  have hml : c.maxLocals = 1 := hml0
  have hown : s.vm.findClass "com/example/setnix/setnix/io/Attempt" = some m.cls := findClass_of_methodNamed Bd.named
  have hnm := (name_of_methodNamed Bd.named Bd.method).1
  have X0 : Stand p l e ({ frames := 0, cells := 0, slots := 0, locals := 0 } : Room) s m #[(.ref a1)] below meth c s₁ [] 0 0 := Stand.of_body Bd
  have e0 : s₁.heap = h0 := by rw [← hh, Bd.state]; rfl
  have N0 := Fr.nil n0
  have K0 := Keep.refl h0 []
  have k0 : Go p.tables e below (s₁.setTop (entryFrame m #[(.ref a1)] 1)) (s₁.setTop (mkF m 0 #[rv a1] [])) := fun t k => castTop (by first | rfl | (simp [entryFrame, mkF, argsToLocals, Value.category]; done)) k
  have ⟨S_TAKEN, E_TAKEN⟩ := G
  have k_54 : Go p.tables e below (s₁.setTop (entryFrame m #[(.ref a1)] 1)) (s₁.setTop (mkF m 1 #[rv a1] [(.ref a1)])) := fun t q => by
    refine k0 t ?_
    refine XS.aloadN X0.here hx rfl (hb hby d8_0) rfl rfl ?_
    show Steps _ _ _ (s₁.setTop (mkF m 1 #[rv a1] [(.ref a1)])) _
    exact q
  obtain ⟨T55, X55, e55, st55⟩ := getF X0 hx hZ hown (host := "") (Or.inl (hw _ (wd 20 rfl))) Via.refl e0 F0 (g := (mkF m 1 #[rv a1] [(.ref a1)])) rfl rfl (hb hby d8_1)
  have k_56 : Go p.tables e below (s₁.setTop (entryFrame m #[(.ref a1)] 1)) (T55.setTop (mkF m 4 #[rv a1] [(.ref a_TAKEN)])) := fun t q => by
    refine k_54 t ?_
    refine st55 _ ?_
    show Steps _ _ _ (T55.setTop (mkF m 4 #[rv a1] [(.ref a_TAKEN)])) _
    exact q
  obtain ⟨T57, X57, e57, st57⟩ := getS2 X55 hx hZ hown (host := "") (Or.inl (hw _ (wd 6 rfl))) Via.refl e55 (S_TAKEN.ext O0.2) (g := (mkF m 4 #[rv a1] [(.ref a_TAKEN)])) rfl (hb hby d8_4)
  have k_58 : Go p.tables e below (s₁.setTop (entryFrame m #[(.ref a1)] 1)) (T57.setTop (mkF m 25 #[rv a1] [(.int 1)])) := fun t q => by
    refine k_56 t ?_
    refine st57 _ ?_
    show Steps _ _ _ (T57.setTop (mkF m 7 #[rv a1] [(.ref a_TAKEN), (.ref a_TAKEN)])) _
    refine Jvm.RoadKit.acmp (g := (mkF m 7 #[rv a1] [(.ref a_TAKEN), (.ref a_TAKEN)])) X57 hx rfl rfl rfl (pc0 := 7) (pc' := 20) (same := true) rfl (hb hby d8_7) rfl (decide_eq_true rfl) (by decide) (by decide) ?_
    show Steps _ _ _ (T57.setTop (mkF m 20 #[rv a1] [])) _
    refine XS.iconst X57.here hx rfl (hb hby d8_20) ?_
    show Steps _ _ _ (T57.setTop (mkF m 21 #[rv a1] [(.int 1)])) _
    refine XS.goto X57.here hx rfl (pc0 := 21) (pc' := 25) rfl (hb hby d8_21) (by decide) (by decide) ?_
    show Steps _ _ _ (T57.setTop (mkF m 25 #[rv a1] [(.int 1)])) _
    exact q
  obtain ⟨fs, hr, hrun, hended, hW, hsame⟩ := X57.leave (v := some (.int 1)) (fun h => by rw [Bd.returns] at h; cases h)
  refine ⟨_, _, k_58 _ ?_, hrun, hended, _, _, rfl, ?_, ⟨_, rfl⟩, hW, hsame.mono (by decide) (by decide)⟩
  · exact retN X57 hx (t := .boolean) Bd.returns (by simp) (hb hby d8_25) hr
  · show QV (some (.int 1)) h0 n0 _ T57.heap _
    rw [e57]
    exact ⟨rfl, N0, rfl⟩
set_option maxRecDepth 65536 in
set_option maxHeartbeats 40000000 in
theorem rm0 (l : Launch) (Z : State) (a0 : Array Value) (hw : ∀ d ∈ tables_1, d.before a0 Z = true) (ws : List Jvm.Cond) (a_TAKEN : Addr) (G : Own Z a_TAKEN) (q1 : Int64) (h0 : Heap) (n0 : Nat) (O0 : Old Z n0 h0)  :
    MetFree l x (head1 (Jvm.Cond.code x code maxLocals ret :: ws) room_1) (fun a U => a = #[(.long q1)] ∧ Z.Warmed39 U.vm ∧ U.heap = h0) (fun _ _ _ _ _ => True) (fun _ U o U' => ∃ v L, o = .returned v ∧ Q0 n0 v U'.heap L ∧ FrameEnd U o U' L room_1.cells room_1.slots) := by
  refine MetFree.of_bodySF (plainFor_of_name pn_2) hisR ?_
  intro p e s m args below meth c s₁ Bd hml0 hP hK
  obtain ⟨rfl, hZ, hh⟩ := hP
  have hx := Bd.exec
  have hby := Bd.bytes
  have hml : c.maxLocals = 3 := hml0
  have hown : s.vm.findClass "com/example/setnix/setnix/io/AttemptTakenPinLaw" = some m.cls := findClass_of_methodNamed Bd.named
  have hnm := (name_of_methodNamed Bd.named Bd.method).1
  have X0 : Stand p l e room_1 s m #[(.long q1)] below meth c s₁ [] 0 0 := Stand.of_body Bd
  have e0 : s₁.heap = h0 := by rw [← hh, Bd.state]; rfl
  have N0 := Fr.nil n0
  have K0 := Keep.refl h0 []
  have k0 : Go p.tables e below (s₁.setTop (entryFrame m #[(.long q1)] maxLocals)) (s₁.setTop (mkF m 0 #[.val (.long q1), .second, .unset] [])) := fun t k => castTop (by first | rfl | (simp [entryFrame, mkF, argsToLocals, Value.category, maxLocals]; done)) k
  have ⟨S_TAKEN, E_TAKEN⟩ := G
  have k_59 : Go p.tables e below (s₁.setTop (entryFrame m #[(.long q1)] maxLocals)) (s₁.setTop (mkF m 1 #[.val (.long q1), .second, .unset] [(.long q1)])) := fun t q => by
    refine k0 t ?_
    refine XS.lloadN X0.here hx rfl (hb hby at_0) rfl ?_
    show Steps _ _ _ (s₁.setTop (mkF m 1 #[.val (.long q1), .second, .unset] [(.long q1)])) _
    exact q
  obtain ⟨_, _, ⟨T60, L60, k60, n60⟩, -, X60, ⟨Lc60, hQ60, l60, y60, z60⟩, st60⟩ := Jvm.LawKit.callS X0 hx (y := y_2) hown (mvT hZ (hw _ (wd 0 rfl))) (mvT hZ (hw _ (wd 1 rfl))) (mvT hZ (hw _ (wd 2 rfl))) (mvT hZ (hw _ (wd 3 rfl))) (by decide) (backOf (W := 0) (mk l Z a0 hw [] a_TAKEN G q1 h0 n0 O0 ) hZ (hw _ (wd 3 rfl)) (hw _ (wd 2 rfl)) (by decide) (by decide)) (g := (mkF m 1 #[.val (.long q1), .second, .unset] [(.long q1)])) rfl (by rw [hml]; rfl) (argsL := [(.long q1)]) (rest := []) (lenOf pd_2 rfl) rfl (by show 2 * 0 + _ ≤ _; exact Nat.le_of_eq rfl) (hb hby at_1) (fun _ _ => ⟨rfl, e0, (by decide : 0 + 1 ≤ _), (by decide : 0 + 3 ≤ _)⟩)
  dsimp only [Pt.U, Pt.locs, Pt.cells, Pt.slots] at X60 l60 y60 z60 st60 hQ60
  subst l60 y60 z60
  obtain ⟨b60, rfl, N60q, K60, g60, sz60, M60, I60_0, I60_1, I60_2⟩ := hQ60
  have N60 := Fr.app N0 N60q
  have O_61 := O0.keep K60 all0
  have K_62 := K0.trans K60 all0
  have sz_b60 : h0.size ≤ b60 := Nat.le_trans K0.1 sz60
  have k_63 : Go p.tables e below (s₁.setTop (entryFrame m #[(.long q1)] maxLocals)) (T60.setTop (mkF m 6 #[.val (.long q1), .second, rv b60] [(.ref b60)])) := fun t q => by
    refine k_59 t ?_
    refine st60 _ ?_
    show Steps _ _ _ (T60.setTop (mkF m 4 #[.val (.long q1), .second, .unset] [(.ref b60)])) _
    refine XS.astoreN X60.here hx rfl (hb hby at_4) rfl rfl (l' := #[.val (.long q1), .second, rv b60]) rfl ?_
    show Steps _ _ _ (T60.setTop (mkF m 5 #[.val (.long q1), .second, rv b60] [])) _
    refine XS.aloadN X60.here hx rfl (hb hby at_5) rfl rfl ?_
    show Steps _ _ _ (T60.setTop (mkF m 6 #[.val (.long q1), .second, rv b60] [(.ref b60)])) _
    exact q
  obtain ⟨cq64, kq64, q64a, q64b, q64c⟩ := isOf hZ (rfl : T60.heap = _) M60
  obtain ⟨_, _, ⟨T64, L64, k64, n64⟩, -, X64, ⟨Lc64, hQ64, l64, y64, z64⟩, st64⟩ := X60.virtualBack hx (y := y_3) (z := y_3) hown (mvT hZ (hw _ (wd 26 rfl))) (mvT hZ (hw _ (wd 27 rfl))) (notFace_of_selects (args := #[]) (mvT hZ (hw _ (wd 29 rfl)))) (mvT hZ (hw _ (wd 29 rfl))) (mvT hZ (hw _ (wd 28 rfl))) (by decide) (backOf (W := 0) (get_outcome l Z a0 hw [] a_TAKEN G b60 a_TAKEN T60.heap n0 O_61 I60_0) hZ (hw _ (wd 30 rfl)) (hw _ (wd 2 rfl)) (by decide) (by decide)) q64a q64c (g := (mkF m 6 #[.val (.long q1), .second, rv b60] [(.ref b60)])) rfl (by rw [hml]; rfl) (Steps.refl _) (argsL := []) (rest := []) (lenOf pd_3 rfl) rfl (by show 2 * 0 + _ ≤ _; exact Nat.le_of_eq rfl) (hb hby at_6) (fun _ _ => ⟨rfl, (rfl : T60.heap = _), (by decide : 1 + 0 ≤ _), (by decide : 3 + 0 ≤ _)⟩)
  dsimp only [Pt.U, Pt.locs, Pt.cells, Pt.slots] at X64 l64 y64 z64 st64 hQ64
  subst l64 y64 z64
  obtain ⟨rfl, N64q, e64⟩ := hQ64
  have N64 := Fr.app N60 N64q
  have k_65 : Go p.tables e below (s₁.setTop (entryFrame m #[(.long q1)] maxLocals)) (T64.setTop (mkF m 9 #[.val (.long q1), .second, rv b60] [(.ref a_TAKEN)])) := fun t q => by
    refine k_63 t ?_
    refine st64.trans ?_
    show Steps _ _ _ (T64.setTop (mkF m 9 #[.val (.long q1), .second, rv b60] [(.ref a_TAKEN)])) _
    exact q
  obtain ⟨T66, X66, e66, st66⟩ := getS2 X64 hx hZ hown (host := "") (Or.inl (hw _ (wd 31 rfl))) Via.refl e64 (S_TAKEN.ext O_61.2) (g := (mkF m 9 #[.val (.long q1), .second, rv b60] [(.ref a_TAKEN)])) rfl (hb hby at_9)
  have k_67 : Go p.tables e below (s₁.setTop (entryFrame m #[(.long q1)] maxLocals)) (T66.setTop (mkF m 16 #[.val (.long q1), .second, rv b60] [(.ref b60)])) := fun t q => by
    refine k_65 t ?_
    refine st66 _ ?_
    show Steps _ _ _ (T66.setTop (mkF m 12 #[.val (.long q1), .second, rv b60] [(.ref a_TAKEN), (.ref a_TAKEN)])) _
    refine Jvm.RoadKit.acmp (g := (mkF m 12 #[.val (.long q1), .second, rv b60] [(.ref a_TAKEN), (.ref a_TAKEN)])) X66 hx rfl rfl rfl (pc0 := 12) (pc' := 15) (same := true) rfl (hb hby at_12) rfl (decide_eq_true rfl) (by decide) (by decide) ?_
    show Steps _ _ _ (T66.setTop (mkF m 15 #[.val (.long q1), .second, rv b60] [])) _
    refine XS.aloadN X66.here hx rfl (hb hby at_15) rfl rfl ?_
    show Steps _ _ _ (T66.setTop (mkF m 16 #[.val (.long q1), .second, rv b60] [(.ref b60)])) _
    exact q
  obtain ⟨cq68, kq68, q68a, q68b, q68c⟩ := isOf hZ e66 M60
  obtain ⟨_, _, ⟨T68, L68, k68, n68⟩, -, X68, ⟨Lc68, hQ68, l68, y68, z68⟩, st68⟩ := X66.virtualBack hx (y := y_4) (z := y_4) hown (mvT hZ (hw _ (wd 32 rfl))) (mvT hZ (hw _ (wd 33 rfl))) (notFace_of_selects (args := #[]) (mvT hZ (hw _ (wd 35 rfl)))) (mvT hZ (hw _ (wd 35 rfl))) (mvT hZ (hw _ (wd 34 rfl))) (by decide) (backOf (W := 0) (get_holderLeaseMillis l Z a0 hw [] a_TAKEN G b60 (0 : Int64) T60.heap n0 O_61 I60_1) hZ (hw _ (wd 36 rfl)) (hw _ (wd 2 rfl)) (by decide) (by decide)) q68a q68c (g := (mkF m 16 #[.val (.long q1), .second, rv b60] [(.ref b60)])) rfl (by rw [hml]; rfl) (Steps.refl _) (argsL := []) (rest := []) (lenOf pd_4 rfl) rfl (by show 2 * 0 + _ ≤ _; exact Nat.le_of_eq rfl) (hb hby at_16) (fun _ _ => ⟨rfl, e66, (by decide : 1 + 0 ≤ _), (by decide : 3 + 0 ≤ _)⟩)
  dsimp only [Pt.U, Pt.locs, Pt.cells, Pt.slots] at X68 l68 y68 z68 st68 hQ68
  subst l68 y68 z68
  obtain ⟨rfl, N68q, e68⟩ := hQ68
  have N68 := Fr.app N64 N68q
  have k_69 : Go p.tables e below (s₁.setTop (entryFrame m #[(.long q1)] maxLocals)) (T68.setTop (mkF m 25 #[.val (.long q1), .second, rv b60] [(.ref b60)])) := fun t q => by
    refine k_67 t ?_
    refine st68.trans ?_
    show Steps _ _ _ (T68.setTop (mkF m 19 #[.val (.long q1), .second, rv b60] [(.long (0 : Int64))])) _
    refine XS.lconst X68.here hx rfl (hb hby at_19) ?_
    show Steps _ _ _ (T68.setTop (mkF m 20 #[.val (.long q1), .second, rv b60] [(.long (0 : Int64)), (.long (0 : Int64))])) _
    refine XS.lcmp X68.here hx rfl (hb hby at_20) rfl ?_
    show Steps _ _ _ (T68.setTop (mkF m 21 #[.val (.long q1), .second, rv b60] [(.int (lcmpW (0 : Int64) (0 : Int64)))])) _
    rw [own_lcmp_self]
    show Steps _ _ _ (T68.setTop (mkF m 21 #[.val (.long q1), .second, rv b60] [(.int 0)])) _
    refine XS.ifNo X68.here hx rfl (hb hby at_21) rfl (by decide) ?_
    show Steps _ _ _ (T68.setTop (mkF m 24 #[.val (.long q1), .second, rv b60] [])) _
    refine XS.aloadN X68.here hx rfl (hb hby at_24) rfl rfl ?_
    show Steps _ _ _ (T68.setTop (mkF m 25 #[.val (.long q1), .second, rv b60] [(.ref b60)])) _
    exact q
  obtain ⟨cq70, kq70, q70a, q70b, q70c⟩ := isOf hZ e68 M60
  obtain ⟨_, _, ⟨T70, L70, k70, n70⟩, -, X70, ⟨Lc70, hQ70, l70, y70, z70⟩, st70⟩ := X68.virtualBack hx (y := y_5) (z := y_5) hown (mvT hZ (hw _ (wd 37 rfl))) (mvT hZ (hw _ (wd 38 rfl))) (notFace_of_selects (args := #[]) (mvT hZ (hw _ (wd 40 rfl)))) (mvT hZ (hw _ (wd 40 rfl))) (mvT hZ (hw _ (wd 39 rfl))) (by decide) (backOf (W := 0) (get_fencingToken l Z a0 hw [] a_TAKEN G b60 q1 T60.heap n0 O_61 I60_2) hZ (hw _ (wd 41 rfl)) (hw _ (wd 2 rfl)) (by decide) (by decide)) q70a q70c (g := (mkF m 25 #[.val (.long q1), .second, rv b60] [(.ref b60)])) rfl (by rw [hml]; rfl) (Steps.refl _) (argsL := []) (rest := []) (lenOf pd_4 rfl) rfl (by show 2 * 0 + _ ≤ _; exact Nat.le_of_eq rfl) (hb hby at_25) (fun _ _ => ⟨rfl, e68, (by decide : 1 + 0 ≤ _), (by decide : 3 + 0 ≤ _)⟩)
  dsimp only [Pt.U, Pt.locs, Pt.cells, Pt.slots] at X70 l70 y70 z70 st70 hQ70
  subst l70 y70 z70
  obtain ⟨rfl, N70q, e70⟩ := hQ70
  have N70 := Fr.app N68 N70q
  have k_71 : Go p.tables e below (s₁.setTop (entryFrame m #[(.long q1)] maxLocals)) (T70.setTop (mkF m 34 #[.val (.long q1), .second, rv b60] [(.ref b60)])) := fun t q => by
    refine k_69 t ?_
    refine st70.trans ?_
    show Steps _ _ _ (T70.setTop (mkF m 28 #[.val (.long q1), .second, rv b60] [(.long q1)])) _
    refine XS.lloadN X70.here hx rfl (hb hby at_28) rfl ?_
    show Steps _ _ _ (T70.setTop (mkF m 29 #[.val (.long q1), .second, rv b60] [(.long q1), (.long q1)])) _
    refine XS.lcmp X70.here hx rfl (hb hby at_29) rfl ?_
    show Steps _ _ _ (T70.setTop (mkF m 30 #[.val (.long q1), .second, rv b60] [(.int (lcmpW q1 q1))])) _
    rw [own_lcmp_self]
    show Steps _ _ _ (T70.setTop (mkF m 30 #[.val (.long q1), .second, rv b60] [(.int 0)])) _
    refine XS.ifNo X70.here hx rfl (hb hby at_30) rfl (by decide) ?_
    show Steps _ _ _ (T70.setTop (mkF m 33 #[.val (.long q1), .second, rv b60] [])) _
    refine XS.aloadN X70.here hx rfl (hb hby at_33) rfl rfl ?_
    show Steps _ _ _ (T70.setTop (mkF m 34 #[.val (.long q1), .second, rv b60] [(.ref b60)])) _
    exact q
  obtain ⟨cq72, kq72, q72a, q72b, q72c⟩ := isOf hZ e70 M60
  obtain ⟨_, _, ⟨T72, L72, k72, n72⟩, -, X72, ⟨Lc72, hQ72, l72, y72, z72⟩, st72⟩ := X70.virtualBack hx (y := y_6) (z := y_6) hown (mvT hZ (hw _ (wd 42 rfl))) (mvT hZ (hw _ (wd 43 rfl))) (notFace_of_selects (args := #[]) (mvT hZ (hw _ (wd 45 rfl)))) (mvT hZ (hw _ (wd 45 rfl))) (mvT hZ (hw _ (wd 44 rfl))) (by decide) (backOf (W := 0) (held_TAKEN l Z a0 hw [] a_TAKEN G b60 T60.heap n0 O_61 I60_0) hZ (hw _ (wd 46 rfl)) (hw _ (wd 2 rfl)) (by decide) (by decide)) q72a q72c (g := (mkF m 34 #[.val (.long q1), .second, rv b60] [(.ref b60)])) rfl (by rw [hml]; rfl) (Steps.refl _) (argsL := []) (rest := []) (lenOf pd_5 rfl) rfl (by show 2 * 0 + _ ≤ _; exact Nat.le_of_eq rfl) (hb hby at_34) (fun _ _ => ⟨rfl, e70, (by decide : 1 + 0 ≤ _), (by decide : 3 + 0 ≤ _)⟩)
  dsimp only [Pt.U, Pt.locs, Pt.cells, Pt.slots] at X72 l72 y72 z72 st72 hQ72
  subst l72 y72 z72
  obtain ⟨rfl, N72q, e72⟩ := hQ72
  have N72 := Fr.app N70 N72q
  have k_73 : Go p.tables e below (s₁.setTop (entryFrame m #[(.long q1)] maxLocals)) (T72.setTop (mkF m 45 #[.val (.long q1), .second, rv b60] [(.int 1)])) := fun t q => by
    refine k_71 t ?_
    refine st72.trans ?_
    show Steps _ _ _ (T72.setTop (mkF m 37 #[.val (.long q1), .second, rv b60] [(.int 1)])) _
    refine XS.ifNo X72.here hx rfl (hb hby at_37) rfl (by decide) ?_
    show Steps _ _ _ (T72.setTop (mkF m 40 #[.val (.long q1), .second, rv b60] [])) _
    refine XS.iconst X72.here hx rfl (hb hby at_40) ?_
    show Steps _ _ _ (T72.setTop (mkF m 41 #[.val (.long q1), .second, rv b60] [(.int 1)])) _
    refine XS.goto X72.here hx rfl (pc0 := 41) (pc' := 45) rfl (hb hby at_41) (by decide) (by decide) ?_
    show Steps _ _ _ (T72.setTop (mkF m 45 #[.val (.long q1), .second, rv b60] [(.int 1)])) _
    exact q
  obtain ⟨fs, hr, hrun, hended, hW, hsame⟩ := X72.leave (v := some (.int 1)) (fun h => by rw [Bd.returns] at h; cases h)
  refine ⟨_, _, k_73 _ ?_, hrun, hended, _, _, rfl, ?_, ⟨_, rfl⟩, hW, hsame.mono (by decide) (by decide)⟩
  · exact retN X72 hx (t := .boolean) Bd.returns (by simp) (hb hby at_45) hr
  · show Q0 n0 _ T72.heap _
    rw [e72]
    exact ⟨rfl, N72⟩
set_option maxRecDepth 65536 in
set_option maxHeartbeats 40000000 in
theorem comes_1 {Post : Tables → Env → Array Value → State → Outcome → State → Prop} (hpost : ∀ tb e args s v u, (limb_1_1.after args s (.returned v) u = true ∧ limb_1_2.after args s (.returned v) u = true ∧ True) → FrameEnd s (.returned v) u (Jvm.fieldLocs frame_1_writes args s ++ Jvm.arrayLocs frame_1_arrays args s ++ Jvm.staticLocs frame_1_statics s) 16 128 → Post tb e args s (.returned v) u) :
    ArmFor flags0 classFile x code maxLocals ret World_1 tables_1 room_1 Calls_1 rest_1 Pre_1 Post := by
  intro l hfl _ _ p e ha hc hk s m args below hf hA hF happ hP
  obtain ⟨hcalls, hrest, hpre⟩ := hP
  obtain ⟨-, -, -, hnamed, -, -, -, hat⟩ := (Spec.applies_iff hf).mp happ
  obtain ⟨hg, hn⟩ := and_e (Cond.before_iff.mp (show (Jvm.Cond.and given_1 narrow_1).before args s = true from hpre))
  obtain ⟨g0, c0⟩ := and_e hg
  obtain ⟨w0, rfl⟩ : ∃ w0 : Value, args = #[w0] := by
    have hs : args.size = 1 := by simpa [Cond.value, given_1] using g0
    obtain ⟨L⟩ := args
    match L, hs with
    | [w0], _ => exact ⟨w0, rfl⟩
  have hw := fun d (hd : d ∈ tables_1) => atoms_spec (ws := Jvm.Cond.code x code maxLocals ret :: tables_1) hat d (List.mem_cons_of_mem _ hd)
  obtain ⟨i0, ei0⟩ := isL_v c0
  obtain rfl : w0 = (.long i0) := Option.some.inj ei0
  obtain ⟨a_TAKEN, v_TAKEN⟩ := exa_v hn
  have E_TAKEN := Exa.start v_TAKEN hn
  have S_TAKEN := Sta.start v_TAKEN (Or.inr ⟨(hw _ (wd 7 rfl)), (hw _ (wd 8 rfl))⟩)
  have G : Own s a_TAKEN := ⟨S_TAKEN, E_TAKEN⟩
  obtain ⟨n, o, h1, h2, h3, _, L, rfl, ⟨rfl, N⟩, hq⟩ := rm0 l s _ hw tables_1 a_TAKEN G i0 s.heap s.heap.size (Old.start s) p e ha hc hk s m _ below hf ((Spec.applies_iff_loose hf).mp happ).1 ⟨rfl, State.Warmed39.refl s, rfl⟩ trivial
  refine ⟨n, _, h1, h2, h3, hpost _ _ _ _ _ _ ⟨Cond.after_iff.mpr rfl, Cond.after_iff.mpr (eq_i res_at (Term.int_eval (1)) rfl), trivial⟩ ⟨hq.1, hq.2.1, (hq.2.2.sift fun y hy => Or.inr (N y hy)).mono (by decide) (by decide)⟩⟩
theorem main_1_1 : Claimed_1_1 := comes_1 fun _ _ _ _ _ _ h hF => ⟨h.1, hF⟩
theorem main_1_2 : Claimed_1_2 := comes_1 fun _ _ _ _ _ _ h hF => ⟨h.2.1, hF⟩
end Jvm.Pilot.@@N@@
namespace Jvm.Pilot.@@N@@
open Jvm Jvm.ClassFile Sem Op Lib Jvm.Free Jvm.Stand Jvm.Pilot.@@N@@.Jvm.D
/-! MADE BY PROGRAM (witnessworld.py) out of the Statement's table words and the real class files: 14 classes; the members and pool entries that the words name. The judged class is class 1, her method 1. -/
namespace start1
open Jvm.ClassFile
def u (s : String) : CpInfo := .utf8 (stringToUtf16 s)
/-- a pool by its gaps: so many unusable entries, then the entry; so many at the end -/
def gap : Nat → List CpInfo → List CpInfo
  | 0, r => r
  | n + 1, r => .unusable :: gap n r
def poolList (es : List (Nat × CpInfo)) (last : Nat) : List CpInfo := es.foldr (fun e r => gap e.1 (e.2 :: r)) (gap last [])
def pool (es : List (Nat × CpInfo)) (last : Nat) : Array CpInfo := ⟨poolList es last⟩
def fileOf (pool : Array CpInfo) (this : Nat) (attrs : Array Attribute := #[]) (ms : Array MethodInfo := #[]) (fl : Nat := 33) (sup : Nat := 0) (ifs : Array Nat := #[]) (fds : Array FieldInfo := #[]) : ClassFile where
  minorVersion := 0
  majorVersion := 65
  constantPool := pool
  accessFlags := fl
  thisClass := this
  superClass := sup
  interfaces := ifs
  fields := fds
  methods := ms
  attributes := attrs
def plain (name : String) (sup : Option ClassId) : Class where
  name := name
  kind := .ordinary
  loader := none
  accessFlags := 33
  super := sup
  interfaces := #[]
  cf := none
  fields := #[]
  methods := #[]
  instanceTypes := #[]
  staticTypes := #[]
  resolved := #[]
  callSites := []
  init := .initialized
  statics := none
  mirror := none

def pool0 : Array CpInfo := pool [(5, u "<init>"), (0, u "()V"), (1, .class_ 10), (1, u "java/lang/Object")] 113

def k0c0 : Code := { maxStack := 0, maxLocals := 1, code := object_method_1_code, exceptionTable := #[], attributes := #[] }
def k0m0 : Method := { name := "<init>", desc := "()V", sig := { parameters := [], returnType := none }, accessFlags := 1, code := some k0c0 }
/-- java/lang/Object -/
def k0 : Class := { plain "java/lang/Object" none with
  accessFlags := 33
  interfaces := #[]
  cf := some (fileOf pool0 8 #[] #[{ accessFlags := 1, nameIndex := 5, descriptorIndex := 6, attributes := #[] }] 33 0 #[] #[])
  fields := #[]
  methods := #[k0m0]
  instanceTypes := #[]
  staticTypes := #[]
  resolved := Array.replicate 124 none
  statics := none }

def pool1 : Array CpInfo := pool [(2, .class_ 4), (1, u "java/lang/Object"), (0, u "<init>"), (0, u "()V"), (0, .methodref 8 9), (0, .class_ 10), (0, .nameAndType 11 12), (0, u "com/example/setnix/setnix/io/Attempt"), (0, u "taken"), (0, u "(J)Lcom/example/setnix/setnix/io/Attempt;"), (0, .methodref 8 14), (0, .nameAndType 15 16), (0, u "outcome"), (0, u "()Lcom/example/setnix/setnix/io/Attempt$Outcome;"), (0, .fieldref 18 19), (0, .class_ 20), (0, .nameAndType 21 22), (0, u "com/example/setnix/setnix/io/Attempt$Outcome"), (0, u "TAKEN"), (0, u "Lcom/example/setnix/setnix/io/Attempt$Outcome;"), (0, .methodref 8 24), (0, .nameAndType 25 26), (0, u "holderLeaseMillis"), (0, u "()J"), (0, .methodref 8 28), (0, .nameAndType 29 26), (0, u "fencingToken"), (0, .methodref 8 31), (0, .nameAndType 32 33), (0, u "held"), (0, u "()Z"), (0, .class_ 35), (0, u "com/example/setnix/setnix/io/AttemptTakenPinLaw"), (2, u "law"), (0, u "(J)Z")] 5

def k1m0 : Method := { name := "<init>", desc := "()V", sig := { parameters := [], returnType := none }, accessFlags := 1, code := none }
def k1c1 : Code := { maxStack := 4, maxLocals := 3, code := code, exceptionTable := #[], attributes := #[] }
def k1m1 : Method := { name := "law", desc := "(J)Z", sig := { parameters := [.long], returnType := some .boolean }, accessFlags := 9, code := some k1c1 }
/-- com/example/setnix/setnix/io/AttemptTakenPinLaw -/
def k1 : Class := { plain "com/example/setnix/setnix/io/AttemptTakenPinLaw" (some 0) with
  accessFlags := 49
  interfaces := #[]
  cf := some (fileOf pool1 34 #[] #[{ accessFlags := 1, nameIndex := 5, descriptorIndex := 6, attributes := #[] }, { accessFlags := 9, nameIndex := 38, descriptorIndex := 39, attributes := #[] }] 49 2 #[] #[])
  fields := #[]
  methods := #[k1m0, k1m1]
  instanceTypes := #[]
  staticTypes := #[]
  resolved := Array.replicate 45 none
  statics := none }

def pool2 : Array CpInfo := pool [(1, .methodref 2 3), (0, .class_ 4), (0, .nameAndType 5 6), (0, u "java/lang/Object"), (0, u "<init>"), (0, u "()V"), (0, .class_ 8), (0, u "java/lang/Record")] 13

def k2c0 : Code := { maxStack := 1, maxLocals := 1, code := jdk_30_method_1_code, exceptionTable := #[], attributes := #[] }
def k2m0 : Method := { name := "<init>", desc := "()V", sig := { parameters := [], returnType := none }, accessFlags := 4, code := some k2c0 }
/-- java/lang/Record -/
def k2 : Class := { plain "java/lang/Record" (some 0) with
  accessFlags := 1057
  interfaces := #[]
  cf := some (fileOf pool2 7 #[] #[{ accessFlags := 4, nameIndex := 5, descriptorIndex := 6, attributes := #[] }] 1057 2 #[] #[])
  fields := #[]
  methods := #[k2m0]
  instanceTypes := #[]
  staticTypes := #[]
  resolved := Array.replicate 22 none
  statics := none }

def pool3 : Array CpInfo := pool [(1, .methodref 2 3), (0, .class_ 4), (0, .nameAndType 5 6), (0, u "java/lang/Record"), (0, u "<init>"), (0, u "()V"), (0, .fieldref 8 9), (0, .class_ 10), (0, .nameAndType 11 12), (0, u "com/example/setnix/setnix/io/Attempt"), (0, u "outcome"), (0, u "Lcom/example/setnix/setnix/io/Attempt$Outcome;"), (0, .fieldref 8 14), (0, .nameAndType 15 16), (0, u "holderLeaseMillis"), (0, u "J"), (0, .fieldref 8 18), (0, .nameAndType 19 16), (0, u "fencingToken"), (0, .fieldref 21 22), (0, .class_ 23), (0, .nameAndType 24 12), (0, u "com/example/setnix/setnix/io/Attempt$Outcome"), (0, u "TAKEN"), (0, .methodref 8 26), (0, .nameAndType 5 27), (0, u "(Lcom/example/setnix/setnix/io/Attempt$Outcome;JJ)V"), (20, u "FREE"), (2, u "Lcom/example/setnix/setnix/io/Attempt;"), (3, u "taken"), (0, u "(J)Lcom/example/setnix/setnix/io/Attempt;"), (1, u "held"), (0, u "()Z"), (4, u "()Lcom/example/setnix/setnix/io/Attempt$Outcome;"), (0, u "()J")] 25

def k3c0 : Code := { maxStack := 3, maxLocals := 6, code := prog_3_method_1_code, exceptionTable := #[], attributes := #[] }
def k3m0 : Method := { name := "<init>", desc := "(Lcom/example/setnix/setnix/io/Attempt$Outcome;JJ)V", sig := { parameters := [(.object "com/example/setnix/setnix/io/Attempt$Outcome"), .long, .long], returnType := none }, accessFlags := 1, code := some k3c0 }
def k3c1 : Code := { maxStack := 7, maxLocals := 2, code := prog_3_method_2_code, exceptionTable := #[], attributes := #[] }
def k3m1 : Method := { name := "taken", desc := "(J)Lcom/example/setnix/setnix/io/Attempt;", sig := { parameters := [.long], returnType := some (.object "com/example/setnix/setnix/io/Attempt") }, accessFlags := 8, code := some k3c1 }
def k3c2 : Code := { maxStack := 2, maxLocals := 1, code := prog_3_method_4_code, exceptionTable := #[], attributes := #[] }
def k3m2 : Method := { name := "held", desc := "()Z", sig := { parameters := [], returnType := some .boolean }, accessFlags := 1, code := some k3c2 }
def k3c3 : Code := { maxStack := 1, maxLocals := 1, code := prog_3_method_8_code, exceptionTable := #[], attributes := #[] }
def k3m3 : Method := { name := "outcome", desc := "()Lcom/example/setnix/setnix/io/Attempt$Outcome;", sig := { parameters := [], returnType := some (.object "com/example/setnix/setnix/io/Attempt$Outcome") }, accessFlags := 1, code := some k3c3 }
def k3c4 : Code := { maxStack := 2, maxLocals := 1, code := prog_3_method_9_code, exceptionTable := #[], attributes := #[] }
def k3m4 : Method := { name := "holderLeaseMillis", desc := "()J", sig := { parameters := [], returnType := some .long }, accessFlags := 1, code := some k3c4 }
def k3c5 : Code := { maxStack := 2, maxLocals := 1, code := prog_3_method_10_code, exceptionTable := #[], attributes := #[] }
def k3m5 : Method := { name := "fencingToken", desc := "()J", sig := { parameters := [], returnType := some .long }, accessFlags := 1, code := some k3c5 }
/-- com/example/setnix/setnix/io/Attempt -/
def k3 : Class := { plain "com/example/setnix/setnix/io/Attempt" (some 2) with
  accessFlags := 49
  interfaces := #[]
  cf := some (fileOf pool3 8 #[.nestMembers #[21]] #[{ accessFlags := 1, nameIndex := 5, descriptorIndex := 27, attributes := #[] }, { accessFlags := 8, nameIndex := 55, descriptorIndex := 56, attributes := #[] }, { accessFlags := 1, nameIndex := 58, descriptorIndex := 59, attributes := #[] }, { accessFlags := 1, nameIndex := 11, descriptorIndex := 64, attributes := #[] }, { accessFlags := 1, nameIndex := 15, descriptorIndex := 65, attributes := #[] }, { accessFlags := 1, nameIndex := 19, descriptorIndex := 65, attributes := #[] }] 49 2 #[] #[{ accessFlags := 18, nameIndex := 11, descriptorIndex := 12, attributes := #[] }, { accessFlags := 18, nameIndex := 15, descriptorIndex := 16, attributes := #[] }, { accessFlags := 18, nameIndex := 19, descriptorIndex := 16, attributes := #[] }, { accessFlags := 24, nameIndex := 48, descriptorIndex := 51, attributes := #[] }])
  fields := #[{ name := "outcome", type := (.object "com/example/setnix/setnix/io/Attempt$Outcome"), accessFlags := 18, slot := 0, constantValue := 0 }, { name := "holderLeaseMillis", type := .long, accessFlags := 18, slot := 1, constantValue := 0 }, { name := "fencingToken", type := .long, accessFlags := 18, slot := 2, constantValue := 0 }, { name := "FREE", type := (.object "com/example/setnix/setnix/io/Attempt"), accessFlags := 24, slot := 0, constantValue := 0 }]
  methods := #[k3m0, k3m1, k3m2, k3m3, k3m4, k3m5]
  instanceTypes := #[(.object "com/example/setnix/setnix/io/Attempt$Outcome"), .long, .long]
  staticTypes := #[(.object "com/example/setnix/setnix/io/Attempt")]
  resolved := Array.replicate 91 none
  statics := none }

def pool4 : Array CpInfo := pool [(1, .class_ 2), (0, u "java/lang/constant/Constable"), (0, .class_ 4), (0, u "java/lang/Object")] 6

/-- java/lang/constant/Constable -/
def k4 : Class := { plain "java/lang/constant/Constable" (some 0) with
  accessFlags := 1537
  interfaces := #[]
  cf := some (fileOf pool4 1 #[] #[] 1537 3 #[] #[])
  fields := #[]
  methods := #[]
  instanceTypes := #[]
  staticTypes := #[]
  resolved := Array.replicate 11 none
  statics := none }

def pool5 : Array CpInfo := pool [(1, .class_ 2), (0, u "java/lang/Comparable"), (0, .class_ 4), (0, u "java/lang/Object")] 7

/-- java/lang/Comparable -/
def k5 : Class := { plain "java/lang/Comparable" (some 0) with
  accessFlags := 1537
  interfaces := #[]
  cf := some (fileOf pool5 1 #[] #[] 1537 3 #[] #[])
  fields := #[]
  methods := #[]
  instanceTypes := #[]
  staticTypes := #[]
  resolved := Array.replicate 12 none
  statics := none }

def pool6 : Array CpInfo := pool [(1, .class_ 2), (0, u "java/io/Serializable"), (0, .class_ 4), (0, u "java/lang/Object")] 2

/-- java/io/Serializable -/
def k6 : Class := { plain "java/io/Serializable" (some 0) with
  accessFlags := 1537
  interfaces := #[]
  cf := some (fileOf pool6 1 #[] #[] 1537 3 #[] #[])
  fields := #[]
  methods := #[]
  instanceTypes := #[]
  staticTypes := #[]
  resolved := Array.replicate 7 none
  statics := none }

def pool7 : Array CpInfo := pool [(2, .class_ 4), (1, u "java/lang/Enum"), (0, u "name"), (0, u "Ljava/lang/String;"), (2, u "ordinal"), (0, u "I"), (1, .class_ 14), (1, u "java/lang/Object"), (4, u "hash"), (86, .class_ 108), (1, u "java/lang/Enum$EnumDesc"), (2, .class_ 112), (0, u "java/lang/constant/Constable"), (0, .class_ 114), (0, u "java/lang/Comparable"), (0, .class_ 116), (0, u "java/io/Serializable")] 87

/-- java/lang/Enum -/
def k7 : Class := { plain "java/lang/Enum" (some 0) with
  accessFlags := 1057
  interfaces := #[4, 5, 6]
  cf := some (fileOf pool7 2 #[.nestMembers #[106]] #[] 1057 12 #[111, 113, 115] #[{ accessFlags := 18, nameIndex := 5, descriptorIndex := 6, attributes := #[] }, { accessFlags := 18, nameIndex := 9, descriptorIndex := 10, attributes := #[] }, { accessFlags := 2, nameIndex := 19, descriptorIndex := 10, attributes := #[] }])
  fields := #[{ name := "name", type := (.object "java/lang/String"), accessFlags := 18, slot := 0, constantValue := 0 }, { name := "ordinal", type := .int, accessFlags := 18, slot := 1, constantValue := 0 }, { name := "hash", type := .int, accessFlags := 2, slot := 2, constantValue := 0 }]
  methods := #[]
  instanceTypes := #[(.object "java/lang/String"), .int, .int]
  staticTypes := #[]
  resolved := Array.replicate 204 none
  statics := none }

def pool8 : Array CpInfo := pool [(1, .class_ 2), (0, u "com/example/setnix/setnix/io/Attempt$Outcome"), (2, u "TAKEN"), (0, u "Lcom/example/setnix/setnix/io/Attempt$Outcome;"), (2, u "ALREADY_HELD"), (2, u "REFUSED"), (2, u "FREE"), (2, u "$VALUES"), (0, u "[Lcom/example/setnix/setnix/io/Attempt$Outcome;"), (6, .class_ 28), (1, u "java/lang/Enum"), (27, .class_ 57), (0, u "com/example/setnix/setnix/io/Attempt")] 2

/-- com/example/setnix/setnix/io/Attempt$Outcome -/
def k8 : Class := { plain "com/example/setnix/setnix/io/Attempt$Outcome" (some 7) with
  accessFlags := 16433
  interfaces := #[]
  cf := some (fileOf pool8 1 #[.nestHost 56] #[] 16433 26 #[] #[{ accessFlags := 16409, nameIndex := 5, descriptorIndex := 6, attributes := #[] }, { accessFlags := 16409, nameIndex := 9, descriptorIndex := 6, attributes := #[] }, { accessFlags := 16409, nameIndex := 12, descriptorIndex := 6, attributes := #[] }, { accessFlags := 16409, nameIndex := 15, descriptorIndex := 6, attributes := #[] }, { accessFlags := 4122, nameIndex := 18, descriptorIndex := 19, attributes := #[] }])
  fields := #[{ name := "TAKEN", type := (.object "com/example/setnix/setnix/io/Attempt$Outcome"), accessFlags := 16409, slot := 0, constantValue := 0 }, { name := "ALREADY_HELD", type := (.object "com/example/setnix/setnix/io/Attempt$Outcome"), accessFlags := 16409, slot := 1, constantValue := 0 }, { name := "REFUSED", type := (.object "com/example/setnix/setnix/io/Attempt$Outcome"), accessFlags := 16409, slot := 2, constantValue := 0 }, { name := "FREE", type := (.object "com/example/setnix/setnix/io/Attempt$Outcome"), accessFlags := 16409, slot := 3, constantValue := 0 }, { name := "$VALUES", type := (.array (.object "com/example/setnix/setnix/io/Attempt$Outcome")), accessFlags := 4122, slot := 4, constantValue := 0 }]
  methods := #[]
  instanceTypes := #[(.object "java/lang/String"), .int, .int]
  staticTypes := #[(.object "com/example/setnix/setnix/io/Attempt$Outcome"), (.object "com/example/setnix/setnix/io/Attempt$Outcome"), (.object "com/example/setnix/setnix/io/Attempt$Outcome"), (.object "com/example/setnix/setnix/io/Attempt$Outcome"), (.array (.object "com/example/setnix/setnix/io/Attempt$Outcome"))]
  resolved := Array.replicate 60 none
  statics := some 0 }

def pool9 : Array CpInfo := pool [(1, u "java/lang/Cloneable"), (0, .class_ 1), (0, u "java/lang/Object"), (0, .class_ 3)] 3

/-- java/lang/Cloneable -/
def k9 : Class := { plain "java/lang/Cloneable" (some 0) with
  accessFlags := 1537
  interfaces := #[]
  cf := some (fileOf pool9 2 #[] #[] 1537 4 #[] #[])
  fields := #[]
  methods := #[]
  instanceTypes := #[]
  staticTypes := #[]
  resolved := Array.replicate 8 none
  statics := none }

/-- the primitive byte -/
def k10 : Class := { plain "byte" none with kind := .primitive 'B', accessFlags := 0x411 }
/-- [B -/
def k11 : Class := { plain "[B" (some 0) with kind := .array 10 .byte, interfaces := #[9, 6], accessFlags := 1041 }

/-- the primitive int -/
def k12 : Class := { plain "int" none with kind := .primitive 'I', accessFlags := 0x411 }
/-- [I -/
def k13 : Class := { plain "[I" (some 0) with kind := .array 12 .int, interfaces := #[9, 6], accessFlags := 1041 }

def heap : Heap := #[{ cls := 8, slots := #[.ref 1, .null, .null, .null, .null], vm := .statics 8 },
  { cls := 8, slots := #[.null, .int 0, .int 0], vm := .none }]
def classes : Array Class := #[k0, k1, k2, k3, k4, k5, k6, k7, k8, k9, k10, k11, k12, k13]
def interned : List (Array UInt16 × Addr) := []
def slotsUsed : Nat := 8
def theMethod : MethodId := ⟨1, 1⟩
def args0 : Array Value := #[.long 5]
def aboutOver (below : List Frame) : State where
  vm := { classes := classes, interned := interned.toArray }
  heap := heap
  slotsUsed := slotsUsed
  threads := #[{ frames := .invoking theMethod args0 :: below }]
def below0 : List Frame := [.native { method := ⟨0, 0⟩, args := #[] }]
def about1 : State := aboutOver below0
def p0 : Program := .bare "" "" ""
def e0 : Env := launch0.env 0 0 0
theorem w_frames : about1.frames = Frame.invoking theMethod args0 :: below0 := rfl
set_option maxRecDepth 65536 in
theorem w_args : argsFit about1.vm theMethod args0 = true := by decide +kernel
set_option maxRecDepth 65536 in
theorem w_heap : heapFits about1 = true := by decide +kernel
set_option maxRecDepth 65536 in
theorem w_runnable : about1.curStatus? = some .runnable := by decide +kernel
set_option maxRecDepth 65536 in
theorem w_alone : about1.alone = true := by decide +kernel
set_option maxRecDepth 65536 in
theorem w_named : about1.methodNamed? x = some theMethod := by decide +kernel
set_option maxRecDepth 65536 in
theorem w_hears : about1.hears theMethod below0 = true := by decide +kernel
set_option maxRecDepth 65536 in
theorem w_ripe : about1.ripe theMethod args0 below0 = true := by decide +kernel
theorem w_running : about1.status = .running := rfl
set_option maxRecDepth 65536 in
theorem w_room : about1.hasRoom e0.platform room_1 = true :=
  launch0.hasRoom_least _ room_1 (by decide +kernel) (by decide +kernel) (by decide +kernel) (by decide +kernel) (by decide +kernel) (by decide +kernel)
theorem allAtoms_all (ts : List Jvm.Cond) (a : Array Jvm.Value) (st : Jvm.State) : (allAtoms ts).before a st = ts.all (fun c => c.before a st) := by
  induction ts with
  | nil => rfl
  | cons c t ih =>
    show (Jvm.Cond.and c (allAtoms t)).before a st = _
    rw [Jvm.Cond.before_and, ih, List.all_cons]
def words1 : List Jvm.Cond := Jvm.Cond.code x code maxLocals ret :: tables_1
/-- a 'code' word, met by the world's own term for the bytes: nothing is compared byte by byte -/
theorem code_word {y : MethodName} {bytes : ByteArray} {mx : Nat} {rt : Option FieldType} {a : Array Value} {s : State} {m : MethodId} {meth : Method} {c : Code} (h1 : s.methodNamed? y = some m) (h2 : s.vm.method? m = some meth) (h3 : meth.code = some c) (h4 : c.code = bytes)
    (h5 : (c.maxLocals == mx && c.exceptionTable.isEmpty && decide (c.maxStack ≤ mostOperands) && decide (meth.sig.returnType = rt) && !meth.locks && decide (parseMethodDescriptor y.desc = some meth.sig)) = true) : (Jvm.Cond.code y bytes mx rt).before a s = true := by
  simp only [Bool.and_eq_true, beq_iff_eq, Bool.not_eq_true', decide_eq_true_eq] at h5
  obtain ⟨⟨⟨⟨⟨g1, g2⟩, g3⟩, g4⟩, g5⟩, g6⟩ := h5
  simp [Cond.before, Cond.holds, Cond.value, h1, h2, h3, h4, g1, g2, g3, g4, g5, g6]
def isCode : Jvm.Cond → Bool
  | .code _ _ _ _ => true
  | _ => false
theorem all_split {L : List Jvm.Cond} {P : Jvm.Cond → Bool} (h1 : L.all (fun c => isCode c || P c) = true) (h2 : ∀ c ∈ L.filter isCode, P c = true) : L.all P = true := by
  refine List.all_eq_true.mpr fun c hc => ?_
  have h := List.all_eq_true.mp h1 c hc
  rcases Bool.eq_false_or_eq_true (isCode c) with hi | hi
  · exact h2 c (List.mem_filter.mpr ⟨hc, hi⟩)
  · simpa [hi] using h
set_option maxRecDepth 65536 in
theorem w_c0 : (Jvm.Cond.code x code maxLocals ret).before args0 about1 = true := code_word (m := ⟨1, 1⟩) (meth := k1m1) (c := k1c1) (by decide +kernel) rfl rfl rfl (by decide +kernel)
set_option maxRecDepth 65536 in
theorem w_c1 : (Jvm.Cond.code ({ cls := "com/example/setnix/setnix/io/Attempt", name := "taken", desc := "(J)Lcom/example/setnix/setnix/io/Attempt;" } : Jvm.MethodName) prog_3_method_2_code (2 : Nat) (Option.some (Jvm.ClassFile.FieldType.object "com/example/setnix/setnix/io/Attempt"))).before args0 about1 = true := code_word (m := ⟨3, 1⟩) (meth := k3m1) (c := k3c1) (by decide +kernel) rfl rfl rfl (by decide +kernel)
set_option maxRecDepth 65536 in
theorem w_c2 : (Jvm.Cond.code ({ cls := "com/example/setnix/setnix/io/Attempt", name := "<init>", desc := "(Lcom/example/setnix/setnix/io/Attempt$Outcome;JJ)V" } : Jvm.MethodName) prog_3_method_1_code (6 : Nat) (Option.none : Option Jvm.ClassFile.FieldType)).before args0 about1 = true := code_word (m := ⟨3, 0⟩) (meth := k3m0) (c := k3c0) (by decide +kernel) rfl rfl rfl (by decide +kernel)
set_option maxRecDepth 65536 in
theorem w_c3 : (Jvm.Cond.code ({ cls := "java/lang/Record", name := "<init>", desc := "()V" } : Jvm.MethodName) jdk_30_method_1_code (1 : Nat) (Option.none : Option Jvm.ClassFile.FieldType)).before args0 about1 = true := code_word (m := ⟨2, 0⟩) (meth := k2m0) (c := k2c0) (by decide +kernel) rfl rfl rfl (by decide +kernel)
set_option maxRecDepth 65536 in
theorem w_c4 : (Jvm.Cond.code ({ cls := "java/lang/Object", name := "<init>", desc := "()V" } : Jvm.MethodName) object_method_1_code (1 : Nat) (Option.none : Option Jvm.ClassFile.FieldType)).before args0 about1 = true := code_word (m := ⟨0, 0⟩) (meth := k0m0) (c := k0c0) (by decide +kernel) rfl rfl rfl (by decide +kernel)
set_option maxRecDepth 65536 in
theorem w_c5 : (Jvm.Cond.code ({ cls := "com/example/setnix/setnix/io/Attempt", name := "outcome", desc := "()Lcom/example/setnix/setnix/io/Attempt$Outcome;" } : Jvm.MethodName) prog_3_method_8_code (1 : Nat) (Option.some (Jvm.ClassFile.FieldType.object "com/example/setnix/setnix/io/Attempt$Outcome"))).before args0 about1 = true := code_word (m := ⟨3, 3⟩) (meth := k3m3) (c := k3c3) (by decide +kernel) rfl rfl rfl (by decide +kernel)
set_option maxRecDepth 65536 in
theorem w_c6 : (Jvm.Cond.code ({ cls := "com/example/setnix/setnix/io/Attempt", name := "holderLeaseMillis", desc := "()J" } : Jvm.MethodName) prog_3_method_9_code (1 : Nat) (Option.some Jvm.ClassFile.FieldType.long)).before args0 about1 = true := code_word (m := ⟨3, 4⟩) (meth := k3m4) (c := k3c4) (by decide +kernel) rfl rfl rfl (by decide +kernel)
set_option maxRecDepth 65536 in
theorem w_c7 : (Jvm.Cond.code ({ cls := "com/example/setnix/setnix/io/Attempt", name := "fencingToken", desc := "()J" } : Jvm.MethodName) prog_3_method_10_code (1 : Nat) (Option.some Jvm.ClassFile.FieldType.long)).before args0 about1 = true := code_word (m := ⟨3, 5⟩) (meth := k3m5) (c := k3c5) (by decide +kernel) rfl rfl rfl (by decide +kernel)
set_option maxRecDepth 65536 in
theorem w_c8 : (Jvm.Cond.code ({ cls := "com/example/setnix/setnix/io/Attempt", name := "held", desc := "()Z" } : Jvm.MethodName) prog_3_method_4_code (1 : Nat) (Option.some Jvm.ClassFile.FieldType.boolean)).before args0 about1 = true := code_word (m := ⟨3, 2⟩) (meth := k3m2) (c := k3c2) (by decide +kernel) rfl rfl rfl (by decide +kernel)
def codes1 : List Jvm.Cond := [Jvm.Cond.code x code maxLocals ret, Jvm.Cond.code ({ cls := "com/example/setnix/setnix/io/Attempt", name := "taken", desc := "(J)Lcom/example/setnix/setnix/io/Attempt;" } : Jvm.MethodName) prog_3_method_2_code (2 : Nat) (Option.some (Jvm.ClassFile.FieldType.object "com/example/setnix/setnix/io/Attempt")), Jvm.Cond.code ({ cls := "com/example/setnix/setnix/io/Attempt", name := "<init>", desc := "(Lcom/example/setnix/setnix/io/Attempt$Outcome;JJ)V" } : Jvm.MethodName) prog_3_method_1_code (6 : Nat) (Option.none : Option Jvm.ClassFile.FieldType), Jvm.Cond.code ({ cls := "java/lang/Record", name := "<init>", desc := "()V" } : Jvm.MethodName) jdk_30_method_1_code (1 : Nat) (Option.none : Option Jvm.ClassFile.FieldType), Jvm.Cond.code ({ cls := "java/lang/Object", name := "<init>", desc := "()V" } : Jvm.MethodName) object_method_1_code (1 : Nat) (Option.none : Option Jvm.ClassFile.FieldType), Jvm.Cond.code ({ cls := "com/example/setnix/setnix/io/Attempt", name := "outcome", desc := "()Lcom/example/setnix/setnix/io/Attempt$Outcome;" } : Jvm.MethodName) prog_3_method_8_code (1 : Nat) (Option.some (Jvm.ClassFile.FieldType.object "com/example/setnix/setnix/io/Attempt$Outcome")), Jvm.Cond.code ({ cls := "com/example/setnix/setnix/io/Attempt", name := "holderLeaseMillis", desc := "()J" } : Jvm.MethodName) prog_3_method_9_code (1 : Nat) (Option.some Jvm.ClassFile.FieldType.long), Jvm.Cond.code ({ cls := "com/example/setnix/setnix/io/Attempt", name := "fencingToken", desc := "()J" } : Jvm.MethodName) prog_3_method_10_code (1 : Nat) (Option.some Jvm.ClassFile.FieldType.long), Jvm.Cond.code ({ cls := "com/example/setnix/setnix/io/Attempt", name := "held", desc := "()Z" } : Jvm.MethodName) prog_3_method_4_code (1 : Nat) (Option.some Jvm.ClassFile.FieldType.boolean)]
set_option maxRecDepth 65536 in
theorem codes_eq : words1.filter isCode = codes1 := rfl
theorem w_codes : ∀ c ∈ words1.filter isCode, c.before args0 about1 = true := by
  rw [codes_eq]
  intro c hc
  simp only [codes1, List.mem_cons, List.not_mem_nil, or_false] at hc
  rcases hc with rfl | rfl | rfl | rfl | rfl | rfl | rfl | rfl | rfl
  · exact w_c0
  · exact w_c1
  · exact w_c2
  · exact w_c3
  · exact w_c4
  · exact w_c5
  · exact w_c6
  · exact w_c7
  · exact w_c8
set_option maxRecDepth 65536 in
theorem w_t1 : (words1.take 24).all (fun c => isCode c || c.before args0 about1) = true := by decide +kernel
set_option maxRecDepth 65536 in
theorem w_t2 : (words1.drop 24).all (fun c => isCode c || c.before args0 about1) = true := by decide +kernel
theorem w_tables : (allAtoms (Jvm.Cond.code x code maxLocals ret :: tables_1)).before args0 about1 = true := by
  rw [allAtoms_all]
  show words1.all (fun c => c.before args0 about1) = true
  refine all_split ?_ w_codes
  rw [← List.take_append_drop 24 words1, List.all_append, w_t1, w_t2]
  rfl
set_option maxRecDepth 65536 in
theorem w_case : (Jvm.Cond.and given_1 narrow_1).before args0 about1 = true := by decide +kernel
theorem w_applies : (headSpec (Jvm.Cond.code x code maxLocals ret :: tables_1) room_1).applies x e0.platform about1 = true :=
  (Spec.applies_iff w_frames).mpr ⟨w_running, w_runnable, w_alone, w_named, w_hears, w_ripe, w_room, w_tables⟩
theorem atStart : AtStart classFile x code maxLocals ret World_1 tables_1 room_1 Calls_1 rest_1 Pre_1 launch0 p0 e0 about1 theMethod args0 below0 :=
  ⟨lists_1, trivial, launch0.admits_env _ _ _, launch0.least_env, fairChoices_fair.cas, fairChoices_fair.clock, w_frames, w_args, w_heap, w_applies, trivial, trivial, w_case⟩
end start1
theorem witness_1 : WitnessClaimed_1 := ⟨start1.p0, start1.e0, start1.about1, start1.theMethod, start1.args0, start1.below0, start1.atStart⟩
end Jvm.Pilot.@@N@@
