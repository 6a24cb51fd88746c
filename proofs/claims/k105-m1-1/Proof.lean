import JvmDerived
import JvmDerived.Pilot.@@N@@Statement
import JvmDerived.Pilot.@@N@@Code
set_option linter.unusedVariables false
set_option linter.unusedSimpArgs false
namespace Jvm.Pilot.@@N@@
open Jvm Jvm.ClassFile Sem Op Lib Jvm.Free Jvm.Stand Jvm.LawKit Jvm.RoadKit Bundle Jvm.Pilot.@@N@@.Jvm.D
theorem wd {d : Jvm.Cond} (i : Nat) (h : tables_1[i]? = some d) : d ∈ tables_1 := List.mem_of_getElem? h
def Go (tb : Tables) (e : Env) (below : List Frame) (S0 S : State) : Prop := ∀ t, Steps tb e below S t → Steps tb e below S0 t
theorem own_old_le {Z : State} {n0 : Nat} {h : Heap} (O : Old Z n0 h) : n0 ≤ h.size := O.1 ▸ O.2.1
theorem own_lcmp_self (x : Int64) : lcmpW x x = 0 := by rw [lcW, lc_eq]
theorem own_ne {Z : State} {h : Heap} {a b : Addr} {C n d : String} {i j : Int32} (F : Fld Z h a C n d (.int i)) (G : Fld Z h b C n d (.int j)) (q : i ≠ j) : a ≠ b := F.ne G fun e => q (Value.int.inj e)
theorem own_narrow_ref {v : Value} {n : String} (h : v.isRef = true) : narrow (.object n) v = v := by rcases ref_cases h with rfl | ⟨_, rfl⟩ <;> rfl
theorem own_fits_ref {v : Value} {n : String} (h : v.isRef = true) : fits (.object n) v = true := by rcases ref_cases h with rfl | ⟨_, rfl⟩ <;> rfl
theorem own_narrow_bool {z : Int32} (h : z = 0 ∨ z = 1) : narrow .boolean (.int z) = .int z := by rcases h with rfl | rfl <;> rfl
theorem own_fits_bool {z : Int32} (h : z = 0 ∨ z = 1) : fits .boolean (.int z) = true := by rcases h with rfl | rfl <;> rfl
def QV (w : Option Value) (h0 : Heap) (n0 : Nat) (v : Option Value) (h : Heap) (L : List Loc) : Prop := v = w ∧ Fr n0 L ∧ h = h0
def Q0 (n0 : Nat) (v : Option Value) (h : Heap) (L : List Loc) : Prop := v = some (.int (1 : Int32)) ∧ Fr n0 L
abbrev y_0 : MethodName := ⟨"com/example/stationgraph/stationgraph/station/PathwayMode", "code", "()I"⟩
abbrev y_1 : MethodName := ⟨"com/example/stationgraph/stationgraph/station/PathwayMode", "mechanical", "()Z"⟩
theorem d1_0 : decode prog_65_method_4_code 0 = .ok (.aload_n 0, 1) := by decide +kernel
theorem d1_1 : decode prog_65_method_4_code 1 = .ok (.getfield 47, 3) := by decide +kernel
theorem d1_4 : decode prog_65_method_4_code 4 = .ok (.ireturn, 1) := by decide +kernel
theorem d2_0 : decode prog_65_method_6_code 0 = .ok (.aload_n 0, 1) := by decide +kernel
theorem d2_1 : decode prog_65_method_6_code 1 = .ok (.getstatic 10, 3) := by decide +kernel
theorem d2_4 : decode prog_65_method_6_code 4 = .ok (.if_acmp .eq 17, 3) := by decide +kernel
theorem d2_7 : decode prog_65_method_6_code 7 = .ok (.aload_n 0, 1) := by decide +kernel
theorem d2_8 : decode prog_65_method_6_code 8 = .ok (.getstatic 13, 3) := by decide +kernel
theorem d2_11 : decode prog_65_method_6_code 11 = .ok (.if_acmp .eq 10, 3) := by decide +kernel
theorem d2_14 : decode prog_65_method_6_code 14 = .ok (.aload_n 0, 1) := by decide +kernel
theorem d2_15 : decode prog_65_method_6_code 15 = .ok (.getstatic 16, 3) := by decide +kernel
theorem d2_18 : decode prog_65_method_6_code 18 = .ok (.if_acmp .ne 7, 3) := by decide +kernel
theorem d2_21 : decode prog_65_method_6_code 21 = .ok (.iconst 1, 1) := by decide +kernel
theorem d2_22 : decode prog_65_method_6_code 22 = .ok (.goto 4, 3) := by decide +kernel
theorem d2_25 : decode prog_65_method_6_code 25 = .ok (.iconst 0, 1) := by decide +kernel
theorem d2_26 : decode prog_65_method_6_code 26 = .ok (.ireturn, 1) := by decide +kernel
theorem pn_0 : plainName "com/example/stationgraph/stationgraph/station/PathwayMode" = true := by first | (simp [plainName, overriddenIn]; done) | decide +kernel
theorem pn_1 : plainName "com/example/stationgraph/stationgraph/station/PathwayModeMechanicalPinLaw" = true := by first | (simp [plainName, overriddenIn]; done) | decide +kernel
theorem pd_0 : parseMethodDescriptor "()I" = some ⟨[], some .int⟩ := by decide +kernel
theorem pd_1 : parseMethodDescriptor "()Z" = some ⟨[], some .boolean⟩ := by decide +kernel
theorem own_cases_8 {y : Int32} (h0 : 0 ≤ y.toInt) (h1 : y.toInt < 8) : y = 0 ∨ y = 1 ∨ y = 2 ∨ y = 3 ∨ y = 4 ∨ y = 5 ∨ y = 6 ∨ y = 7 := by
  have h : y.toInt = 0 ∨ y.toInt = 1 ∨ y.toInt = 2 ∨ y.toInt = 3 ∨ y.toInt = 4 ∨ y.toInt = 5 ∨ y.toInt = 6 ∨ y.toInt = 7 := by omega
  rcases h with h | h | h | h | h | h | h | h
  · exact (Or.inl (Int32.toInt_inj.mp (h.trans (show (0 : Int) = (0 : Int32).toInt from by decide))))
  · exact (Or.inr (Or.inl (Int32.toInt_inj.mp (h.trans (show (1 : Int) = (1 : Int32).toInt from by decide)))))
  · exact (Or.inr (Or.inr (Or.inl (Int32.toInt_inj.mp (h.trans (show (2 : Int) = (2 : Int32).toInt from by decide))))))
  · exact (Or.inr (Or.inr (Or.inr (Or.inl (Int32.toInt_inj.mp (h.trans (show (3 : Int) = (3 : Int32).toInt from by decide)))))))
  · exact (Or.inr (Or.inr (Or.inr (Or.inr (Or.inl (Int32.toInt_inj.mp (h.trans (show (4 : Int) = (4 : Int32).toInt from by decide))))))))
  · exact (Or.inr (Or.inr (Or.inr (Or.inr (Or.inr (Or.inl (Int32.toInt_inj.mp (h.trans (show (5 : Int) = (5 : Int32).toInt from by decide)))))))))
  · exact (Or.inr (Or.inr (Or.inr (Or.inr (Or.inr (Or.inr (Or.inl (Int32.toInt_inj.mp (h.trans (show (6 : Int) = (6 : Int32).toInt from by decide))))))))))
  · exact (Or.inr (Or.inr (Or.inr (Or.inr (Or.inr (Or.inr (Or.inr (Int32.toInt_inj.mp (h.trans (show (7 : Int) = (7 : Int32).toInt from by decide))))))))))
theorem own_mask_8 (x : Int32) : x &&& 7 = 0 ∨ x &&& 7 = 1 ∨ x &&& 7 = 2 ∨ x &&& 7 = 3 ∨ x &&& 7 = 4 ∨ x &&& 7 = 5 ∨ x &&& 7 = 6 ∨ x &&& 7 = 7 := by
  have h := c_and x 7 (by decide)
  have e : (7 : Int32).toInt = 7 := by decide
  exact own_cases_8 h.1 (by omega)
def Own (Z : State) (a_WALKWAY a_STAIRS a_TRAVELATOR a_ESCALATOR a_ELEVATOR a_FARE_GATE a_EXIT_GATE a_CONTROL : Addr) : Prop := Sta Z Z.heap "com/example/stationgraph/stationgraph/station/PathwayMode" "WALKWAY" "Lcom/example/stationgraph/stationgraph/station/PathwayMode;" (.ref a_WALKWAY) ∧ Exa Z Z.heap a_WALKWAY "com/example/stationgraph/stationgraph/station/PathwayMode" ∧ Sta Z Z.heap "com/example/stationgraph/stationgraph/station/PathwayMode" "STAIRS" "Lcom/example/stationgraph/stationgraph/station/PathwayMode;" (.ref a_STAIRS) ∧ Exa Z Z.heap a_STAIRS "com/example/stationgraph/stationgraph/station/PathwayMode" ∧ Sta Z Z.heap "com/example/stationgraph/stationgraph/station/PathwayMode" "TRAVELATOR" "Lcom/example/stationgraph/stationgraph/station/PathwayMode;" (.ref a_TRAVELATOR) ∧ Exa Z Z.heap a_TRAVELATOR "com/example/stationgraph/stationgraph/station/PathwayMode" ∧ Sta Z Z.heap "com/example/stationgraph/stationgraph/station/PathwayMode" "ESCALATOR" "Lcom/example/stationgraph/stationgraph/station/PathwayMode;" (.ref a_ESCALATOR) ∧ Exa Z Z.heap a_ESCALATOR "com/example/stationgraph/stationgraph/station/PathwayMode" ∧ Sta Z Z.heap "com/example/stationgraph/stationgraph/station/PathwayMode" "ELEVATOR" "Lcom/example/stationgraph/stationgraph/station/PathwayMode;" (.ref a_ELEVATOR) ∧ Exa Z Z.heap a_ELEVATOR "com/example/stationgraph/stationgraph/station/PathwayMode" ∧ Sta Z Z.heap "com/example/stationgraph/stationgraph/station/PathwayMode" "FARE_GATE" "Lcom/example/stationgraph/stationgraph/station/PathwayMode;" (.ref a_FARE_GATE) ∧ Exa Z Z.heap a_FARE_GATE "com/example/stationgraph/stationgraph/station/PathwayMode" ∧ Sta Z Z.heap "com/example/stationgraph/stationgraph/station/PathwayMode" "EXIT_GATE" "Lcom/example/stationgraph/stationgraph/station/PathwayMode;" (.ref a_EXIT_GATE) ∧ Exa Z Z.heap a_EXIT_GATE "com/example/stationgraph/stationgraph/station/PathwayMode" ∧ Sta Z Z.heap "com/example/stationgraph/stationgraph/station/PathwayMode" "CONTROL" "Lcom/example/stationgraph/stationgraph/station/PathwayMode;" (.ref a_CONTROL) ∧ Exa Z Z.heap a_CONTROL "com/example/stationgraph/stationgraph/station/PathwayMode" ∧ Fld Z Z.heap a_WALKWAY "com/example/stationgraph/stationgraph/station/PathwayMode" "code" "I" (.int 1) ∧ Fld Z Z.heap a_WALKWAY "java/lang/Enum" "ordinal" "I" (.int 0) ∧ Fld Z Z.heap a_TRAVELATOR "java/lang/Enum" "ordinal" "I" (.int 2) ∧ Fld Z Z.heap a_ESCALATOR "java/lang/Enum" "ordinal" "I" (.int 3) ∧ Fld Z Z.heap a_ELEVATOR "java/lang/Enum" "ordinal" "I" (.int 4) ∧ Fld Z Z.heap a_ESCALATOR "com/example/stationgraph/stationgraph/station/PathwayMode" "code" "I" (.int 4) ∧ Fld Z Z.heap a_EXIT_GATE "com/example/stationgraph/stationgraph/station/PathwayMode" "code" "I" (.int 7) ∧ Fld Z Z.heap a_EXIT_GATE "java/lang/Enum" "ordinal" "I" (.int 6) ∧ Fld Z Z.heap a_CONTROL "com/example/stationgraph/stationgraph/station/PathwayMode" "code" "I" (.int 8) ∧ Fld Z Z.heap a_CONTROL "java/lang/Enum" "ordinal" "I" (.int 7) ∧ Fld Z Z.heap a_TRAVELATOR "com/example/stationgraph/stationgraph/station/PathwayMode" "code" "I" (.int 3) ∧ Fld Z Z.heap a_STAIRS "com/example/stationgraph/stationgraph/station/PathwayMode" "code" "I" (.int 2) ∧ Fld Z Z.heap a_STAIRS "java/lang/Enum" "ordinal" "I" (.int 1) ∧ Fld Z Z.heap a_ELEVATOR "com/example/stationgraph/stationgraph/station/PathwayMode" "code" "I" (.int 5) ∧ Fld Z Z.heap a_FARE_GATE "com/example/stationgraph/stationgraph/station/PathwayMode" "code" "I" (.int 6) ∧ Fld Z Z.heap a_FARE_GATE "java/lang/Enum" "ordinal" "I" (.int 5)
theorem own_fld {args : Array Value} {s : State} {t : Term} {C n d : String} {a : Addr} {k : Int32} (ev : t.eval args s none [] s = some (.ref a)) (h : (Jvm.Cond.eq (.field t C n d) (.int k)).value args s none s [] = some true) : Fld s s.heap a C n d (.int k) := by
  refine Fld.start ?_
  obtain ⟨u, w, h1, h2, h3, h4⟩ := cmp_v (Or.inl h)
  have e2 : w = .int k := (Option.some.inj h2).symm
  subst e2
  obtain ⟨z, rfl⟩ := h4
  rw [fld_at ev] at h1
  rw [h1]
  have q : (Jvm.Cond.eq (.field t C n d) (.int k)).value args s none s [] = some (decide (z = k)) := by simp [Cond.value, Term.eval, ev, h1]
  have := gotT q h
  rw [this]
set_option maxRecDepth 65536 in
set_option maxHeartbeats 40000000 in
theorem cd_0 (l : Launch) (Z : State) (a0 : Array Value) (hw : ∀ d ∈ tables_1, d.before a0 Z = true) (ws : List Jvm.Cond) (a_WALKWAY a_STAIRS a_TRAVELATOR a_ESCALATOR a_ELEVATOR a_FARE_GATE a_EXIT_GATE a_CONTROL : Addr) (G : Own Z a_WALKWAY a_STAIRS a_TRAVELATOR a_ESCALATOR a_ELEVATOR a_FARE_GATE a_EXIT_GATE a_CONTROL)  (h0 : Heap) (n0 : Nat) (O0 : Old Z n0 h0)  :
    MetFree l y_0 (head1 (Jvm.Cond.code y_0 prog_65_method_4_code 1 (some .int) :: ws) ({ frames := 0, cells := 0, slots := 0, locals := 0 } : Room)) (fun a U => a = #[(.ref a_WALKWAY)] ∧ Z.Warmed39 U.vm ∧ U.heap = h0) (fun _ _ _ _ _ => True) (fun _ U o U' => ∃ v L, o = .returned v ∧ QV (some (.int 1)) h0 n0 v U'.heap L ∧ FrameEnd U o U' L ({ frames := 0, cells := 0, slots := 0, locals := 0 } : Room).cells ({ frames := 0, cells := 0, slots := 0, locals := 0 } : Room).slots) := by
  refine MetFree.of_bodySF (plainFor_of_name pn_0) hisR ?_
  intro p e s m args below meth c s₁ Bd hml0 hP hK
  obtain ⟨rfl, hZ, hh⟩ := hP
  have hx := Bd.exec
  have hby := Bd.bytes
  have hml : c.maxLocals = 1 := hml0
  have hown : s.vm.findClass "com/example/stationgraph/stationgraph/station/PathwayMode" = some m.cls := findClass_of_methodNamed Bd.named
  have hnm := (name_of_methodNamed Bd.named Bd.method).1
  have X0 : Stand p l e ({ frames := 0, cells := 0, slots := 0, locals := 0 } : Room) s m #[(.ref a_WALKWAY)] below meth c s₁ [] 0 0 := Stand.of_body Bd
  have e0 : s₁.heap = h0 := by rw [← hh, Bd.state]; rfl
  have N0 := Fr.nil n0
  have K0 := Keep.refl h0 []
  have k0 : Go p.tables e below (s₁.setTop (entryFrame m #[(.ref a_WALKWAY)] 1)) (s₁.setTop (mkF m 0 #[rv a_WALKWAY] [])) := fun t k => castTop (by first | rfl | (simp [entryFrame, mkF, argsToLocals, Value.category]; done)) k
  have ⟨S_WALKWAY, E_WALKWAY, S_STAIRS, E_STAIRS, S_TRAVELATOR, E_TRAVELATOR, S_ESCALATOR, E_ESCALATOR, S_ELEVATOR, E_ELEVATOR, S_FARE_GATE, E_FARE_GATE, S_EXIT_GATE, E_EXIT_GATE, S_CONTROL, E_CONTROL, R_WALKWAY_code, R_WALKWAY_ordinal, R_TRAVELATOR_ordinal, R_ESCALATOR_ordinal, R_ELEVATOR_ordinal, R_ESCALATOR_code, R_EXIT_GATE_code, R_EXIT_GATE_ordinal, R_CONTROL_code, R_CONTROL_ordinal, R_TRAVELATOR_code, R_STAIRS_code, R_STAIRS_ordinal, R_ELEVATOR_code, R_FARE_GATE_code, R_FARE_GATE_ordinal⟩ := G
  have k_1 : Go p.tables e below (s₁.setTop (entryFrame m #[(.ref a_WALKWAY)] 1)) (s₁.setTop (mkF m 1 #[rv a_WALKWAY] [(.ref a_WALKWAY)])) := fun t q => by
    refine k0 t ?_
    refine XS.aloadN X0.here hx rfl (hb hby d1_0) rfl rfl ?_
    show Steps _ _ _ (s₁.setTop (mkF m 1 #[rv a_WALKWAY] [(.ref a_WALKWAY)])) _
    exact q
  obtain ⟨T2, X2, e2, st2⟩ := getF X0 hx hZ hown (host := "") (Or.inl (hw _ (wd 25 rfl))) Via.refl e0 (Fld.ext O0.2 R_WALKWAY_code) (g := (mkF m 1 #[rv a_WALKWAY] [(.ref a_WALKWAY)])) rfl rfl (hb hby d1_1)
  have k_3 : Go p.tables e below (s₁.setTop (entryFrame m #[(.ref a_WALKWAY)] 1)) (T2.setTop (mkF m 4 #[rv a_WALKWAY] [(.int 1)])) := fun t q => by
    refine k_1 t ?_
    refine st2 _ ?_
    show Steps _ _ _ (T2.setTop (mkF m 4 #[rv a_WALKWAY] [(.int 1)])) _
    exact q
  obtain ⟨fs, hr, hrun, hended, hW, hsame⟩ := X2.leave (v := some (.int 1)) (fun h => by rw [Bd.returns] at h; cases h)
  refine ⟨_, _, k_3 _ ?_, hrun, hended, _, _, rfl, ?_, ⟨_, rfl⟩, hW, hsame.mono (by decide) (by decide)⟩
  · exact retOut X2 hx Bd.returns rfl (Or.inl ⟨rfl, Or.inl rfl, _, rfl⟩) (hb hby d1_4) hr
  · show QV (some (.int 1)) h0 n0 _ T2.heap _
    rw [e2]
    exact ⟨rfl, N0, rfl⟩
set_option maxRecDepth 65536 in
set_option maxHeartbeats 40000000 in
theorem me_0 (l : Launch) (Z : State) (a0 : Array Value) (hw : ∀ d ∈ tables_1, d.before a0 Z = true) (ws : List Jvm.Cond) (a_WALKWAY a_STAIRS a_TRAVELATOR a_ESCALATOR a_ELEVATOR a_FARE_GATE a_EXIT_GATE a_CONTROL : Addr) (G : Own Z a_WALKWAY a_STAIRS a_TRAVELATOR a_ESCALATOR a_ELEVATOR a_FARE_GATE a_EXIT_GATE a_CONTROL)  (h0 : Heap) (n0 : Nat) (O0 : Old Z n0 h0)  :
    MetFree l y_1 (head1 (Jvm.Cond.code y_1 prog_65_method_6_code 1 (some .boolean) :: ws) ({ frames := 0, cells := 0, slots := 0, locals := 0 } : Room)) (fun a U => a = #[(.ref a_WALKWAY)] ∧ Z.Warmed39 U.vm ∧ U.heap = h0) (fun _ _ _ _ _ => True) (fun _ U o U' => ∃ v L, o = .returned v ∧ QV (some (.int 0)) h0 n0 v U'.heap L ∧ FrameEnd U o U' L ({ frames := 0, cells := 0, slots := 0, locals := 0 } : Room).cells ({ frames := 0, cells := 0, slots := 0, locals := 0 } : Room).slots) := by
  refine MetFree.of_bodySF (plainFor_of_name pn_0) hisR ?_
  intro p e s m args below meth c s₁ Bd hml0 hP hK
  obtain ⟨rfl, hZ, hh⟩ := hP
  have hx := Bd.exec
  have hby := Bd.bytes
  have hml : c.maxLocals = 1 := hml0
  have hown : s.vm.findClass "com/example/stationgraph/stationgraph/station/PathwayMode" = some m.cls := findClass_of_methodNamed Bd.named
  have hnm := (name_of_methodNamed Bd.named Bd.method).1
  have X0 : Stand p l e ({ frames := 0, cells := 0, slots := 0, locals := 0 } : Room) s m #[(.ref a_WALKWAY)] below meth c s₁ [] 0 0 := Stand.of_body Bd
  have e0 : s₁.heap = h0 := by rw [← hh, Bd.state]; rfl
  have N0 := Fr.nil n0
  have K0 := Keep.refl h0 []
  have k0 : Go p.tables e below (s₁.setTop (entryFrame m #[(.ref a_WALKWAY)] 1)) (s₁.setTop (mkF m 0 #[rv a_WALKWAY] [])) := fun t k => castTop (by first | rfl | (simp [entryFrame, mkF, argsToLocals, Value.category]; done)) k
  have ⟨S_WALKWAY, E_WALKWAY, S_STAIRS, E_STAIRS, S_TRAVELATOR, E_TRAVELATOR, S_ESCALATOR, E_ESCALATOR, S_ELEVATOR, E_ELEVATOR, S_FARE_GATE, E_FARE_GATE, S_EXIT_GATE, E_EXIT_GATE, S_CONTROL, E_CONTROL, R_WALKWAY_code, R_WALKWAY_ordinal, R_TRAVELATOR_ordinal, R_ESCALATOR_ordinal, R_ELEVATOR_ordinal, R_ESCALATOR_code, R_EXIT_GATE_code, R_EXIT_GATE_ordinal, R_CONTROL_code, R_CONTROL_ordinal, R_TRAVELATOR_code, R_STAIRS_code, R_STAIRS_ordinal, R_ELEVATOR_code, R_FARE_GATE_code, R_FARE_GATE_ordinal⟩ := G
  have k_4 : Go p.tables e below (s₁.setTop (entryFrame m #[(.ref a_WALKWAY)] 1)) (s₁.setTop (mkF m 1 #[rv a_WALKWAY] [(.ref a_WALKWAY)])) := fun t q => by
    refine k0 t ?_
    refine XS.aloadN X0.here hx rfl (hb hby d2_0) rfl rfl ?_
    show Steps _ _ _ (s₁.setTop (mkF m 1 #[rv a_WALKWAY] [(.ref a_WALKWAY)])) _
    exact q
  obtain ⟨T5, X5, e5, st5⟩ := getS2 X0 hx hZ hown (host := "") (Or.inl (hw _ (wd 32 rfl))) Via.refl e0 (S_TRAVELATOR.ext O0.2) (g := (mkF m 1 #[rv a_WALKWAY] [(.ref a_WALKWAY)])) rfl (hb hby d2_1)
  have k_6 : Go p.tables e below (s₁.setTop (entryFrame m #[(.ref a_WALKWAY)] 1)) (T5.setTop (mkF m 8 #[rv a_WALKWAY] [(.ref a_WALKWAY)])) := fun t q => by
    refine k_4 t ?_
    refine st5 _ ?_
    show Steps _ _ _ (T5.setTop (mkF m 4 #[rv a_WALKWAY] [(.ref a_TRAVELATOR), (.ref a_WALKWAY)])) _
    refine Jvm.RoadKit.acmp (g := (mkF m 4 #[rv a_WALKWAY] [(.ref a_TRAVELATOR), (.ref a_WALKWAY)])) X5 hx rfl rfl rfl (pc0 := 4) (pc' := 7) (same := false) rfl (hb hby d2_4) rfl (decide_eq_false fun q => (own_ne R_WALKWAY_ordinal R_TRAVELATOR_ordinal (by decide)) (Value.ref.inj q)) (by decide) (by decide) ?_
    show Steps _ _ _ (T5.setTop (mkF m 7 #[rv a_WALKWAY] [])) _
    refine XS.aloadN X5.here hx rfl (hb hby d2_7) rfl rfl ?_
    show Steps _ _ _ (T5.setTop (mkF m 8 #[rv a_WALKWAY] [(.ref a_WALKWAY)])) _
    exact q
  obtain ⟨T7, X7, e7, st7⟩ := getS2 X5 hx hZ hown (host := "") (Or.inl (hw _ (wd 33 rfl))) Via.refl e5 (S_ESCALATOR.ext O0.2) (g := (mkF m 8 #[rv a_WALKWAY] [(.ref a_WALKWAY)])) rfl (hb hby d2_8)
  have k_8 : Go p.tables e below (s₁.setTop (entryFrame m #[(.ref a_WALKWAY)] 1)) (T7.setTop (mkF m 15 #[rv a_WALKWAY] [(.ref a_WALKWAY)])) := fun t q => by
    refine k_6 t ?_
    refine st7 _ ?_
    show Steps _ _ _ (T7.setTop (mkF m 11 #[rv a_WALKWAY] [(.ref a_ESCALATOR), (.ref a_WALKWAY)])) _
    refine Jvm.RoadKit.acmp (g := (mkF m 11 #[rv a_WALKWAY] [(.ref a_ESCALATOR), (.ref a_WALKWAY)])) X7 hx rfl rfl rfl (pc0 := 11) (pc' := 14) (same := false) rfl (hb hby d2_11) rfl (decide_eq_false fun q => (own_ne R_WALKWAY_ordinal R_ESCALATOR_ordinal (by decide)) (Value.ref.inj q)) (by decide) (by decide) ?_
    show Steps _ _ _ (T7.setTop (mkF m 14 #[rv a_WALKWAY] [])) _
    refine XS.aloadN X7.here hx rfl (hb hby d2_14) rfl rfl ?_
    show Steps _ _ _ (T7.setTop (mkF m 15 #[rv a_WALKWAY] [(.ref a_WALKWAY)])) _
    exact q
  obtain ⟨T9, X9, e9, st9⟩ := getS2 X7 hx hZ hown (host := "") (Or.inl (hw _ (wd 34 rfl))) Via.refl e7 (S_ELEVATOR.ext O0.2) (g := (mkF m 15 #[rv a_WALKWAY] [(.ref a_WALKWAY)])) rfl (hb hby d2_15)
  have k_10 : Go p.tables e below (s₁.setTop (entryFrame m #[(.ref a_WALKWAY)] 1)) (T9.setTop (mkF m 26 #[rv a_WALKWAY] [(.int 0)])) := fun t q => by
    refine k_8 t ?_
    refine st9 _ ?_
    show Steps _ _ _ (T9.setTop (mkF m 18 #[rv a_WALKWAY] [(.ref a_ELEVATOR), (.ref a_WALKWAY)])) _
    refine Jvm.RoadKit.acmp (g := (mkF m 18 #[rv a_WALKWAY] [(.ref a_ELEVATOR), (.ref a_WALKWAY)])) X9 hx rfl rfl rfl (pc0 := 18) (pc' := 25) (same := false) rfl (hb hby d2_18) rfl (decide_eq_false fun q => (own_ne R_WALKWAY_ordinal R_ELEVATOR_ordinal (by decide)) (Value.ref.inj q)) (by decide) (by decide) ?_
    show Steps _ _ _ (T9.setTop (mkF m 25 #[rv a_WALKWAY] [])) _
    refine XS.iconst X9.here hx rfl (hb hby d2_25) ?_
    show Steps _ _ _ (T9.setTop (mkF m 26 #[rv a_WALKWAY] [(.int 0)])) _
    exact q
  obtain ⟨fs, hr, hrun, hended, hW, hsame⟩ := X9.leave (v := some (.int 0)) (fun h => by rw [Bd.returns] at h; cases h)
  refine ⟨_, _, k_10 _ ?_, hrun, hended, _, _, rfl, ?_, ⟨_, rfl⟩, hW, hsame.mono (by decide) (by decide)⟩
  · exact retN X9 hx (t := .boolean) Bd.returns (by simp) (hb hby d2_26) hr
  · show QV (some (.int 0)) h0 n0 _ T9.heap _
    rw [e9]
    exact ⟨rfl, N0, rfl⟩
set_option maxRecDepth 65536 in
set_option maxHeartbeats 40000000 in
theorem cd_1 (l : Launch) (Z : State) (a0 : Array Value) (hw : ∀ d ∈ tables_1, d.before a0 Z = true) (ws : List Jvm.Cond) (a_WALKWAY a_STAIRS a_TRAVELATOR a_ESCALATOR a_ELEVATOR a_FARE_GATE a_EXIT_GATE a_CONTROL : Addr) (G : Own Z a_WALKWAY a_STAIRS a_TRAVELATOR a_ESCALATOR a_ELEVATOR a_FARE_GATE a_EXIT_GATE a_CONTROL)  (h0 : Heap) (n0 : Nat) (O0 : Old Z n0 h0)  :
    MetFree l y_0 (head1 (Jvm.Cond.code y_0 prog_65_method_4_code 1 (some .int) :: ws) ({ frames := 0, cells := 0, slots := 0, locals := 0 } : Room)) (fun a U => a = #[(.ref a_STAIRS)] ∧ Z.Warmed39 U.vm ∧ U.heap = h0) (fun _ _ _ _ _ => True) (fun _ U o U' => ∃ v L, o = .returned v ∧ QV (some (.int 2)) h0 n0 v U'.heap L ∧ FrameEnd U o U' L ({ frames := 0, cells := 0, slots := 0, locals := 0 } : Room).cells ({ frames := 0, cells := 0, slots := 0, locals := 0 } : Room).slots) := by
  refine MetFree.of_bodySF (plainFor_of_name pn_0) hisR ?_
  intro p e s m args below meth c s₁ Bd hml0 hP hK
  obtain ⟨rfl, hZ, hh⟩ := hP
  have hx := Bd.exec
  have hby := Bd.bytes
  have hml : c.maxLocals = 1 := hml0
  have hown : s.vm.findClass "com/example/stationgraph/stationgraph/station/PathwayMode" = some m.cls := findClass_of_methodNamed Bd.named
  have hnm := (name_of_methodNamed Bd.named Bd.method).1
  have X0 : Stand p l e ({ frames := 0, cells := 0, slots := 0, locals := 0 } : Room) s m #[(.ref a_STAIRS)] below meth c s₁ [] 0 0 := Stand.of_body Bd
  have e0 : s₁.heap = h0 := by rw [← hh, Bd.state]; rfl
  have N0 := Fr.nil n0
  have K0 := Keep.refl h0 []
  have k0 : Go p.tables e below (s₁.setTop (entryFrame m #[(.ref a_STAIRS)] 1)) (s₁.setTop (mkF m 0 #[rv a_STAIRS] [])) := fun t k => castTop (by first | rfl | (simp [entryFrame, mkF, argsToLocals, Value.category]; done)) k
  have ⟨S_WALKWAY, E_WALKWAY, S_STAIRS, E_STAIRS, S_TRAVELATOR, E_TRAVELATOR, S_ESCALATOR, E_ESCALATOR, S_ELEVATOR, E_ELEVATOR, S_FARE_GATE, E_FARE_GATE, S_EXIT_GATE, E_EXIT_GATE, S_CONTROL, E_CONTROL, R_WALKWAY_code, R_WALKWAY_ordinal, R_TRAVELATOR_ordinal, R_ESCALATOR_ordinal, R_ELEVATOR_ordinal, R_ESCALATOR_code, R_EXIT_GATE_code, R_EXIT_GATE_ordinal, R_CONTROL_code, R_CONTROL_ordinal, R_TRAVELATOR_code, R_STAIRS_code, R_STAIRS_ordinal, R_ELEVATOR_code, R_FARE_GATE_code, R_FARE_GATE_ordinal⟩ := G
  have k_11 : Go p.tables e below (s₁.setTop (entryFrame m #[(.ref a_STAIRS)] 1)) (s₁.setTop (mkF m 1 #[rv a_STAIRS] [(.ref a_STAIRS)])) := fun t q => by
    refine k0 t ?_
    refine XS.aloadN X0.here hx rfl (hb hby d1_0) rfl rfl ?_
    show Steps _ _ _ (s₁.setTop (mkF m 1 #[rv a_STAIRS] [(.ref a_STAIRS)])) _
    exact q
  obtain ⟨T12, X12, e12, st12⟩ := getF X0 hx hZ hown (host := "") (Or.inl (hw _ (wd 25 rfl))) Via.refl e0 (Fld.ext O0.2 R_STAIRS_code) (g := (mkF m 1 #[rv a_STAIRS] [(.ref a_STAIRS)])) rfl rfl (hb hby d1_1)
  have k_13 : Go p.tables e below (s₁.setTop (entryFrame m #[(.ref a_STAIRS)] 1)) (T12.setTop (mkF m 4 #[rv a_STAIRS] [(.int 2)])) := fun t q => by
    refine k_11 t ?_
    refine st12 _ ?_
    show Steps _ _ _ (T12.setTop (mkF m 4 #[rv a_STAIRS] [(.int 2)])) _
    exact q
  obtain ⟨fs, hr, hrun, hended, hW, hsame⟩ := X12.leave (v := some (.int 2)) (fun h => by rw [Bd.returns] at h; cases h)
  refine ⟨_, _, k_13 _ ?_, hrun, hended, _, _, rfl, ?_, ⟨_, rfl⟩, hW, hsame.mono (by decide) (by decide)⟩
  · exact retOut X12 hx Bd.returns rfl (Or.inl ⟨rfl, Or.inl rfl, _, rfl⟩) (hb hby d1_4) hr
  · show QV (some (.int 2)) h0 n0 _ T12.heap _
    rw [e12]
    exact ⟨rfl, N0, rfl⟩
set_option maxRecDepth 65536 in
set_option maxHeartbeats 40000000 in
theorem me_1 (l : Launch) (Z : State) (a0 : Array Value) (hw : ∀ d ∈ tables_1, d.before a0 Z = true) (ws : List Jvm.Cond) (a_WALKWAY a_STAIRS a_TRAVELATOR a_ESCALATOR a_ELEVATOR a_FARE_GATE a_EXIT_GATE a_CONTROL : Addr) (G : Own Z a_WALKWAY a_STAIRS a_TRAVELATOR a_ESCALATOR a_ELEVATOR a_FARE_GATE a_EXIT_GATE a_CONTROL)  (h0 : Heap) (n0 : Nat) (O0 : Old Z n0 h0)  :
    MetFree l y_1 (head1 (Jvm.Cond.code y_1 prog_65_method_6_code 1 (some .boolean) :: ws) ({ frames := 0, cells := 0, slots := 0, locals := 0 } : Room)) (fun a U => a = #[(.ref a_STAIRS)] ∧ Z.Warmed39 U.vm ∧ U.heap = h0) (fun _ _ _ _ _ => True) (fun _ U o U' => ∃ v L, o = .returned v ∧ QV (some (.int 0)) h0 n0 v U'.heap L ∧ FrameEnd U o U' L ({ frames := 0, cells := 0, slots := 0, locals := 0 } : Room).cells ({ frames := 0, cells := 0, slots := 0, locals := 0 } : Room).slots) := by
  refine MetFree.of_bodySF (plainFor_of_name pn_0) hisR ?_
  intro p e s m args below meth c s₁ Bd hml0 hP hK
  obtain ⟨rfl, hZ, hh⟩ := hP
  have hx := Bd.exec
  have hby := Bd.bytes
  have hml : c.maxLocals = 1 := hml0
  have hown : s.vm.findClass "com/example/stationgraph/stationgraph/station/PathwayMode" = some m.cls := findClass_of_methodNamed Bd.named
  have hnm := (name_of_methodNamed Bd.named Bd.method).1
  have X0 : Stand p l e ({ frames := 0, cells := 0, slots := 0, locals := 0 } : Room) s m #[(.ref a_STAIRS)] below meth c s₁ [] 0 0 := Stand.of_body Bd
  have e0 : s₁.heap = h0 := by rw [← hh, Bd.state]; rfl
  have N0 := Fr.nil n0
  have K0 := Keep.refl h0 []
  have k0 : Go p.tables e below (s₁.setTop (entryFrame m #[(.ref a_STAIRS)] 1)) (s₁.setTop (mkF m 0 #[rv a_STAIRS] [])) := fun t k => castTop (by first | rfl | (simp [entryFrame, mkF, argsToLocals, Value.category]; done)) k
  have ⟨S_WALKWAY, E_WALKWAY, S_STAIRS, E_STAIRS, S_TRAVELATOR, E_TRAVELATOR, S_ESCALATOR, E_ESCALATOR, S_ELEVATOR, E_ELEVATOR, S_FARE_GATE, E_FARE_GATE, S_EXIT_GATE, E_EXIT_GATE, S_CONTROL, E_CONTROL, R_WALKWAY_code, R_WALKWAY_ordinal, R_TRAVELATOR_ordinal, R_ESCALATOR_ordinal, R_ELEVATOR_ordinal, R_ESCALATOR_code, R_EXIT_GATE_code, R_EXIT_GATE_ordinal, R_CONTROL_code, R_CONTROL_ordinal, R_TRAVELATOR_code, R_STAIRS_code, R_STAIRS_ordinal, R_ELEVATOR_code, R_FARE_GATE_code, R_FARE_GATE_ordinal⟩ := G
  have k_14 : Go p.tables e below (s₁.setTop (entryFrame m #[(.ref a_STAIRS)] 1)) (s₁.setTop (mkF m 1 #[rv a_STAIRS] [(.ref a_STAIRS)])) := fun t q => by
    refine k0 t ?_
    refine XS.aloadN X0.here hx rfl (hb hby d2_0) rfl rfl ?_
    show Steps _ _ _ (s₁.setTop (mkF m 1 #[rv a_STAIRS] [(.ref a_STAIRS)])) _
    exact q
  obtain ⟨T15, X15, e15, st15⟩ := getS2 X0 hx hZ hown (host := "") (Or.inl (hw _ (wd 32 rfl))) Via.refl e0 (S_TRAVELATOR.ext O0.2) (g := (mkF m 1 #[rv a_STAIRS] [(.ref a_STAIRS)])) rfl (hb hby d2_1)
  have k_16 : Go p.tables e below (s₁.setTop (entryFrame m #[(.ref a_STAIRS)] 1)) (T15.setTop (mkF m 8 #[rv a_STAIRS] [(.ref a_STAIRS)])) := fun t q => by
    refine k_14 t ?_
    refine st15 _ ?_
    show Steps _ _ _ (T15.setTop (mkF m 4 #[rv a_STAIRS] [(.ref a_TRAVELATOR), (.ref a_STAIRS)])) _
    refine Jvm.RoadKit.acmp (g := (mkF m 4 #[rv a_STAIRS] [(.ref a_TRAVELATOR), (.ref a_STAIRS)])) X15 hx rfl rfl rfl (pc0 := 4) (pc' := 7) (same := false) rfl (hb hby d2_4) rfl (decide_eq_false fun q => (own_ne R_STAIRS_ordinal R_TRAVELATOR_ordinal (by decide)) (Value.ref.inj q)) (by decide) (by decide) ?_
    show Steps _ _ _ (T15.setTop (mkF m 7 #[rv a_STAIRS] [])) _
    refine XS.aloadN X15.here hx rfl (hb hby d2_7) rfl rfl ?_
    show Steps _ _ _ (T15.setTop (mkF m 8 #[rv a_STAIRS] [(.ref a_STAIRS)])) _
    exact q
  obtain ⟨T17, X17, e17, st17⟩ := getS2 X15 hx hZ hown (host := "") (Or.inl (hw _ (wd 33 rfl))) Via.refl e15 (S_ESCALATOR.ext O0.2) (g := (mkF m 8 #[rv a_STAIRS] [(.ref a_STAIRS)])) rfl (hb hby d2_8)
  have k_18 : Go p.tables e below (s₁.setTop (entryFrame m #[(.ref a_STAIRS)] 1)) (T17.setTop (mkF m 15 #[rv a_STAIRS] [(.ref a_STAIRS)])) := fun t q => by
    refine k_16 t ?_
    refine st17 _ ?_
    show Steps _ _ _ (T17.setTop (mkF m 11 #[rv a_STAIRS] [(.ref a_ESCALATOR), (.ref a_STAIRS)])) _
    refine Jvm.RoadKit.acmp (g := (mkF m 11 #[rv a_STAIRS] [(.ref a_ESCALATOR), (.ref a_STAIRS)])) X17 hx rfl rfl rfl (pc0 := 11) (pc' := 14) (same := false) rfl (hb hby d2_11) rfl (decide_eq_false fun q => (own_ne R_STAIRS_ordinal R_ESCALATOR_ordinal (by decide)) (Value.ref.inj q)) (by decide) (by decide) ?_
    show Steps _ _ _ (T17.setTop (mkF m 14 #[rv a_STAIRS] [])) _
    refine XS.aloadN X17.here hx rfl (hb hby d2_14) rfl rfl ?_
    show Steps _ _ _ (T17.setTop (mkF m 15 #[rv a_STAIRS] [(.ref a_STAIRS)])) _
    exact q
  obtain ⟨T19, X19, e19, st19⟩ := getS2 X17 hx hZ hown (host := "") (Or.inl (hw _ (wd 34 rfl))) Via.refl e17 (S_ELEVATOR.ext O0.2) (g := (mkF m 15 #[rv a_STAIRS] [(.ref a_STAIRS)])) rfl (hb hby d2_15)
  have k_20 : Go p.tables e below (s₁.setTop (entryFrame m #[(.ref a_STAIRS)] 1)) (T19.setTop (mkF m 26 #[rv a_STAIRS] [(.int 0)])) := fun t q => by
    refine k_18 t ?_
    refine st19 _ ?_
    show Steps _ _ _ (T19.setTop (mkF m 18 #[rv a_STAIRS] [(.ref a_ELEVATOR), (.ref a_STAIRS)])) _
    refine Jvm.RoadKit.acmp (g := (mkF m 18 #[rv a_STAIRS] [(.ref a_ELEVATOR), (.ref a_STAIRS)])) X19 hx rfl rfl rfl (pc0 := 18) (pc' := 25) (same := false) rfl (hb hby d2_18) rfl (decide_eq_false fun q => (own_ne R_STAIRS_ordinal R_ELEVATOR_ordinal (by decide)) (Value.ref.inj q)) (by decide) (by decide) ?_
    show Steps _ _ _ (T19.setTop (mkF m 25 #[rv a_STAIRS] [])) _
    refine XS.iconst X19.here hx rfl (hb hby d2_25) ?_
    show Steps _ _ _ (T19.setTop (mkF m 26 #[rv a_STAIRS] [(.int 0)])) _
    exact q
  obtain ⟨fs, hr, hrun, hended, hW, hsame⟩ := X19.leave (v := some (.int 0)) (fun h => by rw [Bd.returns] at h; cases h)
  refine ⟨_, _, k_20 _ ?_, hrun, hended, _, _, rfl, ?_, ⟨_, rfl⟩, hW, hsame.mono (by decide) (by decide)⟩
  · exact retN X19 hx (t := .boolean) Bd.returns (by simp) (hb hby d2_26) hr
  · show QV (some (.int 0)) h0 n0 _ T19.heap _
    rw [e19]
    exact ⟨rfl, N0, rfl⟩
set_option maxRecDepth 65536 in
set_option maxHeartbeats 40000000 in
theorem cd_2 (l : Launch) (Z : State) (a0 : Array Value) (hw : ∀ d ∈ tables_1, d.before a0 Z = true) (ws : List Jvm.Cond) (a_WALKWAY a_STAIRS a_TRAVELATOR a_ESCALATOR a_ELEVATOR a_FARE_GATE a_EXIT_GATE a_CONTROL : Addr) (G : Own Z a_WALKWAY a_STAIRS a_TRAVELATOR a_ESCALATOR a_ELEVATOR a_FARE_GATE a_EXIT_GATE a_CONTROL)  (h0 : Heap) (n0 : Nat) (O0 : Old Z n0 h0)  :
    MetFree l y_0 (head1 (Jvm.Cond.code y_0 prog_65_method_4_code 1 (some .int) :: ws) ({ frames := 0, cells := 0, slots := 0, locals := 0 } : Room)) (fun a U => a = #[(.ref a_TRAVELATOR)] ∧ Z.Warmed39 U.vm ∧ U.heap = h0) (fun _ _ _ _ _ => True) (fun _ U o U' => ∃ v L, o = .returned v ∧ QV (some (.int 3)) h0 n0 v U'.heap L ∧ FrameEnd U o U' L ({ frames := 0, cells := 0, slots := 0, locals := 0 } : Room).cells ({ frames := 0, cells := 0, slots := 0, locals := 0 } : Room).slots) := by
  refine MetFree.of_bodySF (plainFor_of_name pn_0) hisR ?_
  intro p e s m args below meth c s₁ Bd hml0 hP hK
  obtain ⟨rfl, hZ, hh⟩ := hP
  have hx := Bd.exec
  have hby := Bd.bytes
  have hml : c.maxLocals = 1 := hml0
  have hown : s.vm.findClass "com/example/stationgraph/stationgraph/station/PathwayMode" = some m.cls := findClass_of_methodNamed Bd.named
  have hnm := (name_of_methodNamed Bd.named Bd.method).1
  have X0 : Stand p l e ({ frames := 0, cells := 0, slots := 0, locals := 0 } : Room) s m #[(.ref a_TRAVELATOR)] below meth c s₁ [] 0 0 := Stand.of_body Bd
  have e0 : s₁.heap = h0 := by rw [← hh, Bd.state]; rfl
  have N0 := Fr.nil n0
  have K0 := Keep.refl h0 []
  have k0 : Go p.tables e below (s₁.setTop (entryFrame m #[(.ref a_TRAVELATOR)] 1)) (s₁.setTop (mkF m 0 #[rv a_TRAVELATOR] [])) := fun t k => castTop (by first | rfl | (simp [entryFrame, mkF, argsToLocals, Value.category]; done)) k
  have ⟨S_WALKWAY, E_WALKWAY, S_STAIRS, E_STAIRS, S_TRAVELATOR, E_TRAVELATOR, S_ESCALATOR, E_ESCALATOR, S_ELEVATOR, E_ELEVATOR, S_FARE_GATE, E_FARE_GATE, S_EXIT_GATE, E_EXIT_GATE, S_CONTROL, E_CONTROL, R_WALKWAY_code, R_WALKWAY_ordinal, R_TRAVELATOR_ordinal, R_ESCALATOR_ordinal, R_ELEVATOR_ordinal, R_ESCALATOR_code, R_EXIT_GATE_code, R_EXIT_GATE_ordinal, R_CONTROL_code, R_CONTROL_ordinal, R_TRAVELATOR_code, R_STAIRS_code, R_STAIRS_ordinal, R_ELEVATOR_code, R_FARE_GATE_code, R_FARE_GATE_ordinal⟩ := G
  have k_21 : Go p.tables e below (s₁.setTop (entryFrame m #[(.ref a_TRAVELATOR)] 1)) (s₁.setTop (mkF m 1 #[rv a_TRAVELATOR] [(.ref a_TRAVELATOR)])) := fun t q => by
    refine k0 t ?_
    refine XS.aloadN X0.here hx rfl (hb hby d1_0) rfl rfl ?_
    show Steps _ _ _ (s₁.setTop (mkF m 1 #[rv a_TRAVELATOR] [(.ref a_TRAVELATOR)])) _
    exact q
  obtain ⟨T22, X22, e22, st22⟩ := getF X0 hx hZ hown (host := "") (Or.inl (hw _ (wd 25 rfl))) Via.refl e0 (Fld.ext O0.2 R_TRAVELATOR_code) (g := (mkF m 1 #[rv a_TRAVELATOR] [(.ref a_TRAVELATOR)])) rfl rfl (hb hby d1_1)
  have k_23 : Go p.tables e below (s₁.setTop (entryFrame m #[(.ref a_TRAVELATOR)] 1)) (T22.setTop (mkF m 4 #[rv a_TRAVELATOR] [(.int 3)])) := fun t q => by
    refine k_21 t ?_
    refine st22 _ ?_
    show Steps _ _ _ (T22.setTop (mkF m 4 #[rv a_TRAVELATOR] [(.int 3)])) _
    exact q
  obtain ⟨fs, hr, hrun, hended, hW, hsame⟩ := X22.leave (v := some (.int 3)) (fun h => by rw [Bd.returns] at h; cases h)
  refine ⟨_, _, k_23 _ ?_, hrun, hended, _, _, rfl, ?_, ⟨_, rfl⟩, hW, hsame.mono (by decide) (by decide)⟩
  · exact retOut X22 hx Bd.returns rfl (Or.inl ⟨rfl, Or.inl rfl, _, rfl⟩) (hb hby d1_4) hr
  · show QV (some (.int 3)) h0 n0 _ T22.heap _
    rw [e22]
    exact ⟨rfl, N0, rfl⟩
set_option maxRecDepth 65536 in
set_option maxHeartbeats 40000000 in
theorem me_2 (l : Launch) (Z : State) (a0 : Array Value) (hw : ∀ d ∈ tables_1, d.before a0 Z = true) (ws : List Jvm.Cond) (a_WALKWAY a_STAIRS a_TRAVELATOR a_ESCALATOR a_ELEVATOR a_FARE_GATE a_EXIT_GATE a_CONTROL : Addr) (G : Own Z a_WALKWAY a_STAIRS a_TRAVELATOR a_ESCALATOR a_ELEVATOR a_FARE_GATE a_EXIT_GATE a_CONTROL)  (h0 : Heap) (n0 : Nat) (O0 : Old Z n0 h0)  :
    MetFree l y_1 (head1 (Jvm.Cond.code y_1 prog_65_method_6_code 1 (some .boolean) :: ws) ({ frames := 0, cells := 0, slots := 0, locals := 0 } : Room)) (fun a U => a = #[(.ref a_TRAVELATOR)] ∧ Z.Warmed39 U.vm ∧ U.heap = h0) (fun _ _ _ _ _ => True) (fun _ U o U' => ∃ v L, o = .returned v ∧ QV (some (.int 1)) h0 n0 v U'.heap L ∧ FrameEnd U o U' L ({ frames := 0, cells := 0, slots := 0, locals := 0 } : Room).cells ({ frames := 0, cells := 0, slots := 0, locals := 0 } : Room).slots) := by
  refine MetFree.of_bodySF (plainFor_of_name pn_0) hisR ?_
  intro p e s m args below meth c s₁ Bd hml0 hP hK
  obtain ⟨rfl, hZ, hh⟩ := hP
  have hx := Bd.exec
  have hby := Bd.bytes
  have hml : c.maxLocals = 1 := hml0
  have hown : s.vm.findClass "com/example/stationgraph/stationgraph/station/PathwayMode" = some m.cls := findClass_of_methodNamed Bd.named
  have hnm := (name_of_methodNamed Bd.named Bd.method).1
  have X0 : Stand p l e ({ frames := 0, cells := 0, slots := 0, locals := 0 } : Room) s m #[(.ref a_TRAVELATOR)] below meth c s₁ [] 0 0 := Stand.of_body Bd
  have e0 : s₁.heap = h0 := by rw [← hh, Bd.state]; rfl
  have N0 := Fr.nil n0
  have K0 := Keep.refl h0 []
  have k0 : Go p.tables e below (s₁.setTop (entryFrame m #[(.ref a_TRAVELATOR)] 1)) (s₁.setTop (mkF m 0 #[rv a_TRAVELATOR] [])) := fun t k => castTop (by first | rfl | (simp [entryFrame, mkF, argsToLocals, Value.category]; done)) k
  have ⟨S_WALKWAY, E_WALKWAY, S_STAIRS, E_STAIRS, S_TRAVELATOR, E_TRAVELATOR, S_ESCALATOR, E_ESCALATOR, S_ELEVATOR, E_ELEVATOR, S_FARE_GATE, E_FARE_GATE, S_EXIT_GATE, E_EXIT_GATE, S_CONTROL, E_CONTROL, R_WALKWAY_code, R_WALKWAY_ordinal, R_TRAVELATOR_ordinal, R_ESCALATOR_ordinal, R_ELEVATOR_ordinal, R_ESCALATOR_code, R_EXIT_GATE_code, R_EXIT_GATE_ordinal, R_CONTROL_code, R_CONTROL_ordinal, R_TRAVELATOR_code, R_STAIRS_code, R_STAIRS_ordinal, R_ELEVATOR_code, R_FARE_GATE_code, R_FARE_GATE_ordinal⟩ := G
  have k_24 : Go p.tables e below (s₁.setTop (entryFrame m #[(.ref a_TRAVELATOR)] 1)) (s₁.setTop (mkF m 1 #[rv a_TRAVELATOR] [(.ref a_TRAVELATOR)])) := fun t q => by
    refine k0 t ?_
    refine XS.aloadN X0.here hx rfl (hb hby d2_0) rfl rfl ?_
    show Steps _ _ _ (s₁.setTop (mkF m 1 #[rv a_TRAVELATOR] [(.ref a_TRAVELATOR)])) _
    exact q
  obtain ⟨T25, X25, e25, st25⟩ := getS2 X0 hx hZ hown (host := "") (Or.inl (hw _ (wd 32 rfl))) Via.refl e0 (S_TRAVELATOR.ext O0.2) (g := (mkF m 1 #[rv a_TRAVELATOR] [(.ref a_TRAVELATOR)])) rfl (hb hby d2_1)
  have k_26 : Go p.tables e below (s₁.setTop (entryFrame m #[(.ref a_TRAVELATOR)] 1)) (T25.setTop (mkF m 26 #[rv a_TRAVELATOR] [(.int 1)])) := fun t q => by
    refine k_24 t ?_
    refine st25 _ ?_
    show Steps _ _ _ (T25.setTop (mkF m 4 #[rv a_TRAVELATOR] [(.ref a_TRAVELATOR), (.ref a_TRAVELATOR)])) _
    refine Jvm.RoadKit.acmp (g := (mkF m 4 #[rv a_TRAVELATOR] [(.ref a_TRAVELATOR), (.ref a_TRAVELATOR)])) X25 hx rfl rfl rfl (pc0 := 4) (pc' := 21) (same := true) rfl (hb hby d2_4) rfl (decide_eq_true rfl) (by decide) (by decide) ?_
    show Steps _ _ _ (T25.setTop (mkF m 21 #[rv a_TRAVELATOR] [])) _
    refine XS.iconst X25.here hx rfl (hb hby d2_21) ?_
    show Steps _ _ _ (T25.setTop (mkF m 22 #[rv a_TRAVELATOR] [(.int 1)])) _
    refine XS.goto X25.here hx rfl (pc0 := 22) (pc' := 26) rfl (hb hby d2_22) (by decide) (by decide) ?_
    show Steps _ _ _ (T25.setTop (mkF m 26 #[rv a_TRAVELATOR] [(.int 1)])) _
    exact q
  obtain ⟨fs, hr, hrun, hended, hW, hsame⟩ := X25.leave (v := some (.int 1)) (fun h => by rw [Bd.returns] at h; cases h)
  refine ⟨_, _, k_26 _ ?_, hrun, hended, _, _, rfl, ?_, ⟨_, rfl⟩, hW, hsame.mono (by decide) (by decide)⟩
  · exact retN X25 hx (t := .boolean) Bd.returns (by simp) (hb hby d2_26) hr
  · show QV (some (.int 1)) h0 n0 _ T25.heap _
    rw [e25]
    exact ⟨rfl, N0, rfl⟩
set_option maxRecDepth 65536 in
set_option maxHeartbeats 40000000 in
theorem cd_3 (l : Launch) (Z : State) (a0 : Array Value) (hw : ∀ d ∈ tables_1, d.before a0 Z = true) (ws : List Jvm.Cond) (a_WALKWAY a_STAIRS a_TRAVELATOR a_ESCALATOR a_ELEVATOR a_FARE_GATE a_EXIT_GATE a_CONTROL : Addr) (G : Own Z a_WALKWAY a_STAIRS a_TRAVELATOR a_ESCALATOR a_ELEVATOR a_FARE_GATE a_EXIT_GATE a_CONTROL)  (h0 : Heap) (n0 : Nat) (O0 : Old Z n0 h0)  :
    MetFree l y_0 (head1 (Jvm.Cond.code y_0 prog_65_method_4_code 1 (some .int) :: ws) ({ frames := 0, cells := 0, slots := 0, locals := 0 } : Room)) (fun a U => a = #[(.ref a_ESCALATOR)] ∧ Z.Warmed39 U.vm ∧ U.heap = h0) (fun _ _ _ _ _ => True) (fun _ U o U' => ∃ v L, o = .returned v ∧ QV (some (.int 4)) h0 n0 v U'.heap L ∧ FrameEnd U o U' L ({ frames := 0, cells := 0, slots := 0, locals := 0 } : Room).cells ({ frames := 0, cells := 0, slots := 0, locals := 0 } : Room).slots) := by
  refine MetFree.of_bodySF (plainFor_of_name pn_0) hisR ?_
  intro p e s m args below meth c s₁ Bd hml0 hP hK
  obtain ⟨rfl, hZ, hh⟩ := hP
  have hx := Bd.exec
  have hby := Bd.bytes
  have hml : c.maxLocals = 1 := hml0
  have hown : s.vm.findClass "com/example/stationgraph/stationgraph/station/PathwayMode" = some m.cls := findClass_of_methodNamed Bd.named
  have hnm := (name_of_methodNamed Bd.named Bd.method).1
  have X0 : Stand p l e ({ frames := 0, cells := 0, slots := 0, locals := 0 } : Room) s m #[(.ref a_ESCALATOR)] below meth c s₁ [] 0 0 := Stand.of_body Bd
  have e0 : s₁.heap = h0 := by rw [← hh, Bd.state]; rfl
  have N0 := Fr.nil n0
  have K0 := Keep.refl h0 []
  have k0 : Go p.tables e below (s₁.setTop (entryFrame m #[(.ref a_ESCALATOR)] 1)) (s₁.setTop (mkF m 0 #[rv a_ESCALATOR] [])) := fun t k => castTop (by first | rfl | (simp [entryFrame, mkF, argsToLocals, Value.category]; done)) k
  have ⟨S_WALKWAY, E_WALKWAY, S_STAIRS, E_STAIRS, S_TRAVELATOR, E_TRAVELATOR, S_ESCALATOR, E_ESCALATOR, S_ELEVATOR, E_ELEVATOR, S_FARE_GATE, E_FARE_GATE, S_EXIT_GATE, E_EXIT_GATE, S_CONTROL, E_CONTROL, R_WALKWAY_code, R_WALKWAY_ordinal, R_TRAVELATOR_ordinal, R_ESCALATOR_ordinal, R_ELEVATOR_ordinal, R_ESCALATOR_code, R_EXIT_GATE_code, R_EXIT_GATE_ordinal, R_CONTROL_code, R_CONTROL_ordinal, R_TRAVELATOR_code, R_STAIRS_code, R_STAIRS_ordinal, R_ELEVATOR_code, R_FARE_GATE_code, R_FARE_GATE_ordinal⟩ := G
  have k_27 : Go p.tables e below (s₁.setTop (entryFrame m #[(.ref a_ESCALATOR)] 1)) (s₁.setTop (mkF m 1 #[rv a_ESCALATOR] [(.ref a_ESCALATOR)])) := fun t q => by
    refine k0 t ?_
    refine XS.aloadN X0.here hx rfl (hb hby d1_0) rfl rfl ?_
    show Steps _ _ _ (s₁.setTop (mkF m 1 #[rv a_ESCALATOR] [(.ref a_ESCALATOR)])) _
    exact q
  obtain ⟨T28, X28, e28, st28⟩ := getF X0 hx hZ hown (host := "") (Or.inl (hw _ (wd 25 rfl))) Via.refl e0 (Fld.ext O0.2 R_ESCALATOR_code) (g := (mkF m 1 #[rv a_ESCALATOR] [(.ref a_ESCALATOR)])) rfl rfl (hb hby d1_1)
  have k_29 : Go p.tables e below (s₁.setTop (entryFrame m #[(.ref a_ESCALATOR)] 1)) (T28.setTop (mkF m 4 #[rv a_ESCALATOR] [(.int 4)])) := fun t q => by
    refine k_27 t ?_
    refine st28 _ ?_
    show Steps _ _ _ (T28.setTop (mkF m 4 #[rv a_ESCALATOR] [(.int 4)])) _
    exact q
  obtain ⟨fs, hr, hrun, hended, hW, hsame⟩ := X28.leave (v := some (.int 4)) (fun h => by rw [Bd.returns] at h; cases h)
  refine ⟨_, _, k_29 _ ?_, hrun, hended, _, _, rfl, ?_, ⟨_, rfl⟩, hW, hsame.mono (by decide) (by decide)⟩
  · exact retOut X28 hx Bd.returns rfl (Or.inl ⟨rfl, Or.inl rfl, _, rfl⟩) (hb hby d1_4) hr
  · show QV (some (.int 4)) h0 n0 _ T28.heap _
    rw [e28]
    exact ⟨rfl, N0, rfl⟩
set_option maxRecDepth 65536 in
set_option maxHeartbeats 40000000 in
theorem me_3 (l : Launch) (Z : State) (a0 : Array Value) (hw : ∀ d ∈ tables_1, d.before a0 Z = true) (ws : List Jvm.Cond) (a_WALKWAY a_STAIRS a_TRAVELATOR a_ESCALATOR a_ELEVATOR a_FARE_GATE a_EXIT_GATE a_CONTROL : Addr) (G : Own Z a_WALKWAY a_STAIRS a_TRAVELATOR a_ESCALATOR a_ELEVATOR a_FARE_GATE a_EXIT_GATE a_CONTROL)  (h0 : Heap) (n0 : Nat) (O0 : Old Z n0 h0)  :
    MetFree l y_1 (head1 (Jvm.Cond.code y_1 prog_65_method_6_code 1 (some .boolean) :: ws) ({ frames := 0, cells := 0, slots := 0, locals := 0 } : Room)) (fun a U => a = #[(.ref a_ESCALATOR)] ∧ Z.Warmed39 U.vm ∧ U.heap = h0) (fun _ _ _ _ _ => True) (fun _ U o U' => ∃ v L, o = .returned v ∧ QV (some (.int 1)) h0 n0 v U'.heap L ∧ FrameEnd U o U' L ({ frames := 0, cells := 0, slots := 0, locals := 0 } : Room).cells ({ frames := 0, cells := 0, slots := 0, locals := 0 } : Room).slots) := by
  refine MetFree.of_bodySF (plainFor_of_name pn_0) hisR ?_
  intro p e s m args below meth c s₁ Bd hml0 hP hK
  obtain ⟨rfl, hZ, hh⟩ := hP
  have hx := Bd.exec
  have hby := Bd.bytes
  have hml : c.maxLocals = 1 := hml0
  have hown : s.vm.findClass "com/example/stationgraph/stationgraph/station/PathwayMode" = some m.cls := findClass_of_methodNamed Bd.named
  have hnm := (name_of_methodNamed Bd.named Bd.method).1
  have X0 : Stand p l e ({ frames := 0, cells := 0, slots := 0, locals := 0 } : Room) s m #[(.ref a_ESCALATOR)] below meth c s₁ [] 0 0 := Stand.of_body Bd
  have e0 : s₁.heap = h0 := by rw [← hh, Bd.state]; rfl
  have N0 := Fr.nil n0
  have K0 := Keep.refl h0 []
  have k0 : Go p.tables e below (s₁.setTop (entryFrame m #[(.ref a_ESCALATOR)] 1)) (s₁.setTop (mkF m 0 #[rv a_ESCALATOR] [])) := fun t k => castTop (by first | rfl | (simp [entryFrame, mkF, argsToLocals, Value.category]; done)) k
  have ⟨S_WALKWAY, E_WALKWAY, S_STAIRS, E_STAIRS, S_TRAVELATOR, E_TRAVELATOR, S_ESCALATOR, E_ESCALATOR, S_ELEVATOR, E_ELEVATOR, S_FARE_GATE, E_FARE_GATE, S_EXIT_GATE, E_EXIT_GATE, S_CONTROL, E_CONTROL, R_WALKWAY_code, R_WALKWAY_ordinal, R_TRAVELATOR_ordinal, R_ESCALATOR_ordinal, R_ELEVATOR_ordinal, R_ESCALATOR_code, R_EXIT_GATE_code, R_EXIT_GATE_ordinal, R_CONTROL_code, R_CONTROL_ordinal, R_TRAVELATOR_code, R_STAIRS_code, R_STAIRS_ordinal, R_ELEVATOR_code, R_FARE_GATE_code, R_FARE_GATE_ordinal⟩ := G
  have k_30 : Go p.tables e below (s₁.setTop (entryFrame m #[(.ref a_ESCALATOR)] 1)) (s₁.setTop (mkF m 1 #[rv a_ESCALATOR] [(.ref a_ESCALATOR)])) := fun t q => by
    refine k0 t ?_
    refine XS.aloadN X0.here hx rfl (hb hby d2_0) rfl rfl ?_
    show Steps _ _ _ (s₁.setTop (mkF m 1 #[rv a_ESCALATOR] [(.ref a_ESCALATOR)])) _
    exact q
  obtain ⟨T31, X31, e31, st31⟩ := getS2 X0 hx hZ hown (host := "") (Or.inl (hw _ (wd 32 rfl))) Via.refl e0 (S_TRAVELATOR.ext O0.2) (g := (mkF m 1 #[rv a_ESCALATOR] [(.ref a_ESCALATOR)])) rfl (hb hby d2_1)
  have k_32 : Go p.tables e below (s₁.setTop (entryFrame m #[(.ref a_ESCALATOR)] 1)) (T31.setTop (mkF m 8 #[rv a_ESCALATOR] [(.ref a_ESCALATOR)])) := fun t q => by
    refine k_30 t ?_
    refine st31 _ ?_
    show Steps _ _ _ (T31.setTop (mkF m 4 #[rv a_ESCALATOR] [(.ref a_TRAVELATOR), (.ref a_ESCALATOR)])) _
    refine Jvm.RoadKit.acmp (g := (mkF m 4 #[rv a_ESCALATOR] [(.ref a_TRAVELATOR), (.ref a_ESCALATOR)])) X31 hx rfl rfl rfl (pc0 := 4) (pc' := 7) (same := false) rfl (hb hby d2_4) rfl (decide_eq_false fun q => (own_ne R_ESCALATOR_ordinal R_TRAVELATOR_ordinal (by decide)) (Value.ref.inj q)) (by decide) (by decide) ?_
    show Steps _ _ _ (T31.setTop (mkF m 7 #[rv a_ESCALATOR] [])) _
    refine XS.aloadN X31.here hx rfl (hb hby d2_7) rfl rfl ?_
    show Steps _ _ _ (T31.setTop (mkF m 8 #[rv a_ESCALATOR] [(.ref a_ESCALATOR)])) _
    exact q
  obtain ⟨T33, X33, e33, st33⟩ := getS2 X31 hx hZ hown (host := "") (Or.inl (hw _ (wd 33 rfl))) Via.refl e31 (S_ESCALATOR.ext O0.2) (g := (mkF m 8 #[rv a_ESCALATOR] [(.ref a_ESCALATOR)])) rfl (hb hby d2_8)
  have k_34 : Go p.tables e below (s₁.setTop (entryFrame m #[(.ref a_ESCALATOR)] 1)) (T33.setTop (mkF m 26 #[rv a_ESCALATOR] [(.int 1)])) := fun t q => by
    refine k_32 t ?_
    refine st33 _ ?_
    show Steps _ _ _ (T33.setTop (mkF m 11 #[rv a_ESCALATOR] [(.ref a_ESCALATOR), (.ref a_ESCALATOR)])) _
    refine Jvm.RoadKit.acmp (g := (mkF m 11 #[rv a_ESCALATOR] [(.ref a_ESCALATOR), (.ref a_ESCALATOR)])) X33 hx rfl rfl rfl (pc0 := 11) (pc' := 21) (same := true) rfl (hb hby d2_11) rfl (decide_eq_true rfl) (by decide) (by decide) ?_
    show Steps _ _ _ (T33.setTop (mkF m 21 #[rv a_ESCALATOR] [])) _
    refine XS.iconst X33.here hx rfl (hb hby d2_21) ?_
    show Steps _ _ _ (T33.setTop (mkF m 22 #[rv a_ESCALATOR] [(.int 1)])) _
    refine XS.goto X33.here hx rfl (pc0 := 22) (pc' := 26) rfl (hb hby d2_22) (by decide) (by decide) ?_
    show Steps _ _ _ (T33.setTop (mkF m 26 #[rv a_ESCALATOR] [(.int 1)])) _
    exact q
  obtain ⟨fs, hr, hrun, hended, hW, hsame⟩ := X33.leave (v := some (.int 1)) (fun h => by rw [Bd.returns] at h; cases h)
  refine ⟨_, _, k_34 _ ?_, hrun, hended, _, _, rfl, ?_, ⟨_, rfl⟩, hW, hsame.mono (by decide) (by decide)⟩
  · exact retN X33 hx (t := .boolean) Bd.returns (by simp) (hb hby d2_26) hr
  · show QV (some (.int 1)) h0 n0 _ T33.heap _
    rw [e33]
    exact ⟨rfl, N0, rfl⟩
set_option maxRecDepth 65536 in
set_option maxHeartbeats 40000000 in
theorem cd_4 (l : Launch) (Z : State) (a0 : Array Value) (hw : ∀ d ∈ tables_1, d.before a0 Z = true) (ws : List Jvm.Cond) (a_WALKWAY a_STAIRS a_TRAVELATOR a_ESCALATOR a_ELEVATOR a_FARE_GATE a_EXIT_GATE a_CONTROL : Addr) (G : Own Z a_WALKWAY a_STAIRS a_TRAVELATOR a_ESCALATOR a_ELEVATOR a_FARE_GATE a_EXIT_GATE a_CONTROL)  (h0 : Heap) (n0 : Nat) (O0 : Old Z n0 h0)  :
    MetFree l y_0 (head1 (Jvm.Cond.code y_0 prog_65_method_4_code 1 (some .int) :: ws) ({ frames := 0, cells := 0, slots := 0, locals := 0 } : Room)) (fun a U => a = #[(.ref a_ELEVATOR)] ∧ Z.Warmed39 U.vm ∧ U.heap = h0) (fun _ _ _ _ _ => True) (fun _ U o U' => ∃ v L, o = .returned v ∧ QV (some (.int 5)) h0 n0 v U'.heap L ∧ FrameEnd U o U' L ({ frames := 0, cells := 0, slots := 0, locals := 0 } : Room).cells ({ frames := 0, cells := 0, slots := 0, locals := 0 } : Room).slots) := by
  refine MetFree.of_bodySF (plainFor_of_name pn_0) hisR ?_
  intro p e s m args below meth c s₁ Bd hml0 hP hK
  obtain ⟨rfl, hZ, hh⟩ := hP
  have hx := Bd.exec
  have hby := Bd.bytes
  have hml : c.maxLocals = 1 := hml0
  have hown : s.vm.findClass "com/example/stationgraph/stationgraph/station/PathwayMode" = some m.cls := findClass_of_methodNamed Bd.named
  have hnm := (name_of_methodNamed Bd.named Bd.method).1
  have X0 : Stand p l e ({ frames := 0, cells := 0, slots := 0, locals := 0 } : Room) s m #[(.ref a_ELEVATOR)] below meth c s₁ [] 0 0 := Stand.of_body Bd
  have e0 : s₁.heap = h0 := by rw [← hh, Bd.state]; rfl
  have N0 := Fr.nil n0
  have K0 := Keep.refl h0 []
  have k0 : Go p.tables e below (s₁.setTop (entryFrame m #[(.ref a_ELEVATOR)] 1)) (s₁.setTop (mkF m 0 #[rv a_ELEVATOR] [])) := fun t k => castTop (by first | rfl | (simp [entryFrame, mkF, argsToLocals, Value.category]; done)) k
  have ⟨S_WALKWAY, E_WALKWAY, S_STAIRS, E_STAIRS, S_TRAVELATOR, E_TRAVELATOR, S_ESCALATOR, E_ESCALATOR, S_ELEVATOR, E_ELEVATOR, S_FARE_GATE, E_FARE_GATE, S_EXIT_GATE, E_EXIT_GATE, S_CONTROL, E_CONTROL, R_WALKWAY_code, R_WALKWAY_ordinal, R_TRAVELATOR_ordinal, R_ESCALATOR_ordinal, R_ELEVATOR_ordinal, R_ESCALATOR_code, R_EXIT_GATE_code, R_EXIT_GATE_ordinal, R_CONTROL_code, R_CONTROL_ordinal, R_TRAVELATOR_code, R_STAIRS_code, R_STAIRS_ordinal, R_ELEVATOR_code, R_FARE_GATE_code, R_FARE_GATE_ordinal⟩ := G
  have k_35 : Go p.tables e below (s₁.setTop (entryFrame m #[(.ref a_ELEVATOR)] 1)) (s₁.setTop (mkF m 1 #[rv a_ELEVATOR] [(.ref a_ELEVATOR)])) := fun t q => by
    refine k0 t ?_
    refine XS.aloadN X0.here hx rfl (hb hby d1_0) rfl rfl ?_
    show Steps _ _ _ (s₁.setTop (mkF m 1 #[rv a_ELEVATOR] [(.ref a_ELEVATOR)])) _
    exact q
  obtain ⟨T36, X36, e36, st36⟩ := getF X0 hx hZ hown (host := "") (Or.inl (hw _ (wd 25 rfl))) Via.refl e0 (Fld.ext O0.2 R_ELEVATOR_code) (g := (mkF m 1 #[rv a_ELEVATOR] [(.ref a_ELEVATOR)])) rfl rfl (hb hby d1_1)
  have k_37 : Go p.tables e below (s₁.setTop (entryFrame m #[(.ref a_ELEVATOR)] 1)) (T36.setTop (mkF m 4 #[rv a_ELEVATOR] [(.int 5)])) := fun t q => by
    refine k_35 t ?_
    refine st36 _ ?_
    show Steps _ _ _ (T36.setTop (mkF m 4 #[rv a_ELEVATOR] [(.int 5)])) _
    exact q
  obtain ⟨fs, hr, hrun, hended, hW, hsame⟩ := X36.leave (v := some (.int 5)) (fun h => by rw [Bd.returns] at h; cases h)
  refine ⟨_, _, k_37 _ ?_, hrun, hended, _, _, rfl, ?_, ⟨_, rfl⟩, hW, hsame.mono (by decide) (by decide)⟩
  · exact retOut X36 hx Bd.returns rfl (Or.inl ⟨rfl, Or.inl rfl, _, rfl⟩) (hb hby d1_4) hr
  · show QV (some (.int 5)) h0 n0 _ T36.heap _
    rw [e36]
    exact ⟨rfl, N0, rfl⟩
set_option maxRecDepth 65536 in
set_option maxHeartbeats 40000000 in
theorem me_4 (l : Launch) (Z : State) (a0 : Array Value) (hw : ∀ d ∈ tables_1, d.before a0 Z = true) (ws : List Jvm.Cond) (a_WALKWAY a_STAIRS a_TRAVELATOR a_ESCALATOR a_ELEVATOR a_FARE_GATE a_EXIT_GATE a_CONTROL : Addr) (G : Own Z a_WALKWAY a_STAIRS a_TRAVELATOR a_ESCALATOR a_ELEVATOR a_FARE_GATE a_EXIT_GATE a_CONTROL)  (h0 : Heap) (n0 : Nat) (O0 : Old Z n0 h0)  :
    MetFree l y_1 (head1 (Jvm.Cond.code y_1 prog_65_method_6_code 1 (some .boolean) :: ws) ({ frames := 0, cells := 0, slots := 0, locals := 0 } : Room)) (fun a U => a = #[(.ref a_ELEVATOR)] ∧ Z.Warmed39 U.vm ∧ U.heap = h0) (fun _ _ _ _ _ => True) (fun _ U o U' => ∃ v L, o = .returned v ∧ QV (some (.int 1)) h0 n0 v U'.heap L ∧ FrameEnd U o U' L ({ frames := 0, cells := 0, slots := 0, locals := 0 } : Room).cells ({ frames := 0, cells := 0, slots := 0, locals := 0 } : Room).slots) := by
  refine MetFree.of_bodySF (plainFor_of_name pn_0) hisR ?_
  intro p e s m args below meth c s₁ Bd hml0 hP hK
  obtain ⟨rfl, hZ, hh⟩ := hP
  have hx := Bd.exec
  have hby := Bd.bytes
  have hml : c.maxLocals = 1 := hml0
  have hown : s.vm.findClass "com/example/stationgraph/stationgraph/station/PathwayMode" = some m.cls := findClass_of_methodNamed Bd.named
  have hnm := (name_of_methodNamed Bd.named Bd.method).1
  have X0 : Stand p l e ({ frames := 0, cells := 0, slots := 0, locals := 0 } : Room) s m #[(.ref a_ELEVATOR)] below meth c s₁ [] 0 0 := Stand.of_body Bd
  have e0 : s₁.heap = h0 := by rw [← hh, Bd.state]; rfl
  have N0 := Fr.nil n0
  have K0 := Keep.refl h0 []
  have k0 : Go p.tables e below (s₁.setTop (entryFrame m #[(.ref a_ELEVATOR)] 1)) (s₁.setTop (mkF m 0 #[rv a_ELEVATOR] [])) := fun t k => castTop (by first | rfl | (simp [entryFrame, mkF, argsToLocals, Value.category]; done)) k
  have ⟨S_WALKWAY, E_WALKWAY, S_STAIRS, E_STAIRS, S_TRAVELATOR, E_TRAVELATOR, S_ESCALATOR, E_ESCALATOR, S_ELEVATOR, E_ELEVATOR, S_FARE_GATE, E_FARE_GATE, S_EXIT_GATE, E_EXIT_GATE, S_CONTROL, E_CONTROL, R_WALKWAY_code, R_WALKWAY_ordinal, R_TRAVELATOR_ordinal, R_ESCALATOR_ordinal, R_ELEVATOR_ordinal, R_ESCALATOR_code, R_EXIT_GATE_code, R_EXIT_GATE_ordinal, R_CONTROL_code, R_CONTROL_ordinal, R_TRAVELATOR_code, R_STAIRS_code, R_STAIRS_ordinal, R_ELEVATOR_code, R_FARE_GATE_code, R_FARE_GATE_ordinal⟩ := G
  have k_38 : Go p.tables e below (s₁.setTop (entryFrame m #[(.ref a_ELEVATOR)] 1)) (s₁.setTop (mkF m 1 #[rv a_ELEVATOR] [(.ref a_ELEVATOR)])) := fun t q => by
    refine k0 t ?_
    refine XS.aloadN X0.here hx rfl (hb hby d2_0) rfl rfl ?_
    show Steps _ _ _ (s₁.setTop (mkF m 1 #[rv a_ELEVATOR] [(.ref a_ELEVATOR)])) _
    exact q
  obtain ⟨T39, X39, e39, st39⟩ := getS2 X0 hx hZ hown (host := "") (Or.inl (hw _ (wd 32 rfl))) Via.refl e0 (S_TRAVELATOR.ext O0.2) (g := (mkF m 1 #[rv a_ELEVATOR] [(.ref a_ELEVATOR)])) rfl (hb hby d2_1)
  have k_40 : Go p.tables e below (s₁.setTop (entryFrame m #[(.ref a_ELEVATOR)] 1)) (T39.setTop (mkF m 8 #[rv a_ELEVATOR] [(.ref a_ELEVATOR)])) := fun t q => by
    refine k_38 t ?_
    refine st39 _ ?_
    show Steps _ _ _ (T39.setTop (mkF m 4 #[rv a_ELEVATOR] [(.ref a_TRAVELATOR), (.ref a_ELEVATOR)])) _
    refine Jvm.RoadKit.acmp (g := (mkF m 4 #[rv a_ELEVATOR] [(.ref a_TRAVELATOR), (.ref a_ELEVATOR)])) X39 hx rfl rfl rfl (pc0 := 4) (pc' := 7) (same := false) rfl (hb hby d2_4) rfl (decide_eq_false fun q => (own_ne R_ELEVATOR_ordinal R_TRAVELATOR_ordinal (by decide)) (Value.ref.inj q)) (by decide) (by decide) ?_
    show Steps _ _ _ (T39.setTop (mkF m 7 #[rv a_ELEVATOR] [])) _
    refine XS.aloadN X39.here hx rfl (hb hby d2_7) rfl rfl ?_
    show Steps _ _ _ (T39.setTop (mkF m 8 #[rv a_ELEVATOR] [(.ref a_ELEVATOR)])) _
    exact q
  obtain ⟨T41, X41, e41, st41⟩ := getS2 X39 hx hZ hown (host := "") (Or.inl (hw _ (wd 33 rfl))) Via.refl e39 (S_ESCALATOR.ext O0.2) (g := (mkF m 8 #[rv a_ELEVATOR] [(.ref a_ELEVATOR)])) rfl (hb hby d2_8)
  have k_42 : Go p.tables e below (s₁.setTop (entryFrame m #[(.ref a_ELEVATOR)] 1)) (T41.setTop (mkF m 15 #[rv a_ELEVATOR] [(.ref a_ELEVATOR)])) := fun t q => by
    refine k_40 t ?_
    refine st41 _ ?_
    show Steps _ _ _ (T41.setTop (mkF m 11 #[rv a_ELEVATOR] [(.ref a_ESCALATOR), (.ref a_ELEVATOR)])) _
    refine Jvm.RoadKit.acmp (g := (mkF m 11 #[rv a_ELEVATOR] [(.ref a_ESCALATOR), (.ref a_ELEVATOR)])) X41 hx rfl rfl rfl (pc0 := 11) (pc' := 14) (same := false) rfl (hb hby d2_11) rfl (decide_eq_false fun q => (own_ne R_ELEVATOR_ordinal R_ESCALATOR_ordinal (by decide)) (Value.ref.inj q)) (by decide) (by decide) ?_
    show Steps _ _ _ (T41.setTop (mkF m 14 #[rv a_ELEVATOR] [])) _
    refine XS.aloadN X41.here hx rfl (hb hby d2_14) rfl rfl ?_
    show Steps _ _ _ (T41.setTop (mkF m 15 #[rv a_ELEVATOR] [(.ref a_ELEVATOR)])) _
    exact q
  obtain ⟨T43, X43, e43, st43⟩ := getS2 X41 hx hZ hown (host := "") (Or.inl (hw _ (wd 34 rfl))) Via.refl e41 (S_ELEVATOR.ext O0.2) (g := (mkF m 15 #[rv a_ELEVATOR] [(.ref a_ELEVATOR)])) rfl (hb hby d2_15)
  have k_44 : Go p.tables e below (s₁.setTop (entryFrame m #[(.ref a_ELEVATOR)] 1)) (T43.setTop (mkF m 26 #[rv a_ELEVATOR] [(.int 1)])) := fun t q => by
    refine k_42 t ?_
    refine st43 _ ?_
    show Steps _ _ _ (T43.setTop (mkF m 18 #[rv a_ELEVATOR] [(.ref a_ELEVATOR), (.ref a_ELEVATOR)])) _
    refine Jvm.RoadKit.acmp (g := (mkF m 18 #[rv a_ELEVATOR] [(.ref a_ELEVATOR), (.ref a_ELEVATOR)])) X43 hx rfl rfl rfl (pc0 := 18) (pc' := 21) (same := true) rfl (hb hby d2_18) rfl (decide_eq_true rfl) (by decide) (by decide) ?_
    show Steps _ _ _ (T43.setTop (mkF m 21 #[rv a_ELEVATOR] [])) _
    refine XS.iconst X43.here hx rfl (hb hby d2_21) ?_
    show Steps _ _ _ (T43.setTop (mkF m 22 #[rv a_ELEVATOR] [(.int 1)])) _
    refine XS.goto X43.here hx rfl (pc0 := 22) (pc' := 26) rfl (hb hby d2_22) (by decide) (by decide) ?_
    show Steps _ _ _ (T43.setTop (mkF m 26 #[rv a_ELEVATOR] [(.int 1)])) _
    exact q
  obtain ⟨fs, hr, hrun, hended, hW, hsame⟩ := X43.leave (v := some (.int 1)) (fun h => by rw [Bd.returns] at h; cases h)
  refine ⟨_, _, k_44 _ ?_, hrun, hended, _, _, rfl, ?_, ⟨_, rfl⟩, hW, hsame.mono (by decide) (by decide)⟩
  · exact retN X43 hx (t := .boolean) Bd.returns (by simp) (hb hby d2_26) hr
  · show QV (some (.int 1)) h0 n0 _ T43.heap _
    rw [e43]
    exact ⟨rfl, N0, rfl⟩
set_option maxRecDepth 65536 in
set_option maxHeartbeats 40000000 in
theorem cd_5 (l : Launch) (Z : State) (a0 : Array Value) (hw : ∀ d ∈ tables_1, d.before a0 Z = true) (ws : List Jvm.Cond) (a_WALKWAY a_STAIRS a_TRAVELATOR a_ESCALATOR a_ELEVATOR a_FARE_GATE a_EXIT_GATE a_CONTROL : Addr) (G : Own Z a_WALKWAY a_STAIRS a_TRAVELATOR a_ESCALATOR a_ELEVATOR a_FARE_GATE a_EXIT_GATE a_CONTROL)  (h0 : Heap) (n0 : Nat) (O0 : Old Z n0 h0)  :
    MetFree l y_0 (head1 (Jvm.Cond.code y_0 prog_65_method_4_code 1 (some .int) :: ws) ({ frames := 0, cells := 0, slots := 0, locals := 0 } : Room)) (fun a U => a = #[(.ref a_FARE_GATE)] ∧ Z.Warmed39 U.vm ∧ U.heap = h0) (fun _ _ _ _ _ => True) (fun _ U o U' => ∃ v L, o = .returned v ∧ QV (some (.int 6)) h0 n0 v U'.heap L ∧ FrameEnd U o U' L ({ frames := 0, cells := 0, slots := 0, locals := 0 } : Room).cells ({ frames := 0, cells := 0, slots := 0, locals := 0 } : Room).slots) := by
  refine MetFree.of_bodySF (plainFor_of_name pn_0) hisR ?_
  intro p e s m args below meth c s₁ Bd hml0 hP hK
  obtain ⟨rfl, hZ, hh⟩ := hP
  have hx := Bd.exec
  have hby := Bd.bytes
  have hml : c.maxLocals = 1 := hml0
  have hown : s.vm.findClass "com/example/stationgraph/stationgraph/station/PathwayMode" = some m.cls := findClass_of_methodNamed Bd.named
  have hnm := (name_of_methodNamed Bd.named Bd.method).1
  have X0 : Stand p l e ({ frames := 0, cells := 0, slots := 0, locals := 0 } : Room) s m #[(.ref a_FARE_GATE)] below meth c s₁ [] 0 0 := Stand.of_body Bd
  have e0 : s₁.heap = h0 := by rw [← hh, Bd.state]; rfl
  have N0 := Fr.nil n0
  have K0 := Keep.refl h0 []
  have k0 : Go p.tables e below (s₁.setTop (entryFrame m #[(.ref a_FARE_GATE)] 1)) (s₁.setTop (mkF m 0 #[rv a_FARE_GATE] [])) := fun t k => castTop (by first | rfl | (simp [entryFrame, mkF, argsToLocals, Value.category]; done)) k
  have ⟨S_WALKWAY, E_WALKWAY, S_STAIRS, E_STAIRS, S_TRAVELATOR, E_TRAVELATOR, S_ESCALATOR, E_ESCALATOR, S_ELEVATOR, E_ELEVATOR, S_FARE_GATE, E_FARE_GATE, S_EXIT_GATE, E_EXIT_GATE, S_CONTROL, E_CONTROL, R_WALKWAY_code, R_WALKWAY_ordinal, R_TRAVELATOR_ordinal, R_ESCALATOR_ordinal, R_ELEVATOR_ordinal, R_ESCALATOR_code, R_EXIT_GATE_code, R_EXIT_GATE_ordinal, R_CONTROL_code, R_CONTROL_ordinal, R_TRAVELATOR_code, R_STAIRS_code, R_STAIRS_ordinal, R_ELEVATOR_code, R_FARE_GATE_code, R_FARE_GATE_ordinal⟩ := G
  have k_45 : Go p.tables e below (s₁.setTop (entryFrame m #[(.ref a_FARE_GATE)] 1)) (s₁.setTop (mkF m 1 #[rv a_FARE_GATE] [(.ref a_FARE_GATE)])) := fun t q => by
    refine k0 t ?_
    refine XS.aloadN X0.here hx rfl (hb hby d1_0) rfl rfl ?_
    show Steps _ _ _ (s₁.setTop (mkF m 1 #[rv a_FARE_GATE] [(.ref a_FARE_GATE)])) _
    exact q
  obtain ⟨T46, X46, e46, st46⟩ := getF X0 hx hZ hown (host := "") (Or.inl (hw _ (wd 25 rfl))) Via.refl e0 (Fld.ext O0.2 R_FARE_GATE_code) (g := (mkF m 1 #[rv a_FARE_GATE] [(.ref a_FARE_GATE)])) rfl rfl (hb hby d1_1)
  have k_47 : Go p.tables e below (s₁.setTop (entryFrame m #[(.ref a_FARE_GATE)] 1)) (T46.setTop (mkF m 4 #[rv a_FARE_GATE] [(.int 6)])) := fun t q => by
    refine k_45 t ?_
    refine st46 _ ?_
    show Steps _ _ _ (T46.setTop (mkF m 4 #[rv a_FARE_GATE] [(.int 6)])) _
    exact q
  obtain ⟨fs, hr, hrun, hended, hW, hsame⟩ := X46.leave (v := some (.int 6)) (fun h => by rw [Bd.returns] at h; cases h)
  refine ⟨_, _, k_47 _ ?_, hrun, hended, _, _, rfl, ?_, ⟨_, rfl⟩, hW, hsame.mono (by decide) (by decide)⟩
  · exact retOut X46 hx Bd.returns rfl (Or.inl ⟨rfl, Or.inl rfl, _, rfl⟩) (hb hby d1_4) hr
  · show QV (some (.int 6)) h0 n0 _ T46.heap _
    rw [e46]
    exact ⟨rfl, N0, rfl⟩
set_option maxRecDepth 65536 in
set_option maxHeartbeats 40000000 in
theorem me_5 (l : Launch) (Z : State) (a0 : Array Value) (hw : ∀ d ∈ tables_1, d.before a0 Z = true) (ws : List Jvm.Cond) (a_WALKWAY a_STAIRS a_TRAVELATOR a_ESCALATOR a_ELEVATOR a_FARE_GATE a_EXIT_GATE a_CONTROL : Addr) (G : Own Z a_WALKWAY a_STAIRS a_TRAVELATOR a_ESCALATOR a_ELEVATOR a_FARE_GATE a_EXIT_GATE a_CONTROL)  (h0 : Heap) (n0 : Nat) (O0 : Old Z n0 h0)  :
    MetFree l y_1 (head1 (Jvm.Cond.code y_1 prog_65_method_6_code 1 (some .boolean) :: ws) ({ frames := 0, cells := 0, slots := 0, locals := 0 } : Room)) (fun a U => a = #[(.ref a_FARE_GATE)] ∧ Z.Warmed39 U.vm ∧ U.heap = h0) (fun _ _ _ _ _ => True) (fun _ U o U' => ∃ v L, o = .returned v ∧ QV (some (.int 0)) h0 n0 v U'.heap L ∧ FrameEnd U o U' L ({ frames := 0, cells := 0, slots := 0, locals := 0 } : Room).cells ({ frames := 0, cells := 0, slots := 0, locals := 0 } : Room).slots) := by
  refine MetFree.of_bodySF (plainFor_of_name pn_0) hisR ?_
  intro p e s m args below meth c s₁ Bd hml0 hP hK
  obtain ⟨rfl, hZ, hh⟩ := hP
  have hx := Bd.exec
  have hby := Bd.bytes
  have hml : c.maxLocals = 1 := hml0
  have hown : s.vm.findClass "com/example/stationgraph/stationgraph/station/PathwayMode" = some m.cls := findClass_of_methodNamed Bd.named
  have hnm := (name_of_methodNamed Bd.named Bd.method).1
  have X0 : Stand p l e ({ frames := 0, cells := 0, slots := 0, locals := 0 } : Room) s m #[(.ref a_FARE_GATE)] below meth c s₁ [] 0 0 := Stand.of_body Bd
  have e0 : s₁.heap = h0 := by rw [← hh, Bd.state]; rfl
  have N0 := Fr.nil n0
  have K0 := Keep.refl h0 []
  have k0 : Go p.tables e below (s₁.setTop (entryFrame m #[(.ref a_FARE_GATE)] 1)) (s₁.setTop (mkF m 0 #[rv a_FARE_GATE] [])) := fun t k => castTop (by first | rfl | (simp [entryFrame, mkF, argsToLocals, Value.category]; done)) k
  have ⟨S_WALKWAY, E_WALKWAY, S_STAIRS, E_STAIRS, S_TRAVELATOR, E_TRAVELATOR, S_ESCALATOR, E_ESCALATOR, S_ELEVATOR, E_ELEVATOR, S_FARE_GATE, E_FARE_GATE, S_EXIT_GATE, E_EXIT_GATE, S_CONTROL, E_CONTROL, R_WALKWAY_code, R_WALKWAY_ordinal, R_TRAVELATOR_ordinal, R_ESCALATOR_ordinal, R_ELEVATOR_ordinal, R_ESCALATOR_code, R_EXIT_GATE_code, R_EXIT_GATE_ordinal, R_CONTROL_code, R_CONTROL_ordinal, R_TRAVELATOR_code, R_STAIRS_code, R_STAIRS_ordinal, R_ELEVATOR_code, R_FARE_GATE_code, R_FARE_GATE_ordinal⟩ := G
  have k_48 : Go p.tables e below (s₁.setTop (entryFrame m #[(.ref a_FARE_GATE)] 1)) (s₁.setTop (mkF m 1 #[rv a_FARE_GATE] [(.ref a_FARE_GATE)])) := fun t q => by
    refine k0 t ?_
    refine XS.aloadN X0.here hx rfl (hb hby d2_0) rfl rfl ?_
    show Steps _ _ _ (s₁.setTop (mkF m 1 #[rv a_FARE_GATE] [(.ref a_FARE_GATE)])) _
    exact q
  obtain ⟨T49, X49, e49, st49⟩ := getS2 X0 hx hZ hown (host := "") (Or.inl (hw _ (wd 32 rfl))) Via.refl e0 (S_TRAVELATOR.ext O0.2) (g := (mkF m 1 #[rv a_FARE_GATE] [(.ref a_FARE_GATE)])) rfl (hb hby d2_1)
  have k_50 : Go p.tables e below (s₁.setTop (entryFrame m #[(.ref a_FARE_GATE)] 1)) (T49.setTop (mkF m 8 #[rv a_FARE_GATE] [(.ref a_FARE_GATE)])) := fun t q => by
    refine k_48 t ?_
    refine st49 _ ?_
    show Steps _ _ _ (T49.setTop (mkF m 4 #[rv a_FARE_GATE] [(.ref a_TRAVELATOR), (.ref a_FARE_GATE)])) _
    refine Jvm.RoadKit.acmp (g := (mkF m 4 #[rv a_FARE_GATE] [(.ref a_TRAVELATOR), (.ref a_FARE_GATE)])) X49 hx rfl rfl rfl (pc0 := 4) (pc' := 7) (same := false) rfl (hb hby d2_4) rfl (decide_eq_false fun q => (own_ne R_FARE_GATE_ordinal R_TRAVELATOR_ordinal (by decide)) (Value.ref.inj q)) (by decide) (by decide) ?_
    show Steps _ _ _ (T49.setTop (mkF m 7 #[rv a_FARE_GATE] [])) _
    refine XS.aloadN X49.here hx rfl (hb hby d2_7) rfl rfl ?_
    show Steps _ _ _ (T49.setTop (mkF m 8 #[rv a_FARE_GATE] [(.ref a_FARE_GATE)])) _
    exact q
  obtain ⟨T51, X51, e51, st51⟩ := getS2 X49 hx hZ hown (host := "") (Or.inl (hw _ (wd 33 rfl))) Via.refl e49 (S_ESCALATOR.ext O0.2) (g := (mkF m 8 #[rv a_FARE_GATE] [(.ref a_FARE_GATE)])) rfl (hb hby d2_8)
  have k_52 : Go p.tables e below (s₁.setTop (entryFrame m #[(.ref a_FARE_GATE)] 1)) (T51.setTop (mkF m 15 #[rv a_FARE_GATE] [(.ref a_FARE_GATE)])) := fun t q => by
    refine k_50 t ?_
    refine st51 _ ?_
    show Steps _ _ _ (T51.setTop (mkF m 11 #[rv a_FARE_GATE] [(.ref a_ESCALATOR), (.ref a_FARE_GATE)])) _
    refine Jvm.RoadKit.acmp (g := (mkF m 11 #[rv a_FARE_GATE] [(.ref a_ESCALATOR), (.ref a_FARE_GATE)])) X51 hx rfl rfl rfl (pc0 := 11) (pc' := 14) (same := false) rfl (hb hby d2_11) rfl (decide_eq_false fun q => (own_ne R_FARE_GATE_ordinal R_ESCALATOR_ordinal (by decide)) (Value.ref.inj q)) (by decide) (by decide) ?_
    show Steps _ _ _ (T51.setTop (mkF m 14 #[rv a_FARE_GATE] [])) _
    refine XS.aloadN X51.here hx rfl (hb hby d2_14) rfl rfl ?_
    show Steps _ _ _ (T51.setTop (mkF m 15 #[rv a_FARE_GATE] [(.ref a_FARE_GATE)])) _
    exact q
  obtain ⟨T53, X53, e53, st53⟩ := getS2 X51 hx hZ hown (host := "") (Or.inl (hw _ (wd 34 rfl))) Via.refl e51 (S_ELEVATOR.ext O0.2) (g := (mkF m 15 #[rv a_FARE_GATE] [(.ref a_FARE_GATE)])) rfl (hb hby d2_15)
  have k_54 : Go p.tables e below (s₁.setTop (entryFrame m #[(.ref a_FARE_GATE)] 1)) (T53.setTop (mkF m 26 #[rv a_FARE_GATE] [(.int 0)])) := fun t q => by
    refine k_52 t ?_
    refine st53 _ ?_
    show Steps _ _ _ (T53.setTop (mkF m 18 #[rv a_FARE_GATE] [(.ref a_ELEVATOR), (.ref a_FARE_GATE)])) _
    refine Jvm.RoadKit.acmp (g := (mkF m 18 #[rv a_FARE_GATE] [(.ref a_ELEVATOR), (.ref a_FARE_GATE)])) X53 hx rfl rfl rfl (pc0 := 18) (pc' := 25) (same := false) rfl (hb hby d2_18) rfl (decide_eq_false fun q => (own_ne R_FARE_GATE_ordinal R_ELEVATOR_ordinal (by decide)) (Value.ref.inj q)) (by decide) (by decide) ?_
    show Steps _ _ _ (T53.setTop (mkF m 25 #[rv a_FARE_GATE] [])) _
    refine XS.iconst X53.here hx rfl (hb hby d2_25) ?_
    show Steps _ _ _ (T53.setTop (mkF m 26 #[rv a_FARE_GATE] [(.int 0)])) _
    exact q
  obtain ⟨fs, hr, hrun, hended, hW, hsame⟩ := X53.leave (v := some (.int 0)) (fun h => by rw [Bd.returns] at h; cases h)
  refine ⟨_, _, k_54 _ ?_, hrun, hended, _, _, rfl, ?_, ⟨_, rfl⟩, hW, hsame.mono (by decide) (by decide)⟩
  · exact retN X53 hx (t := .boolean) Bd.returns (by simp) (hb hby d2_26) hr
  · show QV (some (.int 0)) h0 n0 _ T53.heap _
    rw [e53]
    exact ⟨rfl, N0, rfl⟩
set_option maxRecDepth 65536 in
set_option maxHeartbeats 40000000 in
theorem cd_6 (l : Launch) (Z : State) (a0 : Array Value) (hw : ∀ d ∈ tables_1, d.before a0 Z = true) (ws : List Jvm.Cond) (a_WALKWAY a_STAIRS a_TRAVELATOR a_ESCALATOR a_ELEVATOR a_FARE_GATE a_EXIT_GATE a_CONTROL : Addr) (G : Own Z a_WALKWAY a_STAIRS a_TRAVELATOR a_ESCALATOR a_ELEVATOR a_FARE_GATE a_EXIT_GATE a_CONTROL)  (h0 : Heap) (n0 : Nat) (O0 : Old Z n0 h0)  :
    MetFree l y_0 (head1 (Jvm.Cond.code y_0 prog_65_method_4_code 1 (some .int) :: ws) ({ frames := 0, cells := 0, slots := 0, locals := 0 } : Room)) (fun a U => a = #[(.ref a_EXIT_GATE)] ∧ Z.Warmed39 U.vm ∧ U.heap = h0) (fun _ _ _ _ _ => True) (fun _ U o U' => ∃ v L, o = .returned v ∧ QV (some (.int 7)) h0 n0 v U'.heap L ∧ FrameEnd U o U' L ({ frames := 0, cells := 0, slots := 0, locals := 0 } : Room).cells ({ frames := 0, cells := 0, slots := 0, locals := 0 } : Room).slots) := by
  refine MetFree.of_bodySF (plainFor_of_name pn_0) hisR ?_
  intro p e s m args below meth c s₁ Bd hml0 hP hK
  obtain ⟨rfl, hZ, hh⟩ := hP
  have hx := Bd.exec
  have hby := Bd.bytes
  have hml : c.maxLocals = 1 := hml0
  have hown : s.vm.findClass "com/example/stationgraph/stationgraph/station/PathwayMode" = some m.cls := findClass_of_methodNamed Bd.named
  have hnm := (name_of_methodNamed Bd.named Bd.method).1
  have X0 : Stand p l e ({ frames := 0, cells := 0, slots := 0, locals := 0 } : Room) s m #[(.ref a_EXIT_GATE)] below meth c s₁ [] 0 0 := Stand.of_body Bd
  have e0 : s₁.heap = h0 := by rw [← hh, Bd.state]; rfl
  have N0 := Fr.nil n0
  have K0 := Keep.refl h0 []
  have k0 : Go p.tables e below (s₁.setTop (entryFrame m #[(.ref a_EXIT_GATE)] 1)) (s₁.setTop (mkF m 0 #[rv a_EXIT_GATE] [])) := fun t k => castTop (by first | rfl | (simp [entryFrame, mkF, argsToLocals, Value.category]; done)) k
  have ⟨S_WALKWAY, E_WALKWAY, S_STAIRS, E_STAIRS, S_TRAVELATOR, E_TRAVELATOR, S_ESCALATOR, E_ESCALATOR, S_ELEVATOR, E_ELEVATOR, S_FARE_GATE, E_FARE_GATE, S_EXIT_GATE, E_EXIT_GATE, S_CONTROL, E_CONTROL, R_WALKWAY_code, R_WALKWAY_ordinal, R_TRAVELATOR_ordinal, R_ESCALATOR_ordinal, R_ELEVATOR_ordinal, R_ESCALATOR_code, R_EXIT_GATE_code, R_EXIT_GATE_ordinal, R_CONTROL_code, R_CONTROL_ordinal, R_TRAVELATOR_code, R_STAIRS_code, R_STAIRS_ordinal, R_ELEVATOR_code, R_FARE_GATE_code, R_FARE_GATE_ordinal⟩ := G
  have k_55 : Go p.tables e below (s₁.setTop (entryFrame m #[(.ref a_EXIT_GATE)] 1)) (s₁.setTop (mkF m 1 #[rv a_EXIT_GATE] [(.ref a_EXIT_GATE)])) := fun t q => by
    refine k0 t ?_
    refine XS.aloadN X0.here hx rfl (hb hby d1_0) rfl rfl ?_
    show Steps _ _ _ (s₁.setTop (mkF m 1 #[rv a_EXIT_GATE] [(.ref a_EXIT_GATE)])) _
    exact q
  obtain ⟨T56, X56, e56, st56⟩ := getF X0 hx hZ hown (host := "") (Or.inl (hw _ (wd 25 rfl))) Via.refl e0 (Fld.ext O0.2 R_EXIT_GATE_code) (g := (mkF m 1 #[rv a_EXIT_GATE] [(.ref a_EXIT_GATE)])) rfl rfl (hb hby d1_1)
  have k_57 : Go p.tables e below (s₁.setTop (entryFrame m #[(.ref a_EXIT_GATE)] 1)) (T56.setTop (mkF m 4 #[rv a_EXIT_GATE] [(.int 7)])) := fun t q => by
    refine k_55 t ?_
    refine st56 _ ?_
    show Steps _ _ _ (T56.setTop (mkF m 4 #[rv a_EXIT_GATE] [(.int 7)])) _
    exact q
  obtain ⟨fs, hr, hrun, hended, hW, hsame⟩ := X56.leave (v := some (.int 7)) (fun h => by rw [Bd.returns] at h; cases h)
  refine ⟨_, _, k_57 _ ?_, hrun, hended, _, _, rfl, ?_, ⟨_, rfl⟩, hW, hsame.mono (by decide) (by decide)⟩
  · exact retOut X56 hx Bd.returns rfl (Or.inl ⟨rfl, Or.inl rfl, _, rfl⟩) (hb hby d1_4) hr
  · show QV (some (.int 7)) h0 n0 _ T56.heap _
    rw [e56]
    exact ⟨rfl, N0, rfl⟩
set_option maxRecDepth 65536 in
set_option maxHeartbeats 40000000 in
theorem me_6 (l : Launch) (Z : State) (a0 : Array Value) (hw : ∀ d ∈ tables_1, d.before a0 Z = true) (ws : List Jvm.Cond) (a_WALKWAY a_STAIRS a_TRAVELATOR a_ESCALATOR a_ELEVATOR a_FARE_GATE a_EXIT_GATE a_CONTROL : Addr) (G : Own Z a_WALKWAY a_STAIRS a_TRAVELATOR a_ESCALATOR a_ELEVATOR a_FARE_GATE a_EXIT_GATE a_CONTROL)  (h0 : Heap) (n0 : Nat) (O0 : Old Z n0 h0)  :
    MetFree l y_1 (head1 (Jvm.Cond.code y_1 prog_65_method_6_code 1 (some .boolean) :: ws) ({ frames := 0, cells := 0, slots := 0, locals := 0 } : Room)) (fun a U => a = #[(.ref a_EXIT_GATE)] ∧ Z.Warmed39 U.vm ∧ U.heap = h0) (fun _ _ _ _ _ => True) (fun _ U o U' => ∃ v L, o = .returned v ∧ QV (some (.int 0)) h0 n0 v U'.heap L ∧ FrameEnd U o U' L ({ frames := 0, cells := 0, slots := 0, locals := 0 } : Room).cells ({ frames := 0, cells := 0, slots := 0, locals := 0 } : Room).slots) := by
  refine MetFree.of_bodySF (plainFor_of_name pn_0) hisR ?_
  intro p e s m args below meth c s₁ Bd hml0 hP hK
  obtain ⟨rfl, hZ, hh⟩ := hP
  have hx := Bd.exec
  have hby := Bd.bytes
  have hml : c.maxLocals = 1 := hml0
  have hown : s.vm.findClass "com/example/stationgraph/stationgraph/station/PathwayMode" = some m.cls := findClass_of_methodNamed Bd.named
  have hnm := (name_of_methodNamed Bd.named Bd.method).1
  have X0 : Stand p l e ({ frames := 0, cells := 0, slots := 0, locals := 0 } : Room) s m #[(.ref a_EXIT_GATE)] below meth c s₁ [] 0 0 := Stand.of_body Bd
  have e0 : s₁.heap = h0 := by rw [← hh, Bd.state]; rfl
  have N0 := Fr.nil n0
  have K0 := Keep.refl h0 []
  have k0 : Go p.tables e below (s₁.setTop (entryFrame m #[(.ref a_EXIT_GATE)] 1)) (s₁.setTop (mkF m 0 #[rv a_EXIT_GATE] [])) := fun t k => castTop (by first | rfl | (simp [entryFrame, mkF, argsToLocals, Value.category]; done)) k
  have ⟨S_WALKWAY, E_WALKWAY, S_STAIRS, E_STAIRS, S_TRAVELATOR, E_TRAVELATOR, S_ESCALATOR, E_ESCALATOR, S_ELEVATOR, E_ELEVATOR, S_FARE_GATE, E_FARE_GATE, S_EXIT_GATE, E_EXIT_GATE, S_CONTROL, E_CONTROL, R_WALKWAY_code, R_WALKWAY_ordinal, R_TRAVELATOR_ordinal, R_ESCALATOR_ordinal, R_ELEVATOR_ordinal, R_ESCALATOR_code, R_EXIT_GATE_code, R_EXIT_GATE_ordinal, R_CONTROL_code, R_CONTROL_ordinal, R_TRAVELATOR_code, R_STAIRS_code, R_STAIRS_ordinal, R_ELEVATOR_code, R_FARE_GATE_code, R_FARE_GATE_ordinal⟩ := G
  have k_58 : Go p.tables e below (s₁.setTop (entryFrame m #[(.ref a_EXIT_GATE)] 1)) (s₁.setTop (mkF m 1 #[rv a_EXIT_GATE] [(.ref a_EXIT_GATE)])) := fun t q => by
    refine k0 t ?_
    refine XS.aloadN X0.here hx rfl (hb hby d2_0) rfl rfl ?_
    show Steps _ _ _ (s₁.setTop (mkF m 1 #[rv a_EXIT_GATE] [(.ref a_EXIT_GATE)])) _
    exact q
  obtain ⟨T59, X59, e59, st59⟩ := getS2 X0 hx hZ hown (host := "") (Or.inl (hw _ (wd 32 rfl))) Via.refl e0 (S_TRAVELATOR.ext O0.2) (g := (mkF m 1 #[rv a_EXIT_GATE] [(.ref a_EXIT_GATE)])) rfl (hb hby d2_1)
  have k_60 : Go p.tables e below (s₁.setTop (entryFrame m #[(.ref a_EXIT_GATE)] 1)) (T59.setTop (mkF m 8 #[rv a_EXIT_GATE] [(.ref a_EXIT_GATE)])) := fun t q => by
    refine k_58 t ?_
    refine st59 _ ?_
    show Steps _ _ _ (T59.setTop (mkF m 4 #[rv a_EXIT_GATE] [(.ref a_TRAVELATOR), (.ref a_EXIT_GATE)])) _
    refine Jvm.RoadKit.acmp (g := (mkF m 4 #[rv a_EXIT_GATE] [(.ref a_TRAVELATOR), (.ref a_EXIT_GATE)])) X59 hx rfl rfl rfl (pc0 := 4) (pc' := 7) (same := false) rfl (hb hby d2_4) rfl (decide_eq_false fun q => (own_ne R_EXIT_GATE_ordinal R_TRAVELATOR_ordinal (by decide)) (Value.ref.inj q)) (by decide) (by decide) ?_
    show Steps _ _ _ (T59.setTop (mkF m 7 #[rv a_EXIT_GATE] [])) _
    refine XS.aloadN X59.here hx rfl (hb hby d2_7) rfl rfl ?_
    show Steps _ _ _ (T59.setTop (mkF m 8 #[rv a_EXIT_GATE] [(.ref a_EXIT_GATE)])) _
    exact q
  obtain ⟨T61, X61, e61, st61⟩ := getS2 X59 hx hZ hown (host := "") (Or.inl (hw _ (wd 33 rfl))) Via.refl e59 (S_ESCALATOR.ext O0.2) (g := (mkF m 8 #[rv a_EXIT_GATE] [(.ref a_EXIT_GATE)])) rfl (hb hby d2_8)
  have k_62 : Go p.tables e below (s₁.setTop (entryFrame m #[(.ref a_EXIT_GATE)] 1)) (T61.setTop (mkF m 15 #[rv a_EXIT_GATE] [(.ref a_EXIT_GATE)])) := fun t q => by
    refine k_60 t ?_
    refine st61 _ ?_
    show Steps _ _ _ (T61.setTop (mkF m 11 #[rv a_EXIT_GATE] [(.ref a_ESCALATOR), (.ref a_EXIT_GATE)])) _
    refine Jvm.RoadKit.acmp (g := (mkF m 11 #[rv a_EXIT_GATE] [(.ref a_ESCALATOR), (.ref a_EXIT_GATE)])) X61 hx rfl rfl rfl (pc0 := 11) (pc' := 14) (same := false) rfl (hb hby d2_11) rfl (decide_eq_false fun q => (own_ne R_EXIT_GATE_ordinal R_ESCALATOR_ordinal (by decide)) (Value.ref.inj q)) (by decide) (by decide) ?_
    show Steps _ _ _ (T61.setTop (mkF m 14 #[rv a_EXIT_GATE] [])) _
    refine XS.aloadN X61.here hx rfl (hb hby d2_14) rfl rfl ?_
    show Steps _ _ _ (T61.setTop (mkF m 15 #[rv a_EXIT_GATE] [(.ref a_EXIT_GATE)])) _
    exact q
  obtain ⟨T63, X63, e63, st63⟩ := getS2 X61 hx hZ hown (host := "") (Or.inl (hw _ (wd 34 rfl))) Via.refl e61 (S_ELEVATOR.ext O0.2) (g := (mkF m 15 #[rv a_EXIT_GATE] [(.ref a_EXIT_GATE)])) rfl (hb hby d2_15)
  have k_64 : Go p.tables e below (s₁.setTop (entryFrame m #[(.ref a_EXIT_GATE)] 1)) (T63.setTop (mkF m 26 #[rv a_EXIT_GATE] [(.int 0)])) := fun t q => by
    refine k_62 t ?_
    refine st63 _ ?_
    show Steps _ _ _ (T63.setTop (mkF m 18 #[rv a_EXIT_GATE] [(.ref a_ELEVATOR), (.ref a_EXIT_GATE)])) _
    refine Jvm.RoadKit.acmp (g := (mkF m 18 #[rv a_EXIT_GATE] [(.ref a_ELEVATOR), (.ref a_EXIT_GATE)])) X63 hx rfl rfl rfl (pc0 := 18) (pc' := 25) (same := false) rfl (hb hby d2_18) rfl (decide_eq_false fun q => (own_ne R_EXIT_GATE_ordinal R_ELEVATOR_ordinal (by decide)) (Value.ref.inj q)) (by decide) (by decide) ?_
    show Steps _ _ _ (T63.setTop (mkF m 25 #[rv a_EXIT_GATE] [])) _
    refine XS.iconst X63.here hx rfl (hb hby d2_25) ?_
    show Steps _ _ _ (T63.setTop (mkF m 26 #[rv a_EXIT_GATE] [(.int 0)])) _
    exact q
  obtain ⟨fs, hr, hrun, hended, hW, hsame⟩ := X63.leave (v := some (.int 0)) (fun h => by rw [Bd.returns] at h; cases h)
  refine ⟨_, _, k_64 _ ?_, hrun, hended, _, _, rfl, ?_, ⟨_, rfl⟩, hW, hsame.mono (by decide) (by decide)⟩
  · exact retN X63 hx (t := .boolean) Bd.returns (by simp) (hb hby d2_26) hr
  · show QV (some (.int 0)) h0 n0 _ T63.heap _
    rw [e63]
    exact ⟨rfl, N0, rfl⟩
set_option maxRecDepth 65536 in
set_option maxHeartbeats 40000000 in
theorem cd_7 (l : Launch) (Z : State) (a0 : Array Value) (hw : ∀ d ∈ tables_1, d.before a0 Z = true) (ws : List Jvm.Cond) (a_WALKWAY a_STAIRS a_TRAVELATOR a_ESCALATOR a_ELEVATOR a_FARE_GATE a_EXIT_GATE a_CONTROL : Addr) (G : Own Z a_WALKWAY a_STAIRS a_TRAVELATOR a_ESCALATOR a_ELEVATOR a_FARE_GATE a_EXIT_GATE a_CONTROL)  (h0 : Heap) (n0 : Nat) (O0 : Old Z n0 h0)  :
    MetFree l y_0 (head1 (Jvm.Cond.code y_0 prog_65_method_4_code 1 (some .int) :: ws) ({ frames := 0, cells := 0, slots := 0, locals := 0 } : Room)) (fun a U => a = #[(.ref a_CONTROL)] ∧ Z.Warmed39 U.vm ∧ U.heap = h0) (fun _ _ _ _ _ => True) (fun _ U o U' => ∃ v L, o = .returned v ∧ QV (some (.int 8)) h0 n0 v U'.heap L ∧ FrameEnd U o U' L ({ frames := 0, cells := 0, slots := 0, locals := 0 } : Room).cells ({ frames := 0, cells := 0, slots := 0, locals := 0 } : Room).slots) := by
  refine MetFree.of_bodySF (plainFor_of_name pn_0) hisR ?_
  intro p e s m args below meth c s₁ Bd hml0 hP hK
  obtain ⟨rfl, hZ, hh⟩ := hP
  have hx := Bd.exec
  have hby := Bd.bytes
  have hml : c.maxLocals = 1 := hml0
  have hown : s.vm.findClass "com/example/stationgraph/stationgraph/station/PathwayMode" = some m.cls := findClass_of_methodNamed Bd.named
  have hnm := (name_of_methodNamed Bd.named Bd.method).1
  have X0 : Stand p l e ({ frames := 0, cells := 0, slots := 0, locals := 0 } : Room) s m #[(.ref a_CONTROL)] below meth c s₁ [] 0 0 := Stand.of_body Bd
  have e0 : s₁.heap = h0 := by rw [← hh, Bd.state]; rfl
  have N0 := Fr.nil n0
  have K0 := Keep.refl h0 []
  have k0 : Go p.tables e below (s₁.setTop (entryFrame m #[(.ref a_CONTROL)] 1)) (s₁.setTop (mkF m 0 #[rv a_CONTROL] [])) := fun t k => castTop (by first | rfl | (simp [entryFrame, mkF, argsToLocals, Value.category]; done)) k
  have ⟨S_WALKWAY, E_WALKWAY, S_STAIRS, E_STAIRS, S_TRAVELATOR, E_TRAVELATOR, S_ESCALATOR, E_ESCALATOR, S_ELEVATOR, E_ELEVATOR, S_FARE_GATE, E_FARE_GATE, S_EXIT_GATE, E_EXIT_GATE, S_CONTROL, E_CONTROL, R_WALKWAY_code, R_WALKWAY_ordinal, R_TRAVELATOR_ordinal, R_ESCALATOR_ordinal, R_ELEVATOR_ordinal, R_ESCALATOR_code, R_EXIT_GATE_code, R_EXIT_GATE_ordinal, R_CONTROL_code, R_CONTROL_ordinal, R_TRAVELATOR_code, R_STAIRS_code, R_STAIRS_ordinal, R_ELEVATOR_code, R_FARE_GATE_code, R_FARE_GATE_ordinal⟩ := G
  have k_65 : Go p.tables e below (s₁.setTop (entryFrame m #[(.ref a_CONTROL)] 1)) (s₁.setTop (mkF m 1 #[rv a_CONTROL] [(.ref a_CONTROL)])) := fun t q => by
    refine k0 t ?_
    refine XS.aloadN X0.here hx rfl (hb hby d1_0) rfl rfl ?_
    show Steps _ _ _ (s₁.setTop (mkF m 1 #[rv a_CONTROL] [(.ref a_CONTROL)])) _
    exact q
  obtain ⟨T66, X66, e66, st66⟩ := getF X0 hx hZ hown (host := "") (Or.inl (hw _ (wd 25 rfl))) Via.refl e0 (Fld.ext O0.2 R_CONTROL_code) (g := (mkF m 1 #[rv a_CONTROL] [(.ref a_CONTROL)])) rfl rfl (hb hby d1_1)
  have k_67 : Go p.tables e below (s₁.setTop (entryFrame m #[(.ref a_CONTROL)] 1)) (T66.setTop (mkF m 4 #[rv a_CONTROL] [(.int 8)])) := fun t q => by
    refine k_65 t ?_
    refine st66 _ ?_
    show Steps _ _ _ (T66.setTop (mkF m 4 #[rv a_CONTROL] [(.int 8)])) _
    exact q
  obtain ⟨fs, hr, hrun, hended, hW, hsame⟩ := X66.leave (v := some (.int 8)) (fun h => by rw [Bd.returns] at h; cases h)
  refine ⟨_, _, k_67 _ ?_, hrun, hended, _, _, rfl, ?_, ⟨_, rfl⟩, hW, hsame.mono (by decide) (by decide)⟩
  · exact retOut X66 hx Bd.returns rfl (Or.inl ⟨rfl, Or.inl rfl, _, rfl⟩) (hb hby d1_4) hr
  · show QV (some (.int 8)) h0 n0 _ T66.heap _
    rw [e66]
    exact ⟨rfl, N0, rfl⟩
set_option maxRecDepth 65536 in
set_option maxHeartbeats 40000000 in
theorem me_7 (l : Launch) (Z : State) (a0 : Array Value) (hw : ∀ d ∈ tables_1, d.before a0 Z = true) (ws : List Jvm.Cond) (a_WALKWAY a_STAIRS a_TRAVELATOR a_ESCALATOR a_ELEVATOR a_FARE_GATE a_EXIT_GATE a_CONTROL : Addr) (G : Own Z a_WALKWAY a_STAIRS a_TRAVELATOR a_ESCALATOR a_ELEVATOR a_FARE_GATE a_EXIT_GATE a_CONTROL)  (h0 : Heap) (n0 : Nat) (O0 : Old Z n0 h0)  :
    MetFree l y_1 (head1 (Jvm.Cond.code y_1 prog_65_method_6_code 1 (some .boolean) :: ws) ({ frames := 0, cells := 0, slots := 0, locals := 0 } : Room)) (fun a U => a = #[(.ref a_CONTROL)] ∧ Z.Warmed39 U.vm ∧ U.heap = h0) (fun _ _ _ _ _ => True) (fun _ U o U' => ∃ v L, o = .returned v ∧ QV (some (.int 0)) h0 n0 v U'.heap L ∧ FrameEnd U o U' L ({ frames := 0, cells := 0, slots := 0, locals := 0 } : Room).cells ({ frames := 0, cells := 0, slots := 0, locals := 0 } : Room).slots) := by
  refine MetFree.of_bodySF (plainFor_of_name pn_0) hisR ?_
  intro p e s m args below meth c s₁ Bd hml0 hP hK
  obtain ⟨rfl, hZ, hh⟩ := hP
  have hx := Bd.exec
  have hby := Bd.bytes
  have hml : c.maxLocals = 1 := hml0
  have hown : s.vm.findClass "com/example/stationgraph/stationgraph/station/PathwayMode" = some m.cls := findClass_of_methodNamed Bd.named
  have hnm := (name_of_methodNamed Bd.named Bd.method).1
  have X0 : Stand p l e ({ frames := 0, cells := 0, slots := 0, locals := 0 } : Room) s m #[(.ref a_CONTROL)] below meth c s₁ [] 0 0 := Stand.of_body Bd
  have e0 : s₁.heap = h0 := by rw [← hh, Bd.state]; rfl
  have N0 := Fr.nil n0
  have K0 := Keep.refl h0 []
  have k0 : Go p.tables e below (s₁.setTop (entryFrame m #[(.ref a_CONTROL)] 1)) (s₁.setTop (mkF m 0 #[rv a_CONTROL] [])) := fun t k => castTop (by first | rfl | (simp [entryFrame, mkF, argsToLocals, Value.category]; done)) k
  have ⟨S_WALKWAY, E_WALKWAY, S_STAIRS, E_STAIRS, S_TRAVELATOR, E_TRAVELATOR, S_ESCALATOR, E_ESCALATOR, S_ELEVATOR, E_ELEVATOR, S_FARE_GATE, E_FARE_GATE, S_EXIT_GATE, E_EXIT_GATE, S_CONTROL, E_CONTROL, R_WALKWAY_code, R_WALKWAY_ordinal, R_TRAVELATOR_ordinal, R_ESCALATOR_ordinal, R_ELEVATOR_ordinal, R_ESCALATOR_code, R_EXIT_GATE_code, R_EXIT_GATE_ordinal, R_CONTROL_code, R_CONTROL_ordinal, R_TRAVELATOR_code, R_STAIRS_code, R_STAIRS_ordinal, R_ELEVATOR_code, R_FARE_GATE_code, R_FARE_GATE_ordinal⟩ := G
  have k_68 : Go p.tables e below (s₁.setTop (entryFrame m #[(.ref a_CONTROL)] 1)) (s₁.setTop (mkF m 1 #[rv a_CONTROL] [(.ref a_CONTROL)])) := fun t q => by
    refine k0 t ?_
    refine XS.aloadN X0.here hx rfl (hb hby d2_0) rfl rfl ?_
    show Steps _ _ _ (s₁.setTop (mkF m 1 #[rv a_CONTROL] [(.ref a_CONTROL)])) _
    exact q
  obtain ⟨T69, X69, e69, st69⟩ := getS2 X0 hx hZ hown (host := "") (Or.inl (hw _ (wd 32 rfl))) Via.refl e0 (S_TRAVELATOR.ext O0.2) (g := (mkF m 1 #[rv a_CONTROL] [(.ref a_CONTROL)])) rfl (hb hby d2_1)
  have k_70 : Go p.tables e below (s₁.setTop (entryFrame m #[(.ref a_CONTROL)] 1)) (T69.setTop (mkF m 8 #[rv a_CONTROL] [(.ref a_CONTROL)])) := fun t q => by
    refine k_68 t ?_
    refine st69 _ ?_
    show Steps _ _ _ (T69.setTop (mkF m 4 #[rv a_CONTROL] [(.ref a_TRAVELATOR), (.ref a_CONTROL)])) _
    refine Jvm.RoadKit.acmp (g := (mkF m 4 #[rv a_CONTROL] [(.ref a_TRAVELATOR), (.ref a_CONTROL)])) X69 hx rfl rfl rfl (pc0 := 4) (pc' := 7) (same := false) rfl (hb hby d2_4) rfl (decide_eq_false fun q => (own_ne R_CONTROL_ordinal R_TRAVELATOR_ordinal (by decide)) (Value.ref.inj q)) (by decide) (by decide) ?_
    show Steps _ _ _ (T69.setTop (mkF m 7 #[rv a_CONTROL] [])) _
    refine XS.aloadN X69.here hx rfl (hb hby d2_7) rfl rfl ?_
    show Steps _ _ _ (T69.setTop (mkF m 8 #[rv a_CONTROL] [(.ref a_CONTROL)])) _
    exact q
  obtain ⟨T71, X71, e71, st71⟩ := getS2 X69 hx hZ hown (host := "") (Or.inl (hw _ (wd 33 rfl))) Via.refl e69 (S_ESCALATOR.ext O0.2) (g := (mkF m 8 #[rv a_CONTROL] [(.ref a_CONTROL)])) rfl (hb hby d2_8)
  have k_72 : Go p.tables e below (s₁.setTop (entryFrame m #[(.ref a_CONTROL)] 1)) (T71.setTop (mkF m 15 #[rv a_CONTROL] [(.ref a_CONTROL)])) := fun t q => by
    refine k_70 t ?_
    refine st71 _ ?_
    show Steps _ _ _ (T71.setTop (mkF m 11 #[rv a_CONTROL] [(.ref a_ESCALATOR), (.ref a_CONTROL)])) _
    refine Jvm.RoadKit.acmp (g := (mkF m 11 #[rv a_CONTROL] [(.ref a_ESCALATOR), (.ref a_CONTROL)])) X71 hx rfl rfl rfl (pc0 := 11) (pc' := 14) (same := false) rfl (hb hby d2_11) rfl (decide_eq_false fun q => (own_ne R_CONTROL_ordinal R_ESCALATOR_ordinal (by decide)) (Value.ref.inj q)) (by decide) (by decide) ?_
    show Steps _ _ _ (T71.setTop (mkF m 14 #[rv a_CONTROL] [])) _
    refine XS.aloadN X71.here hx rfl (hb hby d2_14) rfl rfl ?_
    show Steps _ _ _ (T71.setTop (mkF m 15 #[rv a_CONTROL] [(.ref a_CONTROL)])) _
    exact q
  obtain ⟨T73, X73, e73, st73⟩ := getS2 X71 hx hZ hown (host := "") (Or.inl (hw _ (wd 34 rfl))) Via.refl e71 (S_ELEVATOR.ext O0.2) (g := (mkF m 15 #[rv a_CONTROL] [(.ref a_CONTROL)])) rfl (hb hby d2_15)
  have k_74 : Go p.tables e below (s₁.setTop (entryFrame m #[(.ref a_CONTROL)] 1)) (T73.setTop (mkF m 26 #[rv a_CONTROL] [(.int 0)])) := fun t q => by
    refine k_72 t ?_
    refine st73 _ ?_
    show Steps _ _ _ (T73.setTop (mkF m 18 #[rv a_CONTROL] [(.ref a_ELEVATOR), (.ref a_CONTROL)])) _
    refine Jvm.RoadKit.acmp (g := (mkF m 18 #[rv a_CONTROL] [(.ref a_ELEVATOR), (.ref a_CONTROL)])) X73 hx rfl rfl rfl (pc0 := 18) (pc' := 25) (same := false) rfl (hb hby d2_18) rfl (decide_eq_false fun q => (own_ne R_CONTROL_ordinal R_ELEVATOR_ordinal (by decide)) (Value.ref.inj q)) (by decide) (by decide) ?_
    show Steps _ _ _ (T73.setTop (mkF m 25 #[rv a_CONTROL] [])) _
    refine XS.iconst X73.here hx rfl (hb hby d2_25) ?_
    show Steps _ _ _ (T73.setTop (mkF m 26 #[rv a_CONTROL] [(.int 0)])) _
    exact q
  obtain ⟨fs, hr, hrun, hended, hW, hsame⟩ := X73.leave (v := some (.int 0)) (fun h => by rw [Bd.returns] at h; cases h)
  refine ⟨_, _, k_74 _ ?_, hrun, hended, _, _, rfl, ?_, ⟨_, rfl⟩, hW, hsame.mono (by decide) (by decide)⟩
  · exact retN X73 hx (t := .boolean) Bd.returns (by simp) (hb hby d2_26) hr
  · show QV (some (.int 0)) h0 n0 _ T73.heap _
    rw [e73]
    exact ⟨rfl, N0, rfl⟩
set_option maxRecDepth 65536 in
set_option maxHeartbeats 40000000 in
theorem rm0 (l : Launch) (Z : State) (a0 : Array Value) (hw : ∀ d ∈ tables_1, d.before a0 Z = true) (ws : List Jvm.Cond) (a_WALKWAY a_STAIRS a_TRAVELATOR a_ESCALATOR a_ELEVATOR a_FARE_GATE a_EXIT_GATE a_CONTROL : Addr) (G : Own Z a_WALKWAY a_STAIRS a_TRAVELATOR a_ESCALATOR a_ELEVATOR a_FARE_GATE a_EXIT_GATE a_CONTROL) (q1 : Int32) (h0 : Heap) (n0 : Nat) (O0 : Old Z n0 h0)  :
    MetFree l x (head1 (Jvm.Cond.code x code maxLocals ret :: ws) room_1) (fun a U => a = #[(.int q1)] ∧ Z.Warmed39 U.vm ∧ U.heap = h0) (fun _ _ _ _ _ => True) (fun _ U o U' => ∃ v L, o = .returned v ∧ Q0 n0 v U'.heap L ∧ FrameEnd U o U' L room_1.cells room_1.slots) := by
  refine MetFree.of_bodySF (plainFor_of_name pn_1) hisR ?_
  intro p e s m args below meth c s₁ Bd hml0 hP hK
  obtain ⟨rfl, hZ, hh⟩ := hP
  have hx := Bd.exec
  have hby := Bd.bytes
  have hml : c.maxLocals = 7 := hml0
  have hown : s.vm.findClass "com/example/stationgraph/stationgraph/station/PathwayModeMechanicalPinLaw" = some m.cls := findClass_of_methodNamed Bd.named
  have hnm := (name_of_methodNamed Bd.named Bd.method).1
  have X0 : Stand p l e room_1 s m #[(.int q1)] below meth c s₁ [] 0 0 := Stand.of_body Bd
  have e0 : s₁.heap = h0 := by rw [← hh, Bd.state]; rfl
  have N0 := Fr.nil n0
  have K0 := Keep.refl h0 []
  have k0 : Go p.tables e below (s₁.setTop (entryFrame m #[(.int q1)] maxLocals)) (s₁.setTop (mkF m 0 #[iv q1, .unset, .unset, .unset, .unset, .unset, .unset] [])) := fun t k => castTop (by first | rfl | (simp [entryFrame, mkF, argsToLocals, Value.category, maxLocals]; done)) k
  have ⟨S_WALKWAY, E_WALKWAY, S_STAIRS, E_STAIRS, S_TRAVELATOR, E_TRAVELATOR, S_ESCALATOR, E_ESCALATOR, S_ELEVATOR, E_ELEVATOR, S_FARE_GATE, E_FARE_GATE, S_EXIT_GATE, E_EXIT_GATE, S_CONTROL, E_CONTROL, R_WALKWAY_code, R_WALKWAY_ordinal, R_TRAVELATOR_ordinal, R_ESCALATOR_ordinal, R_ELEVATOR_ordinal, R_ESCALATOR_code, R_EXIT_GATE_code, R_EXIT_GATE_ordinal, R_CONTROL_code, R_CONTROL_ordinal, R_TRAVELATOR_code, R_STAIRS_code, R_STAIRS_ordinal, R_ELEVATOR_code, R_FARE_GATE_code, R_FARE_GATE_ordinal⟩ := G
  have k_75 : Go p.tables e below (s₁.setTop (entryFrame m #[(.int q1)] maxLocals)) (s₁.setTop (mkF m 2 #[iv q1, .unset, .unset, .unset, .unset, .unset, .unset] [(.int 8)])) := fun t q => by
    refine k0 t ?_
    refine XS.bipush X0.here hx rfl (hb hby at_0) ?_
    show Steps _ _ _ (s₁.setTop (mkF m 2 #[iv q1, .unset, .unset, .unset, .unset, .unset, .unset] [(.int 8)])) _
    exact q
  obtain ⟨T76, h76, c76, X76, e76, E76, A76, V76, st76⟩ := newR X0 hx hZ hown (hw _ (wd 0 rfl)) (hw _ (wd 1 rfl)) e0 (g := (mkF m 2 #[iv q1, .unset, .unset, .unset, .unset, .unset, .unset] [(.int 8)])) rfl (hb hby at_2) rfl (by decide) (cap := 8) (by decide) (by decide) (by decide) (by decide)
  obtain ⟨b76, g76⟩ : ∃ z, z = h0.size := ⟨_, rfl⟩
  rw [← g76] at A76 st76
  have g_b76 : n0 ≤ b76 := Nat.le_trans (own_old_le O0) (Nat.le_of_eq g76.symm)
  have sz_b76 : h0.size ≤ b76 := Nat.le_trans K0.1 (Nat.le_of_eq g76.symm)
  have O_77 := O0.ext E76
  have K_78 := K0.ext E76
  have B76 : Arv Z h76 b76 c76 (.object "com/example/stationgraph/stationgraph/station/PathwayMode") (8 : Int32) [.null, .null, .null, .null, .null, .null, .null, .null] .null := (Arv.new A76 (by decide)).pad (pad_rep [] .null 8)
  have k_79 : Go p.tables e below (s₁.setTop (entryFrame m #[(.int q1)] maxLocals)) (T76.setTop (mkF m 7 #[iv q1, .unset, .unset, .unset, .unset, .unset, .unset] [(.int 0), (.ref b76), (.ref b76)])) := fun t q => by
    refine k_75 t ?_
    refine st76 _ ?_
    show Steps _ _ _ (T76.setTop (mkF m 5 #[iv q1, .unset, .unset, .unset, .unset, .unset, .unset] [(.ref b76)])) _
    refine XS.dup X76.here hx rfl (hb hby at_5) rfl rfl ?_
    show Steps _ _ _ (T76.setTop (mkF m 6 #[iv q1, .unset, .unset, .unset, .unset, .unset, .unset] [(.ref b76), (.ref b76)])) _
    refine XS.iconst X76.here hx rfl (hb hby at_6) ?_
    show Steps _ _ _ (T76.setTop (mkF m 7 #[iv q1, .unset, .unset, .unset, .unset, .unset, .unset] [(.int 0), (.ref b76), (.ref b76)])) _
    exact q
  obtain ⟨T80, X80, e80, st80⟩ := getS2 X76 hx hZ hown (host := "") (Or.inl (hw _ (wd 2 rfl))) Via.refl e76 (S_WALKWAY.ext O_77.2) (g := (mkF m 7 #[iv q1, .unset, .unset, .unset, .unset, .unset, .unset] [(.int 0), (.ref b76), (.ref b76)])) rfl (hb hby at_7)
  have k_81 : Go p.tables e below (s₁.setTop (entryFrame m #[(.int q1)] maxLocals)) (T80.setTop (mkF m 10 #[iv q1, .unset, .unset, .unset, .unset, .unset, .unset] [(.ref a_WALKWAY), (.int 0), (.ref b76), (.ref b76)])) := fun t q => by
    refine k_79 t ?_
    refine st80 _ ?_
    show Steps _ _ _ (T80.setTop (mkF m 10 #[iv q1, .unset, .unset, .unset, .unset, .unset, .unset] [(.ref a_WALKWAY), (.int 0), (.ref b76), (.ref b76)])) _
    exact q
  obtain ⟨cl82, Ar82, q82, S82, M82, H82, G82⟩ := B76
  have hin82 : ¬ ((0 : Int32) < 0 ∨ cl82.slots.size ≤ ((0 : Int32)).toNatClampNeg) := inb_of S82 ⟨by decide, by decide⟩
  obtain ⟨T83, h83, X83, e83, W83, st83⟩ := stR X80 hx hZ e80 Ar82 (j := (0 : Int32)) hin82 rfl (Sto.ofV Ar82 q82 V76 (Ins.self (Exa.ext O_77.2 E_WALKWAY))) (g := (mkF m 10 #[iv q1, .unset, .unset, .unset, .unset, .unset, .unset] [(.ref a_WALKWAY), (.int 0), (.ref b76), (.ref b76)])) rfl rfl (hb hby at_10)
  have B83 : Arv Z h83 b76 c76 (.object "com/example/stationgraph/stationgraph/station/PathwayMode") (8 : Int32) [(.ref a_WALKWAY), .null, .null, .null, .null, .null, .null, .null] .null := Arv.set Ar82 q82 S82 M82 H82 G82 rfl W83 0 rfl (Nat.le_of_ble_eq_true rfl)
  have N83 := Fr.snoc X83 N0 g_b76
  have O_84 := O_77.wr W83 g_b76
  have K_85 := K_78.wr W83 (Or.inr sz_b76)
  have k_86 : Go p.tables e below (s₁.setTop (entryFrame m #[(.int q1)] maxLocals)) (T83.setTop (mkF m 13 #[iv q1, .unset, .unset, .unset, .unset, .unset, .unset] [(.int 1), (.ref b76), (.ref b76)])) := fun t q => by
    refine k_81 t ?_
    refine st83 _ ?_
    show Steps _ _ _ (T83.setTop (mkF m 11 #[iv q1, .unset, .unset, .unset, .unset, .unset, .unset] [(.ref b76)])) _
    refine XS.dup X83.here hx rfl (hb hby at_11) rfl rfl ?_
    show Steps _ _ _ (T83.setTop (mkF m 12 #[iv q1, .unset, .unset, .unset, .unset, .unset, .unset] [(.ref b76), (.ref b76)])) _
    refine XS.iconst X83.here hx rfl (hb hby at_12) ?_
    show Steps _ _ _ (T83.setTop (mkF m 13 #[iv q1, .unset, .unset, .unset, .unset, .unset, .unset] [(.int 1), (.ref b76), (.ref b76)])) _
    exact q
  obtain ⟨T87, X87, e87, st87⟩ := getS2 X83 hx hZ hown (host := "") (Or.inl (hw _ (wd 6 rfl))) Via.refl e83 (S_STAIRS.ext O_84.2) (g := (mkF m 13 #[iv q1, .unset, .unset, .unset, .unset, .unset, .unset] [(.int 1), (.ref b76), (.ref b76)])) rfl (hb hby at_13)
  have k_88 : Go p.tables e below (s₁.setTop (entryFrame m #[(.int q1)] maxLocals)) (T87.setTop (mkF m 16 #[iv q1, .unset, .unset, .unset, .unset, .unset, .unset] [(.ref a_STAIRS), (.int 1), (.ref b76), (.ref b76)])) := fun t q => by
    refine k_86 t ?_
    refine st87 _ ?_
    show Steps _ _ _ (T87.setTop (mkF m 16 #[iv q1, .unset, .unset, .unset, .unset, .unset, .unset] [(.ref a_STAIRS), (.int 1), (.ref b76), (.ref b76)])) _
    exact q
  obtain ⟨cl89, Ar89, q89, S89, M89, H89, G89⟩ := B83
  have hin89 : ¬ ((1 : Int32) < 0 ∨ cl89.slots.size ≤ ((1 : Int32)).toNatClampNeg) := inb_of S89 ⟨by decide, by decide⟩
  obtain ⟨T90, h90, X90, e90, W90, st90⟩ := stR X87 hx hZ e87 Ar89 (j := (1 : Int32)) hin89 rfl (Sto.ofV Ar89 q89 V76 (Ins.self (Exa.ext O_84.2 E_STAIRS))) (g := (mkF m 16 #[iv q1, .unset, .unset, .unset, .unset, .unset, .unset] [(.ref a_STAIRS), (.int 1), (.ref b76), (.ref b76)])) rfl rfl (hb hby at_16)
  have B90 : Arv Z h90 b76 c76 (.object "com/example/stationgraph/stationgraph/station/PathwayMode") (8 : Int32) [(.ref a_WALKWAY), (.ref a_STAIRS), .null, .null, .null, .null, .null, .null] .null := Arv.set Ar89 q89 S89 M89 H89 G89 rfl W90 1 rfl (Nat.le_of_ble_eq_true rfl)
  have N90 := Fr.snoc X90 N83 g_b76
  have O_91 := O_84.wr W90 g_b76
  have K_92 := K_85.wr W90 (Or.inr sz_b76)
  have k_93 : Go p.tables e below (s₁.setTop (entryFrame m #[(.int q1)] maxLocals)) (T90.setTop (mkF m 19 #[iv q1, .unset, .unset, .unset, .unset, .unset, .unset] [(.int 2), (.ref b76), (.ref b76)])) := fun t q => by
    refine k_88 t ?_
    refine st90 _ ?_
    show Steps _ _ _ (T90.setTop (mkF m 17 #[iv q1, .unset, .unset, .unset, .unset, .unset, .unset] [(.ref b76)])) _
    refine XS.dup X90.here hx rfl (hb hby at_17) rfl rfl ?_
    show Steps _ _ _ (T90.setTop (mkF m 18 #[iv q1, .unset, .unset, .unset, .unset, .unset, .unset] [(.ref b76), (.ref b76)])) _
    refine XS.iconst X90.here hx rfl (hb hby at_18) ?_
    show Steps _ _ _ (T90.setTop (mkF m 19 #[iv q1, .unset, .unset, .unset, .unset, .unset, .unset] [(.int 2), (.ref b76), (.ref b76)])) _
    exact q
  obtain ⟨T94, X94, e94, st94⟩ := getS2 X90 hx hZ hown (host := "") (Or.inl (hw _ (wd 8 rfl))) Via.refl e90 (S_TRAVELATOR.ext O_91.2) (g := (mkF m 19 #[iv q1, .unset, .unset, .unset, .unset, .unset, .unset] [(.int 2), (.ref b76), (.ref b76)])) rfl (hb hby at_19)
  have k_95 : Go p.tables e below (s₁.setTop (entryFrame m #[(.int q1)] maxLocals)) (T94.setTop (mkF m 22 #[iv q1, .unset, .unset, .unset, .unset, .unset, .unset] [(.ref a_TRAVELATOR), (.int 2), (.ref b76), (.ref b76)])) := fun t q => by
    refine k_93 t ?_
    refine st94 _ ?_
    show Steps _ _ _ (T94.setTop (mkF m 22 #[iv q1, .unset, .unset, .unset, .unset, .unset, .unset] [(.ref a_TRAVELATOR), (.int 2), (.ref b76), (.ref b76)])) _
    exact q
  obtain ⟨cl96, Ar96, q96, S96, M96, H96, G96⟩ := B90
  have hin96 : ¬ ((2 : Int32) < 0 ∨ cl96.slots.size ≤ ((2 : Int32)).toNatClampNeg) := inb_of S96 ⟨by decide, by decide⟩
  obtain ⟨T97, h97, X97, e97, W97, st97⟩ := stR X94 hx hZ e94 Ar96 (j := (2 : Int32)) hin96 rfl (Sto.ofV Ar96 q96 V76 (Ins.self (Exa.ext O_91.2 E_TRAVELATOR))) (g := (mkF m 22 #[iv q1, .unset, .unset, .unset, .unset, .unset, .unset] [(.ref a_TRAVELATOR), (.int 2), (.ref b76), (.ref b76)])) rfl rfl (hb hby at_22)
  have B97 : Arv Z h97 b76 c76 (.object "com/example/stationgraph/stationgraph/station/PathwayMode") (8 : Int32) [(.ref a_WALKWAY), (.ref a_STAIRS), (.ref a_TRAVELATOR), .null, .null, .null, .null, .null] .null := Arv.set Ar96 q96 S96 M96 H96 G96 rfl W97 2 rfl (Nat.le_of_ble_eq_true rfl)
  have N97 := Fr.snoc X97 N90 g_b76
  have O_98 := O_91.wr W97 g_b76
  have K_99 := K_92.wr W97 (Or.inr sz_b76)
  have k_100 : Go p.tables e below (s₁.setTop (entryFrame m #[(.int q1)] maxLocals)) (T97.setTop (mkF m 25 #[iv q1, .unset, .unset, .unset, .unset, .unset, .unset] [(.int 3), (.ref b76), (.ref b76)])) := fun t q => by
    refine k_95 t ?_
    refine st97 _ ?_
    show Steps _ _ _ (T97.setTop (mkF m 23 #[iv q1, .unset, .unset, .unset, .unset, .unset, .unset] [(.ref b76)])) _
    refine XS.dup X97.here hx rfl (hb hby at_23) rfl rfl ?_
    show Steps _ _ _ (T97.setTop (mkF m 24 #[iv q1, .unset, .unset, .unset, .unset, .unset, .unset] [(.ref b76), (.ref b76)])) _
    refine XS.iconst X97.here hx rfl (hb hby at_24) ?_
    show Steps _ _ _ (T97.setTop (mkF m 25 #[iv q1, .unset, .unset, .unset, .unset, .unset, .unset] [(.int 3), (.ref b76), (.ref b76)])) _
    exact q
  obtain ⟨T101, X101, e101, st101⟩ := getS2 X97 hx hZ hown (host := "") (Or.inl (hw _ (wd 10 rfl))) Via.refl e97 (S_ESCALATOR.ext O_98.2) (g := (mkF m 25 #[iv q1, .unset, .unset, .unset, .unset, .unset, .unset] [(.int 3), (.ref b76), (.ref b76)])) rfl (hb hby at_25)
  have k_102 : Go p.tables e below (s₁.setTop (entryFrame m #[(.int q1)] maxLocals)) (T101.setTop (mkF m 28 #[iv q1, .unset, .unset, .unset, .unset, .unset, .unset] [(.ref a_ESCALATOR), (.int 3), (.ref b76), (.ref b76)])) := fun t q => by
    refine k_100 t ?_
    refine st101 _ ?_
    show Steps _ _ _ (T101.setTop (mkF m 28 #[iv q1, .unset, .unset, .unset, .unset, .unset, .unset] [(.ref a_ESCALATOR), (.int 3), (.ref b76), (.ref b76)])) _
    exact q
  obtain ⟨cl103, Ar103, q103, S103, M103, H103, G103⟩ := B97
  have hin103 : ¬ ((3 : Int32) < 0 ∨ cl103.slots.size ≤ ((3 : Int32)).toNatClampNeg) := inb_of S103 ⟨by decide, by decide⟩
  obtain ⟨T104, h104, X104, e104, W104, st104⟩ := stR X101 hx hZ e101 Ar103 (j := (3 : Int32)) hin103 rfl (Sto.ofV Ar103 q103 V76 (Ins.self (Exa.ext O_98.2 E_ESCALATOR))) (g := (mkF m 28 #[iv q1, .unset, .unset, .unset, .unset, .unset, .unset] [(.ref a_ESCALATOR), (.int 3), (.ref b76), (.ref b76)])) rfl rfl (hb hby at_28)
  have B104 : Arv Z h104 b76 c76 (.object "com/example/stationgraph/stationgraph/station/PathwayMode") (8 : Int32) [(.ref a_WALKWAY), (.ref a_STAIRS), (.ref a_TRAVELATOR), (.ref a_ESCALATOR), .null, .null, .null, .null] .null := Arv.set Ar103 q103 S103 M103 H103 G103 rfl W104 3 rfl (Nat.le_of_ble_eq_true rfl)
  have N104 := Fr.snoc X104 N97 g_b76
  have O_105 := O_98.wr W104 g_b76
  have K_106 := K_99.wr W104 (Or.inr sz_b76)
  have k_107 : Go p.tables e below (s₁.setTop (entryFrame m #[(.int q1)] maxLocals)) (T104.setTop (mkF m 31 #[iv q1, .unset, .unset, .unset, .unset, .unset, .unset] [(.int 4), (.ref b76), (.ref b76)])) := fun t q => by
    refine k_102 t ?_
    refine st104 _ ?_
    show Steps _ _ _ (T104.setTop (mkF m 29 #[iv q1, .unset, .unset, .unset, .unset, .unset, .unset] [(.ref b76)])) _
    refine XS.dup X104.here hx rfl (hb hby at_29) rfl rfl ?_
    show Steps _ _ _ (T104.setTop (mkF m 30 #[iv q1, .unset, .unset, .unset, .unset, .unset, .unset] [(.ref b76), (.ref b76)])) _
    refine XS.iconst X104.here hx rfl (hb hby at_30) ?_
    show Steps _ _ _ (T104.setTop (mkF m 31 #[iv q1, .unset, .unset, .unset, .unset, .unset, .unset] [(.int 4), (.ref b76), (.ref b76)])) _
    exact q
  obtain ⟨T108, X108, e108, st108⟩ := getS2 X104 hx hZ hown (host := "") (Or.inl (hw _ (wd 12 rfl))) Via.refl e104 (S_ELEVATOR.ext O_105.2) (g := (mkF m 31 #[iv q1, .unset, .unset, .unset, .unset, .unset, .unset] [(.int 4), (.ref b76), (.ref b76)])) rfl (hb hby at_31)
  have k_109 : Go p.tables e below (s₁.setTop (entryFrame m #[(.int q1)] maxLocals)) (T108.setTop (mkF m 34 #[iv q1, .unset, .unset, .unset, .unset, .unset, .unset] [(.ref a_ELEVATOR), (.int 4), (.ref b76), (.ref b76)])) := fun t q => by
    refine k_107 t ?_
    refine st108 _ ?_
    show Steps _ _ _ (T108.setTop (mkF m 34 #[iv q1, .unset, .unset, .unset, .unset, .unset, .unset] [(.ref a_ELEVATOR), (.int 4), (.ref b76), (.ref b76)])) _
    exact q
  obtain ⟨cl110, Ar110, q110, S110, M110, H110, G110⟩ := B104
  have hin110 : ¬ ((4 : Int32) < 0 ∨ cl110.slots.size ≤ ((4 : Int32)).toNatClampNeg) := inb_of S110 ⟨by decide, by decide⟩
  obtain ⟨T111, h111, X111, e111, W111, st111⟩ := stR X108 hx hZ e108 Ar110 (j := (4 : Int32)) hin110 rfl (Sto.ofV Ar110 q110 V76 (Ins.self (Exa.ext O_105.2 E_ELEVATOR))) (g := (mkF m 34 #[iv q1, .unset, .unset, .unset, .unset, .unset, .unset] [(.ref a_ELEVATOR), (.int 4), (.ref b76), (.ref b76)])) rfl rfl (hb hby at_34)
  have B111 : Arv Z h111 b76 c76 (.object "com/example/stationgraph/stationgraph/station/PathwayMode") (8 : Int32) [(.ref a_WALKWAY), (.ref a_STAIRS), (.ref a_TRAVELATOR), (.ref a_ESCALATOR), (.ref a_ELEVATOR), .null, .null, .null] .null := Arv.set Ar110 q110 S110 M110 H110 G110 rfl W111 4 rfl (Nat.le_of_ble_eq_true rfl)
  have N111 := Fr.snoc X111 N104 g_b76
  have O_112 := O_105.wr W111 g_b76
  have K_113 := K_106.wr W111 (Or.inr sz_b76)
  have k_114 : Go p.tables e below (s₁.setTop (entryFrame m #[(.int q1)] maxLocals)) (T111.setTop (mkF m 37 #[iv q1, .unset, .unset, .unset, .unset, .unset, .unset] [(.int 5), (.ref b76), (.ref b76)])) := fun t q => by
    refine k_109 t ?_
    refine st111 _ ?_
    show Steps _ _ _ (T111.setTop (mkF m 35 #[iv q1, .unset, .unset, .unset, .unset, .unset, .unset] [(.ref b76)])) _
    refine XS.dup X111.here hx rfl (hb hby at_35) rfl rfl ?_
    show Steps _ _ _ (T111.setTop (mkF m 36 #[iv q1, .unset, .unset, .unset, .unset, .unset, .unset] [(.ref b76), (.ref b76)])) _
    refine XS.iconst X111.here hx rfl (hb hby at_36) ?_
    show Steps _ _ _ (T111.setTop (mkF m 37 #[iv q1, .unset, .unset, .unset, .unset, .unset, .unset] [(.int 5), (.ref b76), (.ref b76)])) _
    exact q
  obtain ⟨T115, X115, e115, st115⟩ := getS2 X111 hx hZ hown (host := "") (Or.inl (hw _ (wd 14 rfl))) Via.refl e111 (S_FARE_GATE.ext O_112.2) (g := (mkF m 37 #[iv q1, .unset, .unset, .unset, .unset, .unset, .unset] [(.int 5), (.ref b76), (.ref b76)])) rfl (hb hby at_37)
  have k_116 : Go p.tables e below (s₁.setTop (entryFrame m #[(.int q1)] maxLocals)) (T115.setTop (mkF m 40 #[iv q1, .unset, .unset, .unset, .unset, .unset, .unset] [(.ref a_FARE_GATE), (.int 5), (.ref b76), (.ref b76)])) := fun t q => by
    refine k_114 t ?_
    refine st115 _ ?_
    show Steps _ _ _ (T115.setTop (mkF m 40 #[iv q1, .unset, .unset, .unset, .unset, .unset, .unset] [(.ref a_FARE_GATE), (.int 5), (.ref b76), (.ref b76)])) _
    exact q
  obtain ⟨cl117, Ar117, q117, S117, M117, H117, G117⟩ := B111
  have hin117 : ¬ ((5 : Int32) < 0 ∨ cl117.slots.size ≤ ((5 : Int32)).toNatClampNeg) := inb_of S117 ⟨by decide, by decide⟩
  obtain ⟨T118, h118, X118, e118, W118, st118⟩ := stR X115 hx hZ e115 Ar117 (j := (5 : Int32)) hin117 rfl (Sto.ofV Ar117 q117 V76 (Ins.self (Exa.ext O_112.2 E_FARE_GATE))) (g := (mkF m 40 #[iv q1, .unset, .unset, .unset, .unset, .unset, .unset] [(.ref a_FARE_GATE), (.int 5), (.ref b76), (.ref b76)])) rfl rfl (hb hby at_40)
  have B118 : Arv Z h118 b76 c76 (.object "com/example/stationgraph/stationgraph/station/PathwayMode") (8 : Int32) [(.ref a_WALKWAY), (.ref a_STAIRS), (.ref a_TRAVELATOR), (.ref a_ESCALATOR), (.ref a_ELEVATOR), (.ref a_FARE_GATE), .null, .null] .null := Arv.set Ar117 q117 S117 M117 H117 G117 rfl W118 5 rfl (Nat.le_of_ble_eq_true rfl)
  have N118 := Fr.snoc X118 N111 g_b76
  have O_119 := O_112.wr W118 g_b76
  have K_120 := K_113.wr W118 (Or.inr sz_b76)
  have k_121 : Go p.tables e below (s₁.setTop (entryFrame m #[(.int q1)] maxLocals)) (T118.setTop (mkF m 44 #[iv q1, .unset, .unset, .unset, .unset, .unset, .unset] [(.int 6), (.ref b76), (.ref b76)])) := fun t q => by
    refine k_116 t ?_
    refine st118 _ ?_
    show Steps _ _ _ (T118.setTop (mkF m 41 #[iv q1, .unset, .unset, .unset, .unset, .unset, .unset] [(.ref b76)])) _
    refine XS.dup X118.here hx rfl (hb hby at_41) rfl rfl ?_
    show Steps _ _ _ (T118.setTop (mkF m 42 #[iv q1, .unset, .unset, .unset, .unset, .unset, .unset] [(.ref b76), (.ref b76)])) _
    refine XS.bipush X118.here hx rfl (hb hby at_42) ?_
    show Steps _ _ _ (T118.setTop (mkF m 44 #[iv q1, .unset, .unset, .unset, .unset, .unset, .unset] [(.int 6), (.ref b76), (.ref b76)])) _
    exact q
  obtain ⟨T122, X122, e122, st122⟩ := getS2 X118 hx hZ hown (host := "") (Or.inl (hw _ (wd 16 rfl))) Via.refl e118 (S_EXIT_GATE.ext O_119.2) (g := (mkF m 44 #[iv q1, .unset, .unset, .unset, .unset, .unset, .unset] [(.int 6), (.ref b76), (.ref b76)])) rfl (hb hby at_44)
  have k_123 : Go p.tables e below (s₁.setTop (entryFrame m #[(.int q1)] maxLocals)) (T122.setTop (mkF m 47 #[iv q1, .unset, .unset, .unset, .unset, .unset, .unset] [(.ref a_EXIT_GATE), (.int 6), (.ref b76), (.ref b76)])) := fun t q => by
    refine k_121 t ?_
    refine st122 _ ?_
    show Steps _ _ _ (T122.setTop (mkF m 47 #[iv q1, .unset, .unset, .unset, .unset, .unset, .unset] [(.ref a_EXIT_GATE), (.int 6), (.ref b76), (.ref b76)])) _
    exact q
  obtain ⟨cl124, Ar124, q124, S124, M124, H124, G124⟩ := B118
  have hin124 : ¬ ((6 : Int32) < 0 ∨ cl124.slots.size ≤ ((6 : Int32)).toNatClampNeg) := inb_of S124 ⟨by decide, by decide⟩
  obtain ⟨T125, h125, X125, e125, W125, st125⟩ := stR X122 hx hZ e122 Ar124 (j := (6 : Int32)) hin124 rfl (Sto.ofV Ar124 q124 V76 (Ins.self (Exa.ext O_119.2 E_EXIT_GATE))) (g := (mkF m 47 #[iv q1, .unset, .unset, .unset, .unset, .unset, .unset] [(.ref a_EXIT_GATE), (.int 6), (.ref b76), (.ref b76)])) rfl rfl (hb hby at_47)
  have B125 : Arv Z h125 b76 c76 (.object "com/example/stationgraph/stationgraph/station/PathwayMode") (8 : Int32) [(.ref a_WALKWAY), (.ref a_STAIRS), (.ref a_TRAVELATOR), (.ref a_ESCALATOR), (.ref a_ELEVATOR), (.ref a_FARE_GATE), (.ref a_EXIT_GATE), .null] .null := Arv.set Ar124 q124 S124 M124 H124 G124 rfl W125 6 rfl (Nat.le_of_ble_eq_true rfl)
  have N125 := Fr.snoc X125 N118 g_b76
  have O_126 := O_119.wr W125 g_b76
  have K_127 := K_120.wr W125 (Or.inr sz_b76)
  have k_128 : Go p.tables e below (s₁.setTop (entryFrame m #[(.int q1)] maxLocals)) (T125.setTop (mkF m 51 #[iv q1, .unset, .unset, .unset, .unset, .unset, .unset] [(.int 7), (.ref b76), (.ref b76)])) := fun t q => by
    refine k_123 t ?_
    refine st125 _ ?_
    show Steps _ _ _ (T125.setTop (mkF m 48 #[iv q1, .unset, .unset, .unset, .unset, .unset, .unset] [(.ref b76)])) _
    refine XS.dup X125.here hx rfl (hb hby at_48) rfl rfl ?_
    show Steps _ _ _ (T125.setTop (mkF m 49 #[iv q1, .unset, .unset, .unset, .unset, .unset, .unset] [(.ref b76), (.ref b76)])) _
    refine XS.bipush X125.here hx rfl (hb hby at_49) ?_
    show Steps _ _ _ (T125.setTop (mkF m 51 #[iv q1, .unset, .unset, .unset, .unset, .unset, .unset] [(.int 7), (.ref b76), (.ref b76)])) _
    exact q
  obtain ⟨T129, X129, e129, st129⟩ := getS2 X125 hx hZ hown (host := "") (Or.inl (hw _ (wd 18 rfl))) Via.refl e125 (S_CONTROL.ext O_126.2) (g := (mkF m 51 #[iv q1, .unset, .unset, .unset, .unset, .unset, .unset] [(.int 7), (.ref b76), (.ref b76)])) rfl (hb hby at_51)
  have k_130 : Go p.tables e below (s₁.setTop (entryFrame m #[(.int q1)] maxLocals)) (T129.setTop (mkF m 54 #[iv q1, .unset, .unset, .unset, .unset, .unset, .unset] [(.ref a_CONTROL), (.int 7), (.ref b76), (.ref b76)])) := fun t q => by
    refine k_128 t ?_
    refine st129 _ ?_
    show Steps _ _ _ (T129.setTop (mkF m 54 #[iv q1, .unset, .unset, .unset, .unset, .unset, .unset] [(.ref a_CONTROL), (.int 7), (.ref b76), (.ref b76)])) _
    exact q
  obtain ⟨cl131, Ar131, q131, S131, M131, H131, G131⟩ := B125
  have hin131 : ¬ ((7 : Int32) < 0 ∨ cl131.slots.size ≤ ((7 : Int32)).toNatClampNeg) := inb_of S131 ⟨by decide, by decide⟩
  obtain ⟨T132, h132, X132, e132, W132, st132⟩ := stR X129 hx hZ e129 Ar131 (j := (7 : Int32)) hin131 rfl (Sto.ofV Ar131 q131 V76 (Ins.self (Exa.ext O_126.2 E_CONTROL))) (g := (mkF m 54 #[iv q1, .unset, .unset, .unset, .unset, .unset, .unset] [(.ref a_CONTROL), (.int 7), (.ref b76), (.ref b76)])) rfl rfl (hb hby at_54)
  have B132 : Arv Z h132 b76 c76 (.object "com/example/stationgraph/stationgraph/station/PathwayMode") (8 : Int32) [(.ref a_WALKWAY), (.ref a_STAIRS), (.ref a_TRAVELATOR), (.ref a_ESCALATOR), (.ref a_ELEVATOR), (.ref a_FARE_GATE), (.ref a_EXIT_GATE), (.ref a_CONTROL)] .null := Arv.set Ar131 q131 S131 M131 H131 G131 rfl W132 7 rfl (Nat.le_of_ble_eq_true rfl)
  have N132 := Fr.snoc X132 N125 g_b76
  have O_133 := O_126.wr W132 g_b76
  have K_134 := K_127.wr W132 (Or.inr sz_b76)
  have k_135 : Go p.tables e below (s₁.setTop (entryFrame m #[(.int q1)] maxLocals)) (T132.setTop (mkF m 55 #[iv q1, .unset, .unset, .unset, .unset, .unset, .unset] [(.ref b76)])) := fun t q => by
    refine k_130 t ?_
    refine st132 _ ?_
    show Steps _ _ _ (T132.setTop (mkF m 55 #[iv q1, .unset, .unset, .unset, .unset, .unset, .unset] [(.ref b76)])) _
    exact q
  rcases own_mask_8 q1 with hi | hi | hi | hi | hi | hi | hi | hi
  · skip
    have k_136 : Go p.tables e below (s₁.setTop (entryFrame m #[(.int q1)] maxLocals)) (T132.setTop (mkF m 63 #[iv q1, rv b76, iv 0, .unset, .unset, .unset, .unset] [(.int 0), (.ref b76)])) := fun t q => by
      refine k_135 t ?_
      refine XS.astoreN X132.here hx rfl (hb hby at_55) rfl rfl (l' := #[iv q1, rv b76, .unset, .unset, .unset, .unset, .unset]) rfl ?_
      show Steps _ _ _ (T132.setTop (mkF m 56 #[iv q1, rv b76, .unset, .unset, .unset, .unset, .unset] [])) _
      refine XS.iloadN X132.here hx rfl (hb hby at_56) rfl ?_
      show Steps _ _ _ (T132.setTop (mkF m 57 #[iv q1, rv b76, .unset, .unset, .unset, .unset, .unset] [(.int q1)])) _
      refine XS.bipush X132.here hx rfl (hb hby at_57) ?_
      show Steps _ _ _ (T132.setTop (mkF m 59 #[iv q1, rv b76, .unset, .unset, .unset, .unset, .unset] [(.int 7), (.int q1)])) _
      refine XS.iand X132.here hx rfl (hb hby at_59) rfl ?_
      show Steps _ _ _ (T132.setTop (mkF m 60 #[iv q1, rv b76, .unset, .unset, .unset, .unset, .unset] [(.int (q1 &&& (7 : Int32)))])) _
      rw [hi]
      show Steps _ _ _ (T132.setTop (mkF m 60 #[iv q1, rv b76, .unset, .unset, .unset, .unset, .unset] [(.int 0)])) _
      refine XS.istoreN X132.here hx rfl (hb hby at_60) rfl (l' := #[iv q1, rv b76, iv 0, .unset, .unset, .unset, .unset]) rfl ?_
      show Steps _ _ _ (T132.setTop (mkF m 61 #[iv q1, rv b76, iv 0, .unset, .unset, .unset, .unset] [])) _
      refine XS.aloadN X132.here hx rfl (hb hby at_61) rfl rfl ?_
      show Steps _ _ _ (T132.setTop (mkF m 62 #[iv q1, rv b76, iv 0, .unset, .unset, .unset, .unset] [(.ref b76)])) _
      refine XS.iloadN X132.here hx rfl (hb hby at_62) rfl ?_
      show Steps _ _ _ (T132.setTop (mkF m 63 #[iv q1, rv b76, iv 0, .unset, .unset, .unset, .unset] [(.int 0), (.ref b76)])) _
      exact q
    obtain ⟨cl137, Ar137, q137, S137, M137, H137, G137⟩ := B132
    have hin137 : ¬ ((0 : Int32) < 0 ∨ cl137.slots.size ≤ ((0 : Int32)).toNatClampNeg) := inb_of S137 ⟨by decide, by decide⟩
    have hat137 : cl137.slots[((0 : Int32)).toNatClampNeg]? = some (.ref a_WALKWAY) := Has.at H137 hin137 rfl
    have k_138 : Go p.tables e below (s₁.setTop (entryFrame m #[(.int q1)] maxLocals)) (T132.setTop (mkF m 66 #[iv q1, rv b76, iv 0, rv a_WALKWAY, .unset, .unset, .unset] [(.ref a_WALKWAY)])) := fun t q => by
      refine k_136 t ?_
      refine X132.aaload hx (j := (0 : Int32)) (v := (.ref a_WALKWAY)) (by rw [e132]; exact Ar137.1) (State.isArrayOf_alike hZ.alike Ar137.2.1) rfl Ar137.2.2 hin137 hat137 (g := (mkF m 63 #[iv q1, rv b76, iv 0, .unset, .unset, .unset, .unset] [(.int 0), (.ref b76)])) rfl rfl (hb hby at_63) _ ?_
      show Steps _ _ _ (T132.setTop (mkF m 64 #[iv q1, rv b76, iv 0, .unset, .unset, .unset, .unset] [(.ref a_WALKWAY)])) _
      refine XS.astoreN X132.here hx rfl (hb hby at_64) rfl rfl (l' := #[iv q1, rv b76, iv 0, rv a_WALKWAY, .unset, .unset, .unset]) rfl ?_
      show Steps _ _ _ (T132.setTop (mkF m 65 #[iv q1, rv b76, iv 0, rv a_WALKWAY, .unset, .unset, .unset] [])) _
      refine XS.aloadN X132.here hx rfl (hb hby at_65) rfl rfl ?_
      show Steps _ _ _ (T132.setTop (mkF m 66 #[iv q1, rv b76, iv 0, rv a_WALKWAY, .unset, .unset, .unset] [(.ref a_WALKWAY)])) _
      exact q
    obtain ⟨cq139, kq139, q139a, q139b, q139c⟩ := isOf hZ e132 (Exa.ext O_133.2 E_WALKWAY)
    obtain ⟨_, _, ⟨T139, L139, k139, n139⟩, -, X139, ⟨Lc139, hQ139, l139, y139, z139⟩, st139⟩ := X132.virtualBack hx (y := y_0) (z := y_0) hown (mvT hZ (hw _ (wd 20 rfl))) (mvT hZ (hw _ (wd 21 rfl))) (notFace_of_selects (args := #[]) (mvT hZ (hw _ (wd 23 rfl)))) (mvT hZ (hw _ (wd 23 rfl))) (mvT hZ (hw _ (wd 22 rfl))) (by decide) (backOf (W := 0) (cd_0 l Z a0 hw [] a_WALKWAY a_STAIRS a_TRAVELATOR a_ESCALATOR a_ELEVATOR a_FARE_GATE a_EXIT_GATE a_CONTROL G  h132 n0 O_133 ) hZ (hw _ (wd 24 rfl)) (hw _ (wd 3 rfl)) (by decide) (by decide)) q139a q139c (g := (mkF m 66 #[iv q1, rv b76, iv 0, rv a_WALKWAY, .unset, .unset, .unset] [(.ref a_WALKWAY)])) rfl (by rw [hml]; rfl) (Steps.refl _) (argsL := []) (rest := []) (lenOf pd_0 rfl) rfl (by show 2 * 0 + _ ≤ _; exact Nat.le_of_eq rfl) (hb hby at_66) (fun _ _ => ⟨rfl, e132, (by decide : 1 + 0 ≤ _), (by decide : 8 + 0 ≤ _)⟩)
    dsimp only [Pt.U, Pt.locs, Pt.cells, Pt.slots] at X139 l139 y139 z139 st139 hQ139
    subst l139 y139 z139
    obtain ⟨rfl, N139q, e139⟩ := hQ139
    have N139 := Fr.app N132 N139q
    have k_140 : Go p.tables e below (s₁.setTop (entryFrame m #[(.int q1)] maxLocals)) (T139.setTop (mkF m 113 #[iv q1, rv b76, iv 0, rv a_WALKWAY, iv 1, iv 0, iv 0] [(.ref a_WALKWAY)])) := fun t q => by
      refine k_138 t ?_
      refine st139.trans ?_
      show Steps _ _ _ (T139.setTop (mkF m 69 #[iv q1, rv b76, iv 0, rv a_WALKWAY, .unset, .unset, .unset] [(.int 1)])) _
      refine XS.istore X139.here hx rfl (hb hby at_69) rfl (l' := #[iv q1, rv b76, iv 0, rv a_WALKWAY, iv 1, .unset, .unset]) rfl ?_
      show Steps _ _ _ (T139.setTop (mkF m 71 #[iv q1, rv b76, iv 0, rv a_WALKWAY, iv 1, .unset, .unset] [])) _
      refine XS.iload X139.here hx rfl (hb hby at_71) rfl ?_
      show Steps _ _ _ (T139.setTop (mkF m 73 #[iv q1, rv b76, iv 0, rv a_WALKWAY, iv 1, .unset, .unset] [(.int 1)])) _
      refine XS.iconst X139.here hx rfl (hb hby at_73) ?_
      show Steps _ _ _ (T139.setTop (mkF m 74 #[iv q1, rv b76, iv 0, rv a_WALKWAY, iv 1, .unset, .unset] [(.int 3), (.int 1)])) _
      refine XS.icmpYes X139.here hx rfl (pc0 := 74) (pc' := 87) rfl (hb hby at_74) rfl (by decide) (by decide) (by decide) ?_
      show Steps _ _ _ (T139.setTop (mkF m 87 #[iv q1, rv b76, iv 0, rv a_WALKWAY, iv 1, .unset, .unset] [])) _
      refine XS.iconst X139.here hx rfl (hb hby at_87) ?_
      show Steps _ _ _ (T139.setTop (mkF m 88 #[iv q1, rv b76, iv 0, rv a_WALKWAY, iv 1, .unset, .unset] [(.int 0)])) _
      refine XS.istore X139.here hx rfl (hb hby at_88) rfl (l' := #[iv q1, rv b76, iv 0, rv a_WALKWAY, iv 1, iv 0, .unset]) rfl ?_
      show Steps _ _ _ (T139.setTop (mkF m 90 #[iv q1, rv b76, iv 0, rv a_WALKWAY, iv 1, iv 0, .unset] [])) _
      refine XS.iloadN X139.here hx rfl (hb hby at_90) rfl ?_
      show Steps _ _ _ (T139.setTop (mkF m 91 #[iv q1, rv b76, iv 0, rv a_WALKWAY, iv 1, iv 0, .unset] [(.int 0)])) _
      refine XS.iconst X139.here hx rfl (hb hby at_91) ?_
      show Steps _ _ _ (T139.setTop (mkF m 92 #[iv q1, rv b76, iv 0, rv a_WALKWAY, iv 1, iv 0, .unset] [(.int 2), (.int 0)])) _
      refine XS.icmpNo X139.here hx rfl (hb hby at_92) rfl (by decide) ?_
      show Steps _ _ _ (T139.setTop (mkF m 95 #[iv q1, rv b76, iv 0, rv a_WALKWAY, iv 1, iv 0, .unset] [])) _
      refine XS.iloadN X139.here hx rfl (hb hby at_95) rfl ?_
      show Steps _ _ _ (T139.setTop (mkF m 96 #[iv q1, rv b76, iv 0, rv a_WALKWAY, iv 1, iv 0, .unset] [(.int 0)])) _
      refine XS.iconst X139.here hx rfl (hb hby at_96) ?_
      show Steps _ _ _ (T139.setTop (mkF m 97 #[iv q1, rv b76, iv 0, rv a_WALKWAY, iv 1, iv 0, .unset] [(.int 3), (.int 0)])) _
      refine XS.icmpNo X139.here hx rfl (hb hby at_97) rfl (by decide) ?_
      show Steps _ _ _ (T139.setTop (mkF m 100 #[iv q1, rv b76, iv 0, rv a_WALKWAY, iv 1, iv 0, .unset] [])) _
      refine XS.iloadN X139.here hx rfl (hb hby at_100) rfl ?_
      show Steps _ _ _ (T139.setTop (mkF m 101 #[iv q1, rv b76, iv 0, rv a_WALKWAY, iv 1, iv 0, .unset] [(.int 0)])) _
      refine XS.iconst X139.here hx rfl (hb hby at_101) ?_
      show Steps _ _ _ (T139.setTop (mkF m 102 #[iv q1, rv b76, iv 0, rv a_WALKWAY, iv 1, iv 0, .unset] [(.int 4), (.int 0)])) _
      refine XS.icmpYes X139.here hx rfl (pc0 := 102) (pc' := 109) rfl (hb hby at_102) rfl (by decide) (by decide) (by decide) ?_
      show Steps _ _ _ (T139.setTop (mkF m 109 #[iv q1, rv b76, iv 0, rv a_WALKWAY, iv 1, iv 0, .unset] [])) _
      refine XS.iconst X139.here hx rfl (hb hby at_109) ?_
      show Steps _ _ _ (T139.setTop (mkF m 110 #[iv q1, rv b76, iv 0, rv a_WALKWAY, iv 1, iv 0, .unset] [(.int 0)])) _
      refine XS.istore X139.here hx rfl (hb hby at_110) rfl (l' := #[iv q1, rv b76, iv 0, rv a_WALKWAY, iv 1, iv 0, iv 0]) rfl ?_
      show Steps _ _ _ (T139.setTop (mkF m 112 #[iv q1, rv b76, iv 0, rv a_WALKWAY, iv 1, iv 0, iv 0] [])) _
      refine XS.aloadN X139.here hx rfl (hb hby at_112) rfl rfl ?_
      show Steps _ _ _ (T139.setTop (mkF m 113 #[iv q1, rv b76, iv 0, rv a_WALKWAY, iv 1, iv 0, iv 0] [(.ref a_WALKWAY)])) _
      exact q
    obtain ⟨cq141, kq141, q141a, q141b, q141c⟩ := isOf hZ e139 (Exa.ext O_133.2 E_WALKWAY)
    obtain ⟨_, _, ⟨T141, L141, k141, n141⟩, -, X141, ⟨Lc141, hQ141, l141, y141, z141⟩, st141⟩ := X139.virtualBack hx (y := y_1) (z := y_1) hown (mvT hZ (hw _ (wd 27 rfl))) (mvT hZ (hw _ (wd 28 rfl))) (notFace_of_selects (args := #[]) (mvT hZ (hw _ (wd 30 rfl)))) (mvT hZ (hw _ (wd 30 rfl))) (mvT hZ (hw _ (wd 29 rfl))) (by decide) (backOf (W := 0) (me_0 l Z a0 hw [] a_WALKWAY a_STAIRS a_TRAVELATOR a_ESCALATOR a_ELEVATOR a_FARE_GATE a_EXIT_GATE a_CONTROL G  h132 n0 O_133 ) hZ (hw _ (wd 31 rfl)) (hw _ (wd 3 rfl)) (by decide) (by decide)) q141a q141c (g := (mkF m 113 #[iv q1, rv b76, iv 0, rv a_WALKWAY, iv 1, iv 0, iv 0] [(.ref a_WALKWAY)])) rfl (by rw [hml]; rfl) (Steps.refl _) (argsL := []) (rest := []) (lenOf pd_1 rfl) rfl (by show 2 * 0 + _ ≤ _; exact Nat.le_of_eq rfl) (hb hby at_113) (fun _ _ => ⟨rfl, e139, (by decide : 1 + 0 ≤ _), (by decide : 8 + 0 ≤ _)⟩)
    dsimp only [Pt.U, Pt.locs, Pt.cells, Pt.slots] at X141 l141 y141 z141 st141 hQ141
    subst l141 y141 z141
    obtain ⟨rfl, N141q, e141⟩ := hQ141
    have N141 := Fr.app N139 N141q
    have k_142 : Go p.tables e below (s₁.setTop (entryFrame m #[(.int q1)] maxLocals)) (T141.setTop (mkF m 133 #[iv q1, rv b76, iv 0, rv a_WALKWAY, iv 1, iv 0, iv 0] [(.int 1)])) := fun t q => by
      refine k_140 t ?_
      refine st141.trans ?_
      show Steps _ _ _ (T141.setTop (mkF m 116 #[iv q1, rv b76, iv 0, rv a_WALKWAY, iv 1, iv 0, iv 0] [(.int 0)])) _
      refine XS.iload X141.here hx rfl (hb hby at_116) rfl ?_
      show Steps _ _ _ (T141.setTop (mkF m 118 #[iv q1, rv b76, iv 0, rv a_WALKWAY, iv 1, iv 0, iv 0] [(.int 0), (.int 0)])) _
      refine XS.icmpNo X141.here hx rfl (hb hby at_118) rfl (by decide) ?_
      show Steps _ _ _ (T141.setTop (mkF m 121 #[iv q1, rv b76, iv 0, rv a_WALKWAY, iv 1, iv 0, iv 0] [])) _
      refine XS.iload X141.here hx rfl (hb hby at_121) rfl ?_
      show Steps _ _ _ (T141.setTop (mkF m 123 #[iv q1, rv b76, iv 0, rv a_WALKWAY, iv 1, iv 0, iv 0] [(.int 0)])) _
      refine XS.iload X141.here hx rfl (hb hby at_123) rfl ?_
      show Steps _ _ _ (T141.setTop (mkF m 125 #[iv q1, rv b76, iv 0, rv a_WALKWAY, iv 1, iv 0, iv 0] [(.int 0), (.int 0)])) _
      refine XS.icmpNo X141.here hx rfl (hb hby at_125) rfl (by decide) ?_
      show Steps _ _ _ (T141.setTop (mkF m 128 #[iv q1, rv b76, iv 0, rv a_WALKWAY, iv 1, iv 0, iv 0] [])) _
      refine XS.iconst X141.here hx rfl (hb hby at_128) ?_
      show Steps _ _ _ (T141.setTop (mkF m 129 #[iv q1, rv b76, iv 0, rv a_WALKWAY, iv 1, iv 0, iv 0] [(.int 1)])) _
      refine XS.goto X141.here hx rfl (pc0 := 129) (pc' := 133) rfl (hb hby at_129) (by decide) (by decide) ?_
      show Steps _ _ _ (T141.setTop (mkF m 133 #[iv q1, rv b76, iv 0, rv a_WALKWAY, iv 1, iv 0, iv 0] [(.int 1)])) _
      exact q
    obtain ⟨fs, hr, hrun, hended, hW, hsame⟩ := X141.leave (v := some (.int 1)) (fun h => by rw [Bd.returns] at h; cases h)
    refine ⟨_, _, k_142 _ ?_, hrun, hended, _, _, rfl, ?_, ⟨_, rfl⟩, hW, hsame.mono (by decide) (by decide)⟩
    · exact retN X141 hx (t := .boolean) Bd.returns (by simp) (hb hby at_133) hr
    · show Q0 n0 _ T141.heap _
      rw [e141]
      exact ⟨rfl, N141⟩
  · skip
    have k_143 : Go p.tables e below (s₁.setTop (entryFrame m #[(.int q1)] maxLocals)) (T132.setTop (mkF m 63 #[iv q1, rv b76, iv 1, .unset, .unset, .unset, .unset] [(.int 1), (.ref b76)])) := fun t q => by
      refine k_135 t ?_
      refine XS.astoreN X132.here hx rfl (hb hby at_55) rfl rfl (l' := #[iv q1, rv b76, .unset, .unset, .unset, .unset, .unset]) rfl ?_
      show Steps _ _ _ (T132.setTop (mkF m 56 #[iv q1, rv b76, .unset, .unset, .unset, .unset, .unset] [])) _
      refine XS.iloadN X132.here hx rfl (hb hby at_56) rfl ?_
      show Steps _ _ _ (T132.setTop (mkF m 57 #[iv q1, rv b76, .unset, .unset, .unset, .unset, .unset] [(.int q1)])) _
      refine XS.bipush X132.here hx rfl (hb hby at_57) ?_
      show Steps _ _ _ (T132.setTop (mkF m 59 #[iv q1, rv b76, .unset, .unset, .unset, .unset, .unset] [(.int 7), (.int q1)])) _
      refine XS.iand X132.here hx rfl (hb hby at_59) rfl ?_
      show Steps _ _ _ (T132.setTop (mkF m 60 #[iv q1, rv b76, .unset, .unset, .unset, .unset, .unset] [(.int (q1 &&& (7 : Int32)))])) _
      rw [hi]
      show Steps _ _ _ (T132.setTop (mkF m 60 #[iv q1, rv b76, .unset, .unset, .unset, .unset, .unset] [(.int 1)])) _
      refine XS.istoreN X132.here hx rfl (hb hby at_60) rfl (l' := #[iv q1, rv b76, iv 1, .unset, .unset, .unset, .unset]) rfl ?_
      show Steps _ _ _ (T132.setTop (mkF m 61 #[iv q1, rv b76, iv 1, .unset, .unset, .unset, .unset] [])) _
      refine XS.aloadN X132.here hx rfl (hb hby at_61) rfl rfl ?_
      show Steps _ _ _ (T132.setTop (mkF m 62 #[iv q1, rv b76, iv 1, .unset, .unset, .unset, .unset] [(.ref b76)])) _
      refine XS.iloadN X132.here hx rfl (hb hby at_62) rfl ?_
      show Steps _ _ _ (T132.setTop (mkF m 63 #[iv q1, rv b76, iv 1, .unset, .unset, .unset, .unset] [(.int 1), (.ref b76)])) _
      exact q
    obtain ⟨cl144, Ar144, q144, S144, M144, H144, G144⟩ := B132
    have hin144 : ¬ ((1 : Int32) < 0 ∨ cl144.slots.size ≤ ((1 : Int32)).toNatClampNeg) := inb_of S144 ⟨by decide, by decide⟩
    have hat144 : cl144.slots[((1 : Int32)).toNatClampNeg]? = some (.ref a_STAIRS) := Has.at H144 hin144 rfl
    have k_145 : Go p.tables e below (s₁.setTop (entryFrame m #[(.int q1)] maxLocals)) (T132.setTop (mkF m 66 #[iv q1, rv b76, iv 1, rv a_STAIRS, .unset, .unset, .unset] [(.ref a_STAIRS)])) := fun t q => by
      refine k_143 t ?_
      refine X132.aaload hx (j := (1 : Int32)) (v := (.ref a_STAIRS)) (by rw [e132]; exact Ar144.1) (State.isArrayOf_alike hZ.alike Ar144.2.1) rfl Ar144.2.2 hin144 hat144 (g := (mkF m 63 #[iv q1, rv b76, iv 1, .unset, .unset, .unset, .unset] [(.int 1), (.ref b76)])) rfl rfl (hb hby at_63) _ ?_
      show Steps _ _ _ (T132.setTop (mkF m 64 #[iv q1, rv b76, iv 1, .unset, .unset, .unset, .unset] [(.ref a_STAIRS)])) _
      refine XS.astoreN X132.here hx rfl (hb hby at_64) rfl rfl (l' := #[iv q1, rv b76, iv 1, rv a_STAIRS, .unset, .unset, .unset]) rfl ?_
      show Steps _ _ _ (T132.setTop (mkF m 65 #[iv q1, rv b76, iv 1, rv a_STAIRS, .unset, .unset, .unset] [])) _
      refine XS.aloadN X132.here hx rfl (hb hby at_65) rfl rfl ?_
      show Steps _ _ _ (T132.setTop (mkF m 66 #[iv q1, rv b76, iv 1, rv a_STAIRS, .unset, .unset, .unset] [(.ref a_STAIRS)])) _
      exact q
    obtain ⟨cq146, kq146, q146a, q146b, q146c⟩ := isOf hZ e132 (Exa.ext O_133.2 E_STAIRS)
    obtain ⟨_, _, ⟨T146, L146, k146, n146⟩, -, X146, ⟨Lc146, hQ146, l146, y146, z146⟩, st146⟩ := X132.virtualBack hx (y := y_0) (z := y_0) hown (mvT hZ (hw _ (wd 20 rfl))) (mvT hZ (hw _ (wd 21 rfl))) (notFace_of_selects (args := #[]) (mvT hZ (hw _ (wd 23 rfl)))) (mvT hZ (hw _ (wd 23 rfl))) (mvT hZ (hw _ (wd 22 rfl))) (by decide) (backOf (W := 0) (cd_1 l Z a0 hw [] a_WALKWAY a_STAIRS a_TRAVELATOR a_ESCALATOR a_ELEVATOR a_FARE_GATE a_EXIT_GATE a_CONTROL G  h132 n0 O_133 ) hZ (hw _ (wd 24 rfl)) (hw _ (wd 3 rfl)) (by decide) (by decide)) q146a q146c (g := (mkF m 66 #[iv q1, rv b76, iv 1, rv a_STAIRS, .unset, .unset, .unset] [(.ref a_STAIRS)])) rfl (by rw [hml]; rfl) (Steps.refl _) (argsL := []) (rest := []) (lenOf pd_0 rfl) rfl (by show 2 * 0 + _ ≤ _; exact Nat.le_of_eq rfl) (hb hby at_66) (fun _ _ => ⟨rfl, e132, (by decide : 1 + 0 ≤ _), (by decide : 8 + 0 ≤ _)⟩)
    dsimp only [Pt.U, Pt.locs, Pt.cells, Pt.slots] at X146 l146 y146 z146 st146 hQ146
    subst l146 y146 z146
    obtain ⟨rfl, N146q, e146⟩ := hQ146
    have N146 := Fr.app N132 N146q
    have k_147 : Go p.tables e below (s₁.setTop (entryFrame m #[(.int q1)] maxLocals)) (T146.setTop (mkF m 113 #[iv q1, rv b76, iv 1, rv a_STAIRS, iv 2, iv 0, iv 0] [(.ref a_STAIRS)])) := fun t q => by
      refine k_145 t ?_
      refine st146.trans ?_
      show Steps _ _ _ (T146.setTop (mkF m 69 #[iv q1, rv b76, iv 1, rv a_STAIRS, .unset, .unset, .unset] [(.int 2)])) _
      refine XS.istore X146.here hx rfl (hb hby at_69) rfl (l' := #[iv q1, rv b76, iv 1, rv a_STAIRS, iv 2, .unset, .unset]) rfl ?_
      show Steps _ _ _ (T146.setTop (mkF m 71 #[iv q1, rv b76, iv 1, rv a_STAIRS, iv 2, .unset, .unset] [])) _
      refine XS.iload X146.here hx rfl (hb hby at_71) rfl ?_
      show Steps _ _ _ (T146.setTop (mkF m 73 #[iv q1, rv b76, iv 1, rv a_STAIRS, iv 2, .unset, .unset] [(.int 2)])) _
      refine XS.iconst X146.here hx rfl (hb hby at_73) ?_
      show Steps _ _ _ (T146.setTop (mkF m 74 #[iv q1, rv b76, iv 1, rv a_STAIRS, iv 2, .unset, .unset] [(.int 3), (.int 2)])) _
      refine XS.icmpYes X146.here hx rfl (pc0 := 74) (pc' := 87) rfl (hb hby at_74) rfl (by decide) (by decide) (by decide) ?_
      show Steps _ _ _ (T146.setTop (mkF m 87 #[iv q1, rv b76, iv 1, rv a_STAIRS, iv 2, .unset, .unset] [])) _
      refine XS.iconst X146.here hx rfl (hb hby at_87) ?_
      show Steps _ _ _ (T146.setTop (mkF m 88 #[iv q1, rv b76, iv 1, rv a_STAIRS, iv 2, .unset, .unset] [(.int 0)])) _
      refine XS.istore X146.here hx rfl (hb hby at_88) rfl (l' := #[iv q1, rv b76, iv 1, rv a_STAIRS, iv 2, iv 0, .unset]) rfl ?_
      show Steps _ _ _ (T146.setTop (mkF m 90 #[iv q1, rv b76, iv 1, rv a_STAIRS, iv 2, iv 0, .unset] [])) _
      refine XS.iloadN X146.here hx rfl (hb hby at_90) rfl ?_
      show Steps _ _ _ (T146.setTop (mkF m 91 #[iv q1, rv b76, iv 1, rv a_STAIRS, iv 2, iv 0, .unset] [(.int 1)])) _
      refine XS.iconst X146.here hx rfl (hb hby at_91) ?_
      show Steps _ _ _ (T146.setTop (mkF m 92 #[iv q1, rv b76, iv 1, rv a_STAIRS, iv 2, iv 0, .unset] [(.int 2), (.int 1)])) _
      refine XS.icmpNo X146.here hx rfl (hb hby at_92) rfl (by decide) ?_
      show Steps _ _ _ (T146.setTop (mkF m 95 #[iv q1, rv b76, iv 1, rv a_STAIRS, iv 2, iv 0, .unset] [])) _
      refine XS.iloadN X146.here hx rfl (hb hby at_95) rfl ?_
      show Steps _ _ _ (T146.setTop (mkF m 96 #[iv q1, rv b76, iv 1, rv a_STAIRS, iv 2, iv 0, .unset] [(.int 1)])) _
      refine XS.iconst X146.here hx rfl (hb hby at_96) ?_
      show Steps _ _ _ (T146.setTop (mkF m 97 #[iv q1, rv b76, iv 1, rv a_STAIRS, iv 2, iv 0, .unset] [(.int 3), (.int 1)])) _
      refine XS.icmpNo X146.here hx rfl (hb hby at_97) rfl (by decide) ?_
      show Steps _ _ _ (T146.setTop (mkF m 100 #[iv q1, rv b76, iv 1, rv a_STAIRS, iv 2, iv 0, .unset] [])) _
      refine XS.iloadN X146.here hx rfl (hb hby at_100) rfl ?_
      show Steps _ _ _ (T146.setTop (mkF m 101 #[iv q1, rv b76, iv 1, rv a_STAIRS, iv 2, iv 0, .unset] [(.int 1)])) _
      refine XS.iconst X146.here hx rfl (hb hby at_101) ?_
      show Steps _ _ _ (T146.setTop (mkF m 102 #[iv q1, rv b76, iv 1, rv a_STAIRS, iv 2, iv 0, .unset] [(.int 4), (.int 1)])) _
      refine XS.icmpYes X146.here hx rfl (pc0 := 102) (pc' := 109) rfl (hb hby at_102) rfl (by decide) (by decide) (by decide) ?_
      show Steps _ _ _ (T146.setTop (mkF m 109 #[iv q1, rv b76, iv 1, rv a_STAIRS, iv 2, iv 0, .unset] [])) _
      refine XS.iconst X146.here hx rfl (hb hby at_109) ?_
      show Steps _ _ _ (T146.setTop (mkF m 110 #[iv q1, rv b76, iv 1, rv a_STAIRS, iv 2, iv 0, .unset] [(.int 0)])) _
      refine XS.istore X146.here hx rfl (hb hby at_110) rfl (l' := #[iv q1, rv b76, iv 1, rv a_STAIRS, iv 2, iv 0, iv 0]) rfl ?_
      show Steps _ _ _ (T146.setTop (mkF m 112 #[iv q1, rv b76, iv 1, rv a_STAIRS, iv 2, iv 0, iv 0] [])) _
      refine XS.aloadN X146.here hx rfl (hb hby at_112) rfl rfl ?_
      show Steps _ _ _ (T146.setTop (mkF m 113 #[iv q1, rv b76, iv 1, rv a_STAIRS, iv 2, iv 0, iv 0] [(.ref a_STAIRS)])) _
      exact q
    obtain ⟨cq148, kq148, q148a, q148b, q148c⟩ := isOf hZ e146 (Exa.ext O_133.2 E_STAIRS)
    obtain ⟨_, _, ⟨T148, L148, k148, n148⟩, -, X148, ⟨Lc148, hQ148, l148, y148, z148⟩, st148⟩ := X146.virtualBack hx (y := y_1) (z := y_1) hown (mvT hZ (hw _ (wd 27 rfl))) (mvT hZ (hw _ (wd 28 rfl))) (notFace_of_selects (args := #[]) (mvT hZ (hw _ (wd 30 rfl)))) (mvT hZ (hw _ (wd 30 rfl))) (mvT hZ (hw _ (wd 29 rfl))) (by decide) (backOf (W := 0) (me_1 l Z a0 hw [] a_WALKWAY a_STAIRS a_TRAVELATOR a_ESCALATOR a_ELEVATOR a_FARE_GATE a_EXIT_GATE a_CONTROL G  h132 n0 O_133 ) hZ (hw _ (wd 31 rfl)) (hw _ (wd 3 rfl)) (by decide) (by decide)) q148a q148c (g := (mkF m 113 #[iv q1, rv b76, iv 1, rv a_STAIRS, iv 2, iv 0, iv 0] [(.ref a_STAIRS)])) rfl (by rw [hml]; rfl) (Steps.refl _) (argsL := []) (rest := []) (lenOf pd_1 rfl) rfl (by show 2 * 0 + _ ≤ _; exact Nat.le_of_eq rfl) (hb hby at_113) (fun _ _ => ⟨rfl, e146, (by decide : 1 + 0 ≤ _), (by decide : 8 + 0 ≤ _)⟩)
    dsimp only [Pt.U, Pt.locs, Pt.cells, Pt.slots] at X148 l148 y148 z148 st148 hQ148
    subst l148 y148 z148
    obtain ⟨rfl, N148q, e148⟩ := hQ148
    have N148 := Fr.app N146 N148q
    have k_149 : Go p.tables e below (s₁.setTop (entryFrame m #[(.int q1)] maxLocals)) (T148.setTop (mkF m 133 #[iv q1, rv b76, iv 1, rv a_STAIRS, iv 2, iv 0, iv 0] [(.int 1)])) := fun t q => by
      refine k_147 t ?_
      refine st148.trans ?_
      show Steps _ _ _ (T148.setTop (mkF m 116 #[iv q1, rv b76, iv 1, rv a_STAIRS, iv 2, iv 0, iv 0] [(.int 0)])) _
      refine XS.iload X148.here hx rfl (hb hby at_116) rfl ?_
      show Steps _ _ _ (T148.setTop (mkF m 118 #[iv q1, rv b76, iv 1, rv a_STAIRS, iv 2, iv 0, iv 0] [(.int 0), (.int 0)])) _
      refine XS.icmpNo X148.here hx rfl (hb hby at_118) rfl (by decide) ?_
      show Steps _ _ _ (T148.setTop (mkF m 121 #[iv q1, rv b76, iv 1, rv a_STAIRS, iv 2, iv 0, iv 0] [])) _
      refine XS.iload X148.here hx rfl (hb hby at_121) rfl ?_
      show Steps _ _ _ (T148.setTop (mkF m 123 #[iv q1, rv b76, iv 1, rv a_STAIRS, iv 2, iv 0, iv 0] [(.int 0)])) _
      refine XS.iload X148.here hx rfl (hb hby at_123) rfl ?_
      show Steps _ _ _ (T148.setTop (mkF m 125 #[iv q1, rv b76, iv 1, rv a_STAIRS, iv 2, iv 0, iv 0] [(.int 0), (.int 0)])) _
      refine XS.icmpNo X148.here hx rfl (hb hby at_125) rfl (by decide) ?_
      show Steps _ _ _ (T148.setTop (mkF m 128 #[iv q1, rv b76, iv 1, rv a_STAIRS, iv 2, iv 0, iv 0] [])) _
      refine XS.iconst X148.here hx rfl (hb hby at_128) ?_
      show Steps _ _ _ (T148.setTop (mkF m 129 #[iv q1, rv b76, iv 1, rv a_STAIRS, iv 2, iv 0, iv 0] [(.int 1)])) _
      refine XS.goto X148.here hx rfl (pc0 := 129) (pc' := 133) rfl (hb hby at_129) (by decide) (by decide) ?_
      show Steps _ _ _ (T148.setTop (mkF m 133 #[iv q1, rv b76, iv 1, rv a_STAIRS, iv 2, iv 0, iv 0] [(.int 1)])) _
      exact q
    obtain ⟨fs, hr, hrun, hended, hW, hsame⟩ := X148.leave (v := some (.int 1)) (fun h => by rw [Bd.returns] at h; cases h)
    refine ⟨_, _, k_149 _ ?_, hrun, hended, _, _, rfl, ?_, ⟨_, rfl⟩, hW, hsame.mono (by decide) (by decide)⟩
    · exact retN X148 hx (t := .boolean) Bd.returns (by simp) (hb hby at_133) hr
    · show Q0 n0 _ T148.heap _
      rw [e148]
      exact ⟨rfl, N148⟩
  · skip
    have k_150 : Go p.tables e below (s₁.setTop (entryFrame m #[(.int q1)] maxLocals)) (T132.setTop (mkF m 63 #[iv q1, rv b76, iv 2, .unset, .unset, .unset, .unset] [(.int 2), (.ref b76)])) := fun t q => by
      refine k_135 t ?_
      refine XS.astoreN X132.here hx rfl (hb hby at_55) rfl rfl (l' := #[iv q1, rv b76, .unset, .unset, .unset, .unset, .unset]) rfl ?_
      show Steps _ _ _ (T132.setTop (mkF m 56 #[iv q1, rv b76, .unset, .unset, .unset, .unset, .unset] [])) _
      refine XS.iloadN X132.here hx rfl (hb hby at_56) rfl ?_
      show Steps _ _ _ (T132.setTop (mkF m 57 #[iv q1, rv b76, .unset, .unset, .unset, .unset, .unset] [(.int q1)])) _
      refine XS.bipush X132.here hx rfl (hb hby at_57) ?_
      show Steps _ _ _ (T132.setTop (mkF m 59 #[iv q1, rv b76, .unset, .unset, .unset, .unset, .unset] [(.int 7), (.int q1)])) _
      refine XS.iand X132.here hx rfl (hb hby at_59) rfl ?_
      show Steps _ _ _ (T132.setTop (mkF m 60 #[iv q1, rv b76, .unset, .unset, .unset, .unset, .unset] [(.int (q1 &&& (7 : Int32)))])) _
      rw [hi]
      show Steps _ _ _ (T132.setTop (mkF m 60 #[iv q1, rv b76, .unset, .unset, .unset, .unset, .unset] [(.int 2)])) _
      refine XS.istoreN X132.here hx rfl (hb hby at_60) rfl (l' := #[iv q1, rv b76, iv 2, .unset, .unset, .unset, .unset]) rfl ?_
      show Steps _ _ _ (T132.setTop (mkF m 61 #[iv q1, rv b76, iv 2, .unset, .unset, .unset, .unset] [])) _
      refine XS.aloadN X132.here hx rfl (hb hby at_61) rfl rfl ?_
      show Steps _ _ _ (T132.setTop (mkF m 62 #[iv q1, rv b76, iv 2, .unset, .unset, .unset, .unset] [(.ref b76)])) _
      refine XS.iloadN X132.here hx rfl (hb hby at_62) rfl ?_
      show Steps _ _ _ (T132.setTop (mkF m 63 #[iv q1, rv b76, iv 2, .unset, .unset, .unset, .unset] [(.int 2), (.ref b76)])) _
      exact q
    obtain ⟨cl151, Ar151, q151, S151, M151, H151, G151⟩ := B132
    have hin151 : ¬ ((2 : Int32) < 0 ∨ cl151.slots.size ≤ ((2 : Int32)).toNatClampNeg) := inb_of S151 ⟨by decide, by decide⟩
    have hat151 : cl151.slots[((2 : Int32)).toNatClampNeg]? = some (.ref a_TRAVELATOR) := Has.at H151 hin151 rfl
    have k_152 : Go p.tables e below (s₁.setTop (entryFrame m #[(.int q1)] maxLocals)) (T132.setTop (mkF m 66 #[iv q1, rv b76, iv 2, rv a_TRAVELATOR, .unset, .unset, .unset] [(.ref a_TRAVELATOR)])) := fun t q => by
      refine k_150 t ?_
      refine X132.aaload hx (j := (2 : Int32)) (v := (.ref a_TRAVELATOR)) (by rw [e132]; exact Ar151.1) (State.isArrayOf_alike hZ.alike Ar151.2.1) rfl Ar151.2.2 hin151 hat151 (g := (mkF m 63 #[iv q1, rv b76, iv 2, .unset, .unset, .unset, .unset] [(.int 2), (.ref b76)])) rfl rfl (hb hby at_63) _ ?_
      show Steps _ _ _ (T132.setTop (mkF m 64 #[iv q1, rv b76, iv 2, .unset, .unset, .unset, .unset] [(.ref a_TRAVELATOR)])) _
      refine XS.astoreN X132.here hx rfl (hb hby at_64) rfl rfl (l' := #[iv q1, rv b76, iv 2, rv a_TRAVELATOR, .unset, .unset, .unset]) rfl ?_
      show Steps _ _ _ (T132.setTop (mkF m 65 #[iv q1, rv b76, iv 2, rv a_TRAVELATOR, .unset, .unset, .unset] [])) _
      refine XS.aloadN X132.here hx rfl (hb hby at_65) rfl rfl ?_
      show Steps _ _ _ (T132.setTop (mkF m 66 #[iv q1, rv b76, iv 2, rv a_TRAVELATOR, .unset, .unset, .unset] [(.ref a_TRAVELATOR)])) _
      exact q
    obtain ⟨cq153, kq153, q153a, q153b, q153c⟩ := isOf hZ e132 (Exa.ext O_133.2 E_TRAVELATOR)
    obtain ⟨_, _, ⟨T153, L153, k153, n153⟩, -, X153, ⟨Lc153, hQ153, l153, y153, z153⟩, st153⟩ := X132.virtualBack hx (y := y_0) (z := y_0) hown (mvT hZ (hw _ (wd 20 rfl))) (mvT hZ (hw _ (wd 21 rfl))) (notFace_of_selects (args := #[]) (mvT hZ (hw _ (wd 23 rfl)))) (mvT hZ (hw _ (wd 23 rfl))) (mvT hZ (hw _ (wd 22 rfl))) (by decide) (backOf (W := 0) (cd_2 l Z a0 hw [] a_WALKWAY a_STAIRS a_TRAVELATOR a_ESCALATOR a_ELEVATOR a_FARE_GATE a_EXIT_GATE a_CONTROL G  h132 n0 O_133 ) hZ (hw _ (wd 24 rfl)) (hw _ (wd 3 rfl)) (by decide) (by decide)) q153a q153c (g := (mkF m 66 #[iv q1, rv b76, iv 2, rv a_TRAVELATOR, .unset, .unset, .unset] [(.ref a_TRAVELATOR)])) rfl (by rw [hml]; rfl) (Steps.refl _) (argsL := []) (rest := []) (lenOf pd_0 rfl) rfl (by show 2 * 0 + _ ≤ _; exact Nat.le_of_eq rfl) (hb hby at_66) (fun _ _ => ⟨rfl, e132, (by decide : 1 + 0 ≤ _), (by decide : 8 + 0 ≤ _)⟩)
    dsimp only [Pt.U, Pt.locs, Pt.cells, Pt.slots] at X153 l153 y153 z153 st153 hQ153
    subst l153 y153 z153
    obtain ⟨rfl, N153q, e153⟩ := hQ153
    have N153 := Fr.app N132 N153q
    have k_154 : Go p.tables e below (s₁.setTop (entryFrame m #[(.int q1)] maxLocals)) (T153.setTop (mkF m 113 #[iv q1, rv b76, iv 2, rv a_TRAVELATOR, iv 3, iv 1, iv 1] [(.ref a_TRAVELATOR)])) := fun t q => by
      refine k_152 t ?_
      refine st153.trans ?_
      show Steps _ _ _ (T153.setTop (mkF m 69 #[iv q1, rv b76, iv 2, rv a_TRAVELATOR, .unset, .unset, .unset] [(.int 3)])) _
      refine XS.istore X153.here hx rfl (hb hby at_69) rfl (l' := #[iv q1, rv b76, iv 2, rv a_TRAVELATOR, iv 3, .unset, .unset]) rfl ?_
      show Steps _ _ _ (T153.setTop (mkF m 71 #[iv q1, rv b76, iv 2, rv a_TRAVELATOR, iv 3, .unset, .unset] [])) _
      refine XS.iload X153.here hx rfl (hb hby at_71) rfl ?_
      show Steps _ _ _ (T153.setTop (mkF m 73 #[iv q1, rv b76, iv 2, rv a_TRAVELATOR, iv 3, .unset, .unset] [(.int 3)])) _
      refine XS.iconst X153.here hx rfl (hb hby at_73) ?_
      show Steps _ _ _ (T153.setTop (mkF m 74 #[iv q1, rv b76, iv 2, rv a_TRAVELATOR, iv 3, .unset, .unset] [(.int 3), (.int 3)])) _
      refine XS.icmpNo X153.here hx rfl (hb hby at_74) rfl (by decide) ?_
      show Steps _ _ _ (T153.setTop (mkF m 77 #[iv q1, rv b76, iv 2, rv a_TRAVELATOR, iv 3, .unset, .unset] [])) _
      refine XS.iload X153.here hx rfl (hb hby at_77) rfl ?_
      show Steps _ _ _ (T153.setTop (mkF m 79 #[iv q1, rv b76, iv 2, rv a_TRAVELATOR, iv 3, .unset, .unset] [(.int 3)])) _
      refine XS.iconst X153.here hx rfl (hb hby at_79) ?_
      show Steps _ _ _ (T153.setTop (mkF m 80 #[iv q1, rv b76, iv 2, rv a_TRAVELATOR, iv 3, .unset, .unset] [(.int 5), (.int 3)])) _
      refine XS.icmpNo X153.here hx rfl (hb hby at_80) rfl (by decide) ?_
      show Steps _ _ _ (T153.setTop (mkF m 83 #[iv q1, rv b76, iv 2, rv a_TRAVELATOR, iv 3, .unset, .unset] [])) _
      refine XS.iconst X153.here hx rfl (hb hby at_83) ?_
      show Steps _ _ _ (T153.setTop (mkF m 84 #[iv q1, rv b76, iv 2, rv a_TRAVELATOR, iv 3, .unset, .unset] [(.int 1)])) _
      refine XS.goto X153.here hx rfl (pc0 := 84) (pc' := 88) rfl (hb hby at_84) (by decide) (by decide) ?_
      show Steps _ _ _ (T153.setTop (mkF m 88 #[iv q1, rv b76, iv 2, rv a_TRAVELATOR, iv 3, .unset, .unset] [(.int 1)])) _
      refine XS.istore X153.here hx rfl (hb hby at_88) rfl (l' := #[iv q1, rv b76, iv 2, rv a_TRAVELATOR, iv 3, iv 1, .unset]) rfl ?_
      show Steps _ _ _ (T153.setTop (mkF m 90 #[iv q1, rv b76, iv 2, rv a_TRAVELATOR, iv 3, iv 1, .unset] [])) _
      refine XS.iloadN X153.here hx rfl (hb hby at_90) rfl ?_
      show Steps _ _ _ (T153.setTop (mkF m 91 #[iv q1, rv b76, iv 2, rv a_TRAVELATOR, iv 3, iv 1, .unset] [(.int 2)])) _
      refine XS.iconst X153.here hx rfl (hb hby at_91) ?_
      show Steps _ _ _ (T153.setTop (mkF m 92 #[iv q1, rv b76, iv 2, rv a_TRAVELATOR, iv 3, iv 1, .unset] [(.int 2), (.int 2)])) _
      refine XS.icmpYes X153.here hx rfl (pc0 := 92) (pc' := 105) rfl (hb hby at_92) rfl (by decide) (by decide) (by decide) ?_
      show Steps _ _ _ (T153.setTop (mkF m 105 #[iv q1, rv b76, iv 2, rv a_TRAVELATOR, iv 3, iv 1, .unset] [])) _
      refine XS.iconst X153.here hx rfl (hb hby at_105) ?_
      show Steps _ _ _ (T153.setTop (mkF m 106 #[iv q1, rv b76, iv 2, rv a_TRAVELATOR, iv 3, iv 1, .unset] [(.int 1)])) _
      refine XS.goto X153.here hx rfl (pc0 := 106) (pc' := 110) rfl (hb hby at_106) (by decide) (by decide) ?_
      show Steps _ _ _ (T153.setTop (mkF m 110 #[iv q1, rv b76, iv 2, rv a_TRAVELATOR, iv 3, iv 1, .unset] [(.int 1)])) _
      refine XS.istore X153.here hx rfl (hb hby at_110) rfl (l' := #[iv q1, rv b76, iv 2, rv a_TRAVELATOR, iv 3, iv 1, iv 1]) rfl ?_
      show Steps _ _ _ (T153.setTop (mkF m 112 #[iv q1, rv b76, iv 2, rv a_TRAVELATOR, iv 3, iv 1, iv 1] [])) _
      refine XS.aloadN X153.here hx rfl (hb hby at_112) rfl rfl ?_
      show Steps _ _ _ (T153.setTop (mkF m 113 #[iv q1, rv b76, iv 2, rv a_TRAVELATOR, iv 3, iv 1, iv 1] [(.ref a_TRAVELATOR)])) _
      exact q
    obtain ⟨cq155, kq155, q155a, q155b, q155c⟩ := isOf hZ e153 (Exa.ext O_133.2 E_TRAVELATOR)
    obtain ⟨_, _, ⟨T155, L155, k155, n155⟩, -, X155, ⟨Lc155, hQ155, l155, y155, z155⟩, st155⟩ := X153.virtualBack hx (y := y_1) (z := y_1) hown (mvT hZ (hw _ (wd 27 rfl))) (mvT hZ (hw _ (wd 28 rfl))) (notFace_of_selects (args := #[]) (mvT hZ (hw _ (wd 30 rfl)))) (mvT hZ (hw _ (wd 30 rfl))) (mvT hZ (hw _ (wd 29 rfl))) (by decide) (backOf (W := 0) (me_2 l Z a0 hw [] a_WALKWAY a_STAIRS a_TRAVELATOR a_ESCALATOR a_ELEVATOR a_FARE_GATE a_EXIT_GATE a_CONTROL G  h132 n0 O_133 ) hZ (hw _ (wd 31 rfl)) (hw _ (wd 3 rfl)) (by decide) (by decide)) q155a q155c (g := (mkF m 113 #[iv q1, rv b76, iv 2, rv a_TRAVELATOR, iv 3, iv 1, iv 1] [(.ref a_TRAVELATOR)])) rfl (by rw [hml]; rfl) (Steps.refl _) (argsL := []) (rest := []) (lenOf pd_1 rfl) rfl (by show 2 * 0 + _ ≤ _; exact Nat.le_of_eq rfl) (hb hby at_113) (fun _ _ => ⟨rfl, e153, (by decide : 1 + 0 ≤ _), (by decide : 8 + 0 ≤ _)⟩)
    dsimp only [Pt.U, Pt.locs, Pt.cells, Pt.slots] at X155 l155 y155 z155 st155 hQ155
    subst l155 y155 z155
    obtain ⟨rfl, N155q, e155⟩ := hQ155
    have N155 := Fr.app N153 N155q
    have k_156 : Go p.tables e below (s₁.setTop (entryFrame m #[(.int q1)] maxLocals)) (T155.setTop (mkF m 133 #[iv q1, rv b76, iv 2, rv a_TRAVELATOR, iv 3, iv 1, iv 1] [(.int 1)])) := fun t q => by
      refine k_154 t ?_
      refine st155.trans ?_
      show Steps _ _ _ (T155.setTop (mkF m 116 #[iv q1, rv b76, iv 2, rv a_TRAVELATOR, iv 3, iv 1, iv 1] [(.int 1)])) _
      refine XS.iload X155.here hx rfl (hb hby at_116) rfl ?_
      show Steps _ _ _ (T155.setTop (mkF m 118 #[iv q1, rv b76, iv 2, rv a_TRAVELATOR, iv 3, iv 1, iv 1] [(.int 1), (.int 1)])) _
      refine XS.icmpNo X155.here hx rfl (hb hby at_118) rfl (by decide) ?_
      show Steps _ _ _ (T155.setTop (mkF m 121 #[iv q1, rv b76, iv 2, rv a_TRAVELATOR, iv 3, iv 1, iv 1] [])) _
      refine XS.iload X155.here hx rfl (hb hby at_121) rfl ?_
      show Steps _ _ _ (T155.setTop (mkF m 123 #[iv q1, rv b76, iv 2, rv a_TRAVELATOR, iv 3, iv 1, iv 1] [(.int 1)])) _
      refine XS.iload X155.here hx rfl (hb hby at_123) rfl ?_
      show Steps _ _ _ (T155.setTop (mkF m 125 #[iv q1, rv b76, iv 2, rv a_TRAVELATOR, iv 3, iv 1, iv 1] [(.int 1), (.int 1)])) _
      refine XS.icmpNo X155.here hx rfl (hb hby at_125) rfl (by decide) ?_
      show Steps _ _ _ (T155.setTop (mkF m 128 #[iv q1, rv b76, iv 2, rv a_TRAVELATOR, iv 3, iv 1, iv 1] [])) _
      refine XS.iconst X155.here hx rfl (hb hby at_128) ?_
      show Steps _ _ _ (T155.setTop (mkF m 129 #[iv q1, rv b76, iv 2, rv a_TRAVELATOR, iv 3, iv 1, iv 1] [(.int 1)])) _
      refine XS.goto X155.here hx rfl (pc0 := 129) (pc' := 133) rfl (hb hby at_129) (by decide) (by decide) ?_
      show Steps _ _ _ (T155.setTop (mkF m 133 #[iv q1, rv b76, iv 2, rv a_TRAVELATOR, iv 3, iv 1, iv 1] [(.int 1)])) _
      exact q
    obtain ⟨fs, hr, hrun, hended, hW, hsame⟩ := X155.leave (v := some (.int 1)) (fun h => by rw [Bd.returns] at h; cases h)
    refine ⟨_, _, k_156 _ ?_, hrun, hended, _, _, rfl, ?_, ⟨_, rfl⟩, hW, hsame.mono (by decide) (by decide)⟩
    · exact retN X155 hx (t := .boolean) Bd.returns (by simp) (hb hby at_133) hr
    · show Q0 n0 _ T155.heap _
      rw [e155]
      exact ⟨rfl, N155⟩
  · skip
    have k_157 : Go p.tables e below (s₁.setTop (entryFrame m #[(.int q1)] maxLocals)) (T132.setTop (mkF m 63 #[iv q1, rv b76, iv 3, .unset, .unset, .unset, .unset] [(.int 3), (.ref b76)])) := fun t q => by
      refine k_135 t ?_
      refine XS.astoreN X132.here hx rfl (hb hby at_55) rfl rfl (l' := #[iv q1, rv b76, .unset, .unset, .unset, .unset, .unset]) rfl ?_
      show Steps _ _ _ (T132.setTop (mkF m 56 #[iv q1, rv b76, .unset, .unset, .unset, .unset, .unset] [])) _
      refine XS.iloadN X132.here hx rfl (hb hby at_56) rfl ?_
      show Steps _ _ _ (T132.setTop (mkF m 57 #[iv q1, rv b76, .unset, .unset, .unset, .unset, .unset] [(.int q1)])) _
      refine XS.bipush X132.here hx rfl (hb hby at_57) ?_
      show Steps _ _ _ (T132.setTop (mkF m 59 #[iv q1, rv b76, .unset, .unset, .unset, .unset, .unset] [(.int 7), (.int q1)])) _
      refine XS.iand X132.here hx rfl (hb hby at_59) rfl ?_
      show Steps _ _ _ (T132.setTop (mkF m 60 #[iv q1, rv b76, .unset, .unset, .unset, .unset, .unset] [(.int (q1 &&& (7 : Int32)))])) _
      rw [hi]
      show Steps _ _ _ (T132.setTop (mkF m 60 #[iv q1, rv b76, .unset, .unset, .unset, .unset, .unset] [(.int 3)])) _
      refine XS.istoreN X132.here hx rfl (hb hby at_60) rfl (l' := #[iv q1, rv b76, iv 3, .unset, .unset, .unset, .unset]) rfl ?_
      show Steps _ _ _ (T132.setTop (mkF m 61 #[iv q1, rv b76, iv 3, .unset, .unset, .unset, .unset] [])) _
      refine XS.aloadN X132.here hx rfl (hb hby at_61) rfl rfl ?_
      show Steps _ _ _ (T132.setTop (mkF m 62 #[iv q1, rv b76, iv 3, .unset, .unset, .unset, .unset] [(.ref b76)])) _
      refine XS.iloadN X132.here hx rfl (hb hby at_62) rfl ?_
      show Steps _ _ _ (T132.setTop (mkF m 63 #[iv q1, rv b76, iv 3, .unset, .unset, .unset, .unset] [(.int 3), (.ref b76)])) _
      exact q
    obtain ⟨cl158, Ar158, q158, S158, M158, H158, G158⟩ := B132
    have hin158 : ¬ ((3 : Int32) < 0 ∨ cl158.slots.size ≤ ((3 : Int32)).toNatClampNeg) := inb_of S158 ⟨by decide, by decide⟩
    have hat158 : cl158.slots[((3 : Int32)).toNatClampNeg]? = some (.ref a_ESCALATOR) := Has.at H158 hin158 rfl
    have k_159 : Go p.tables e below (s₁.setTop (entryFrame m #[(.int q1)] maxLocals)) (T132.setTop (mkF m 66 #[iv q1, rv b76, iv 3, rv a_ESCALATOR, .unset, .unset, .unset] [(.ref a_ESCALATOR)])) := fun t q => by
      refine k_157 t ?_
      refine X132.aaload hx (j := (3 : Int32)) (v := (.ref a_ESCALATOR)) (by rw [e132]; exact Ar158.1) (State.isArrayOf_alike hZ.alike Ar158.2.1) rfl Ar158.2.2 hin158 hat158 (g := (mkF m 63 #[iv q1, rv b76, iv 3, .unset, .unset, .unset, .unset] [(.int 3), (.ref b76)])) rfl rfl (hb hby at_63) _ ?_
      show Steps _ _ _ (T132.setTop (mkF m 64 #[iv q1, rv b76, iv 3, .unset, .unset, .unset, .unset] [(.ref a_ESCALATOR)])) _
      refine XS.astoreN X132.here hx rfl (hb hby at_64) rfl rfl (l' := #[iv q1, rv b76, iv 3, rv a_ESCALATOR, .unset, .unset, .unset]) rfl ?_
      show Steps _ _ _ (T132.setTop (mkF m 65 #[iv q1, rv b76, iv 3, rv a_ESCALATOR, .unset, .unset, .unset] [])) _
      refine XS.aloadN X132.here hx rfl (hb hby at_65) rfl rfl ?_
      show Steps _ _ _ (T132.setTop (mkF m 66 #[iv q1, rv b76, iv 3, rv a_ESCALATOR, .unset, .unset, .unset] [(.ref a_ESCALATOR)])) _
      exact q
    obtain ⟨cq160, kq160, q160a, q160b, q160c⟩ := isOf hZ e132 (Exa.ext O_133.2 E_ESCALATOR)
    obtain ⟨_, _, ⟨T160, L160, k160, n160⟩, -, X160, ⟨Lc160, hQ160, l160, y160, z160⟩, st160⟩ := X132.virtualBack hx (y := y_0) (z := y_0) hown (mvT hZ (hw _ (wd 20 rfl))) (mvT hZ (hw _ (wd 21 rfl))) (notFace_of_selects (args := #[]) (mvT hZ (hw _ (wd 23 rfl)))) (mvT hZ (hw _ (wd 23 rfl))) (mvT hZ (hw _ (wd 22 rfl))) (by decide) (backOf (W := 0) (cd_3 l Z a0 hw [] a_WALKWAY a_STAIRS a_TRAVELATOR a_ESCALATOR a_ELEVATOR a_FARE_GATE a_EXIT_GATE a_CONTROL G  h132 n0 O_133 ) hZ (hw _ (wd 24 rfl)) (hw _ (wd 3 rfl)) (by decide) (by decide)) q160a q160c (g := (mkF m 66 #[iv q1, rv b76, iv 3, rv a_ESCALATOR, .unset, .unset, .unset] [(.ref a_ESCALATOR)])) rfl (by rw [hml]; rfl) (Steps.refl _) (argsL := []) (rest := []) (lenOf pd_0 rfl) rfl (by show 2 * 0 + _ ≤ _; exact Nat.le_of_eq rfl) (hb hby at_66) (fun _ _ => ⟨rfl, e132, (by decide : 1 + 0 ≤ _), (by decide : 8 + 0 ≤ _)⟩)
    dsimp only [Pt.U, Pt.locs, Pt.cells, Pt.slots] at X160 l160 y160 z160 st160 hQ160
    subst l160 y160 z160
    obtain ⟨rfl, N160q, e160⟩ := hQ160
    have N160 := Fr.app N132 N160q
    have k_161 : Go p.tables e below (s₁.setTop (entryFrame m #[(.int q1)] maxLocals)) (T160.setTop (mkF m 113 #[iv q1, rv b76, iv 3, rv a_ESCALATOR, iv 4, iv 1, iv 1] [(.ref a_ESCALATOR)])) := fun t q => by
      refine k_159 t ?_
      refine st160.trans ?_
      show Steps _ _ _ (T160.setTop (mkF m 69 #[iv q1, rv b76, iv 3, rv a_ESCALATOR, .unset, .unset, .unset] [(.int 4)])) _
      refine XS.istore X160.here hx rfl (hb hby at_69) rfl (l' := #[iv q1, rv b76, iv 3, rv a_ESCALATOR, iv 4, .unset, .unset]) rfl ?_
      show Steps _ _ _ (T160.setTop (mkF m 71 #[iv q1, rv b76, iv 3, rv a_ESCALATOR, iv 4, .unset, .unset] [])) _
      refine XS.iload X160.here hx rfl (hb hby at_71) rfl ?_
      show Steps _ _ _ (T160.setTop (mkF m 73 #[iv q1, rv b76, iv 3, rv a_ESCALATOR, iv 4, .unset, .unset] [(.int 4)])) _
      refine XS.iconst X160.here hx rfl (hb hby at_73) ?_
      show Steps _ _ _ (T160.setTop (mkF m 74 #[iv q1, rv b76, iv 3, rv a_ESCALATOR, iv 4, .unset, .unset] [(.int 3), (.int 4)])) _
      refine XS.icmpNo X160.here hx rfl (hb hby at_74) rfl (by decide) ?_
      show Steps _ _ _ (T160.setTop (mkF m 77 #[iv q1, rv b76, iv 3, rv a_ESCALATOR, iv 4, .unset, .unset] [])) _
      refine XS.iload X160.here hx rfl (hb hby at_77) rfl ?_
      show Steps _ _ _ (T160.setTop (mkF m 79 #[iv q1, rv b76, iv 3, rv a_ESCALATOR, iv 4, .unset, .unset] [(.int 4)])) _
      refine XS.iconst X160.here hx rfl (hb hby at_79) ?_
      show Steps _ _ _ (T160.setTop (mkF m 80 #[iv q1, rv b76, iv 3, rv a_ESCALATOR, iv 4, .unset, .unset] [(.int 5), (.int 4)])) _
      refine XS.icmpNo X160.here hx rfl (hb hby at_80) rfl (by decide) ?_
      show Steps _ _ _ (T160.setTop (mkF m 83 #[iv q1, rv b76, iv 3, rv a_ESCALATOR, iv 4, .unset, .unset] [])) _
      refine XS.iconst X160.here hx rfl (hb hby at_83) ?_
      show Steps _ _ _ (T160.setTop (mkF m 84 #[iv q1, rv b76, iv 3, rv a_ESCALATOR, iv 4, .unset, .unset] [(.int 1)])) _
      refine XS.goto X160.here hx rfl (pc0 := 84) (pc' := 88) rfl (hb hby at_84) (by decide) (by decide) ?_
      show Steps _ _ _ (T160.setTop (mkF m 88 #[iv q1, rv b76, iv 3, rv a_ESCALATOR, iv 4, .unset, .unset] [(.int 1)])) _
      refine XS.istore X160.here hx rfl (hb hby at_88) rfl (l' := #[iv q1, rv b76, iv 3, rv a_ESCALATOR, iv 4, iv 1, .unset]) rfl ?_
      show Steps _ _ _ (T160.setTop (mkF m 90 #[iv q1, rv b76, iv 3, rv a_ESCALATOR, iv 4, iv 1, .unset] [])) _
      refine XS.iloadN X160.here hx rfl (hb hby at_90) rfl ?_
      show Steps _ _ _ (T160.setTop (mkF m 91 #[iv q1, rv b76, iv 3, rv a_ESCALATOR, iv 4, iv 1, .unset] [(.int 3)])) _
      refine XS.iconst X160.here hx rfl (hb hby at_91) ?_
      show Steps _ _ _ (T160.setTop (mkF m 92 #[iv q1, rv b76, iv 3, rv a_ESCALATOR, iv 4, iv 1, .unset] [(.int 2), (.int 3)])) _
      refine XS.icmpNo X160.here hx rfl (hb hby at_92) rfl (by decide) ?_
      show Steps _ _ _ (T160.setTop (mkF m 95 #[iv q1, rv b76, iv 3, rv a_ESCALATOR, iv 4, iv 1, .unset] [])) _
      refine XS.iloadN X160.here hx rfl (hb hby at_95) rfl ?_
      show Steps _ _ _ (T160.setTop (mkF m 96 #[iv q1, rv b76, iv 3, rv a_ESCALATOR, iv 4, iv 1, .unset] [(.int 3)])) _
      refine XS.iconst X160.here hx rfl (hb hby at_96) ?_
      show Steps _ _ _ (T160.setTop (mkF m 97 #[iv q1, rv b76, iv 3, rv a_ESCALATOR, iv 4, iv 1, .unset] [(.int 3), (.int 3)])) _
      refine XS.icmpYes X160.here hx rfl (pc0 := 97) (pc' := 105) rfl (hb hby at_97) rfl (by decide) (by decide) (by decide) ?_
      show Steps _ _ _ (T160.setTop (mkF m 105 #[iv q1, rv b76, iv 3, rv a_ESCALATOR, iv 4, iv 1, .unset] [])) _
      refine XS.iconst X160.here hx rfl (hb hby at_105) ?_
      show Steps _ _ _ (T160.setTop (mkF m 106 #[iv q1, rv b76, iv 3, rv a_ESCALATOR, iv 4, iv 1, .unset] [(.int 1)])) _
      refine XS.goto X160.here hx rfl (pc0 := 106) (pc' := 110) rfl (hb hby at_106) (by decide) (by decide) ?_
      show Steps _ _ _ (T160.setTop (mkF m 110 #[iv q1, rv b76, iv 3, rv a_ESCALATOR, iv 4, iv 1, .unset] [(.int 1)])) _
      refine XS.istore X160.here hx rfl (hb hby at_110) rfl (l' := #[iv q1, rv b76, iv 3, rv a_ESCALATOR, iv 4, iv 1, iv 1]) rfl ?_
      show Steps _ _ _ (T160.setTop (mkF m 112 #[iv q1, rv b76, iv 3, rv a_ESCALATOR, iv 4, iv 1, iv 1] [])) _
      refine XS.aloadN X160.here hx rfl (hb hby at_112) rfl rfl ?_
      show Steps _ _ _ (T160.setTop (mkF m 113 #[iv q1, rv b76, iv 3, rv a_ESCALATOR, iv 4, iv 1, iv 1] [(.ref a_ESCALATOR)])) _
      exact q
    obtain ⟨cq162, kq162, q162a, q162b, q162c⟩ := isOf hZ e160 (Exa.ext O_133.2 E_ESCALATOR)
    obtain ⟨_, _, ⟨T162, L162, k162, n162⟩, -, X162, ⟨Lc162, hQ162, l162, y162, z162⟩, st162⟩ := X160.virtualBack hx (y := y_1) (z := y_1) hown (mvT hZ (hw _ (wd 27 rfl))) (mvT hZ (hw _ (wd 28 rfl))) (notFace_of_selects (args := #[]) (mvT hZ (hw _ (wd 30 rfl)))) (mvT hZ (hw _ (wd 30 rfl))) (mvT hZ (hw _ (wd 29 rfl))) (by decide) (backOf (W := 0) (me_3 l Z a0 hw [] a_WALKWAY a_STAIRS a_TRAVELATOR a_ESCALATOR a_ELEVATOR a_FARE_GATE a_EXIT_GATE a_CONTROL G  h132 n0 O_133 ) hZ (hw _ (wd 31 rfl)) (hw _ (wd 3 rfl)) (by decide) (by decide)) q162a q162c (g := (mkF m 113 #[iv q1, rv b76, iv 3, rv a_ESCALATOR, iv 4, iv 1, iv 1] [(.ref a_ESCALATOR)])) rfl (by rw [hml]; rfl) (Steps.refl _) (argsL := []) (rest := []) (lenOf pd_1 rfl) rfl (by show 2 * 0 + _ ≤ _; exact Nat.le_of_eq rfl) (hb hby at_113) (fun _ _ => ⟨rfl, e160, (by decide : 1 + 0 ≤ _), (by decide : 8 + 0 ≤ _)⟩)
    dsimp only [Pt.U, Pt.locs, Pt.cells, Pt.slots] at X162 l162 y162 z162 st162 hQ162
    subst l162 y162 z162
    obtain ⟨rfl, N162q, e162⟩ := hQ162
    have N162 := Fr.app N160 N162q
    have k_163 : Go p.tables e below (s₁.setTop (entryFrame m #[(.int q1)] maxLocals)) (T162.setTop (mkF m 133 #[iv q1, rv b76, iv 3, rv a_ESCALATOR, iv 4, iv 1, iv 1] [(.int 1)])) := fun t q => by
      refine k_161 t ?_
      refine st162.trans ?_
      show Steps _ _ _ (T162.setTop (mkF m 116 #[iv q1, rv b76, iv 3, rv a_ESCALATOR, iv 4, iv 1, iv 1] [(.int 1)])) _
      refine XS.iload X162.here hx rfl (hb hby at_116) rfl ?_
      show Steps _ _ _ (T162.setTop (mkF m 118 #[iv q1, rv b76, iv 3, rv a_ESCALATOR, iv 4, iv 1, iv 1] [(.int 1), (.int 1)])) _
      refine XS.icmpNo X162.here hx rfl (hb hby at_118) rfl (by decide) ?_
      show Steps _ _ _ (T162.setTop (mkF m 121 #[iv q1, rv b76, iv 3, rv a_ESCALATOR, iv 4, iv 1, iv 1] [])) _
      refine XS.iload X162.here hx rfl (hb hby at_121) rfl ?_
      show Steps _ _ _ (T162.setTop (mkF m 123 #[iv q1, rv b76, iv 3, rv a_ESCALATOR, iv 4, iv 1, iv 1] [(.int 1)])) _
      refine XS.iload X162.here hx rfl (hb hby at_123) rfl ?_
      show Steps _ _ _ (T162.setTop (mkF m 125 #[iv q1, rv b76, iv 3, rv a_ESCALATOR, iv 4, iv 1, iv 1] [(.int 1), (.int 1)])) _
      refine XS.icmpNo X162.here hx rfl (hb hby at_125) rfl (by decide) ?_
      show Steps _ _ _ (T162.setTop (mkF m 128 #[iv q1, rv b76, iv 3, rv a_ESCALATOR, iv 4, iv 1, iv 1] [])) _
      refine XS.iconst X162.here hx rfl (hb hby at_128) ?_
      show Steps _ _ _ (T162.setTop (mkF m 129 #[iv q1, rv b76, iv 3, rv a_ESCALATOR, iv 4, iv 1, iv 1] [(.int 1)])) _
      refine XS.goto X162.here hx rfl (pc0 := 129) (pc' := 133) rfl (hb hby at_129) (by decide) (by decide) ?_
      show Steps _ _ _ (T162.setTop (mkF m 133 #[iv q1, rv b76, iv 3, rv a_ESCALATOR, iv 4, iv 1, iv 1] [(.int 1)])) _
      exact q
    obtain ⟨fs, hr, hrun, hended, hW, hsame⟩ := X162.leave (v := some (.int 1)) (fun h => by rw [Bd.returns] at h; cases h)
    refine ⟨_, _, k_163 _ ?_, hrun, hended, _, _, rfl, ?_, ⟨_, rfl⟩, hW, hsame.mono (by decide) (by decide)⟩
    · exact retN X162 hx (t := .boolean) Bd.returns (by simp) (hb hby at_133) hr
    · show Q0 n0 _ T162.heap _
      rw [e162]
      exact ⟨rfl, N162⟩
  · skip
    have k_164 : Go p.tables e below (s₁.setTop (entryFrame m #[(.int q1)] maxLocals)) (T132.setTop (mkF m 63 #[iv q1, rv b76, iv 4, .unset, .unset, .unset, .unset] [(.int 4), (.ref b76)])) := fun t q => by
      refine k_135 t ?_
      refine XS.astoreN X132.here hx rfl (hb hby at_55) rfl rfl (l' := #[iv q1, rv b76, .unset, .unset, .unset, .unset, .unset]) rfl ?_
      show Steps _ _ _ (T132.setTop (mkF m 56 #[iv q1, rv b76, .unset, .unset, .unset, .unset, .unset] [])) _
      refine XS.iloadN X132.here hx rfl (hb hby at_56) rfl ?_
      show Steps _ _ _ (T132.setTop (mkF m 57 #[iv q1, rv b76, .unset, .unset, .unset, .unset, .unset] [(.int q1)])) _
      refine XS.bipush X132.here hx rfl (hb hby at_57) ?_
      show Steps _ _ _ (T132.setTop (mkF m 59 #[iv q1, rv b76, .unset, .unset, .unset, .unset, .unset] [(.int 7), (.int q1)])) _
      refine XS.iand X132.here hx rfl (hb hby at_59) rfl ?_
      show Steps _ _ _ (T132.setTop (mkF m 60 #[iv q1, rv b76, .unset, .unset, .unset, .unset, .unset] [(.int (q1 &&& (7 : Int32)))])) _
      rw [hi]
      show Steps _ _ _ (T132.setTop (mkF m 60 #[iv q1, rv b76, .unset, .unset, .unset, .unset, .unset] [(.int 4)])) _
      refine XS.istoreN X132.here hx rfl (hb hby at_60) rfl (l' := #[iv q1, rv b76, iv 4, .unset, .unset, .unset, .unset]) rfl ?_
      show Steps _ _ _ (T132.setTop (mkF m 61 #[iv q1, rv b76, iv 4, .unset, .unset, .unset, .unset] [])) _
      refine XS.aloadN X132.here hx rfl (hb hby at_61) rfl rfl ?_
      show Steps _ _ _ (T132.setTop (mkF m 62 #[iv q1, rv b76, iv 4, .unset, .unset, .unset, .unset] [(.ref b76)])) _
      refine XS.iloadN X132.here hx rfl (hb hby at_62) rfl ?_
      show Steps _ _ _ (T132.setTop (mkF m 63 #[iv q1, rv b76, iv 4, .unset, .unset, .unset, .unset] [(.int 4), (.ref b76)])) _
      exact q
    obtain ⟨cl165, Ar165, q165, S165, M165, H165, G165⟩ := B132
    have hin165 : ¬ ((4 : Int32) < 0 ∨ cl165.slots.size ≤ ((4 : Int32)).toNatClampNeg) := inb_of S165 ⟨by decide, by decide⟩
    have hat165 : cl165.slots[((4 : Int32)).toNatClampNeg]? = some (.ref a_ELEVATOR) := Has.at H165 hin165 rfl
    have k_166 : Go p.tables e below (s₁.setTop (entryFrame m #[(.int q1)] maxLocals)) (T132.setTop (mkF m 66 #[iv q1, rv b76, iv 4, rv a_ELEVATOR, .unset, .unset, .unset] [(.ref a_ELEVATOR)])) := fun t q => by
      refine k_164 t ?_
      refine X132.aaload hx (j := (4 : Int32)) (v := (.ref a_ELEVATOR)) (by rw [e132]; exact Ar165.1) (State.isArrayOf_alike hZ.alike Ar165.2.1) rfl Ar165.2.2 hin165 hat165 (g := (mkF m 63 #[iv q1, rv b76, iv 4, .unset, .unset, .unset, .unset] [(.int 4), (.ref b76)])) rfl rfl (hb hby at_63) _ ?_
      show Steps _ _ _ (T132.setTop (mkF m 64 #[iv q1, rv b76, iv 4, .unset, .unset, .unset, .unset] [(.ref a_ELEVATOR)])) _
      refine XS.astoreN X132.here hx rfl (hb hby at_64) rfl rfl (l' := #[iv q1, rv b76, iv 4, rv a_ELEVATOR, .unset, .unset, .unset]) rfl ?_
      show Steps _ _ _ (T132.setTop (mkF m 65 #[iv q1, rv b76, iv 4, rv a_ELEVATOR, .unset, .unset, .unset] [])) _
      refine XS.aloadN X132.here hx rfl (hb hby at_65) rfl rfl ?_
      show Steps _ _ _ (T132.setTop (mkF m 66 #[iv q1, rv b76, iv 4, rv a_ELEVATOR, .unset, .unset, .unset] [(.ref a_ELEVATOR)])) _
      exact q
    obtain ⟨cq167, kq167, q167a, q167b, q167c⟩ := isOf hZ e132 (Exa.ext O_133.2 E_ELEVATOR)
    obtain ⟨_, _, ⟨T167, L167, k167, n167⟩, -, X167, ⟨Lc167, hQ167, l167, y167, z167⟩, st167⟩ := X132.virtualBack hx (y := y_0) (z := y_0) hown (mvT hZ (hw _ (wd 20 rfl))) (mvT hZ (hw _ (wd 21 rfl))) (notFace_of_selects (args := #[]) (mvT hZ (hw _ (wd 23 rfl)))) (mvT hZ (hw _ (wd 23 rfl))) (mvT hZ (hw _ (wd 22 rfl))) (by decide) (backOf (W := 0) (cd_4 l Z a0 hw [] a_WALKWAY a_STAIRS a_TRAVELATOR a_ESCALATOR a_ELEVATOR a_FARE_GATE a_EXIT_GATE a_CONTROL G  h132 n0 O_133 ) hZ (hw _ (wd 24 rfl)) (hw _ (wd 3 rfl)) (by decide) (by decide)) q167a q167c (g := (mkF m 66 #[iv q1, rv b76, iv 4, rv a_ELEVATOR, .unset, .unset, .unset] [(.ref a_ELEVATOR)])) rfl (by rw [hml]; rfl) (Steps.refl _) (argsL := []) (rest := []) (lenOf pd_0 rfl) rfl (by show 2 * 0 + _ ≤ _; exact Nat.le_of_eq rfl) (hb hby at_66) (fun _ _ => ⟨rfl, e132, (by decide : 1 + 0 ≤ _), (by decide : 8 + 0 ≤ _)⟩)
    dsimp only [Pt.U, Pt.locs, Pt.cells, Pt.slots] at X167 l167 y167 z167 st167 hQ167
    subst l167 y167 z167
    obtain ⟨rfl, N167q, e167⟩ := hQ167
    have N167 := Fr.app N132 N167q
    have k_168 : Go p.tables e below (s₁.setTop (entryFrame m #[(.int q1)] maxLocals)) (T167.setTop (mkF m 113 #[iv q1, rv b76, iv 4, rv a_ELEVATOR, iv 5, iv 1, iv 1] [(.ref a_ELEVATOR)])) := fun t q => by
      refine k_166 t ?_
      refine st167.trans ?_
      show Steps _ _ _ (T167.setTop (mkF m 69 #[iv q1, rv b76, iv 4, rv a_ELEVATOR, .unset, .unset, .unset] [(.int 5)])) _
      refine XS.istore X167.here hx rfl (hb hby at_69) rfl (l' := #[iv q1, rv b76, iv 4, rv a_ELEVATOR, iv 5, .unset, .unset]) rfl ?_
      show Steps _ _ _ (T167.setTop (mkF m 71 #[iv q1, rv b76, iv 4, rv a_ELEVATOR, iv 5, .unset, .unset] [])) _
      refine XS.iload X167.here hx rfl (hb hby at_71) rfl ?_
      show Steps _ _ _ (T167.setTop (mkF m 73 #[iv q1, rv b76, iv 4, rv a_ELEVATOR, iv 5, .unset, .unset] [(.int 5)])) _
      refine XS.iconst X167.here hx rfl (hb hby at_73) ?_
      show Steps _ _ _ (T167.setTop (mkF m 74 #[iv q1, rv b76, iv 4, rv a_ELEVATOR, iv 5, .unset, .unset] [(.int 3), (.int 5)])) _
      refine XS.icmpNo X167.here hx rfl (hb hby at_74) rfl (by decide) ?_
      show Steps _ _ _ (T167.setTop (mkF m 77 #[iv q1, rv b76, iv 4, rv a_ELEVATOR, iv 5, .unset, .unset] [])) _
      refine XS.iload X167.here hx rfl (hb hby at_77) rfl ?_
      show Steps _ _ _ (T167.setTop (mkF m 79 #[iv q1, rv b76, iv 4, rv a_ELEVATOR, iv 5, .unset, .unset] [(.int 5)])) _
      refine XS.iconst X167.here hx rfl (hb hby at_79) ?_
      show Steps _ _ _ (T167.setTop (mkF m 80 #[iv q1, rv b76, iv 4, rv a_ELEVATOR, iv 5, .unset, .unset] [(.int 5), (.int 5)])) _
      refine XS.icmpNo X167.here hx rfl (hb hby at_80) rfl (by decide) ?_
      show Steps _ _ _ (T167.setTop (mkF m 83 #[iv q1, rv b76, iv 4, rv a_ELEVATOR, iv 5, .unset, .unset] [])) _
      refine XS.iconst X167.here hx rfl (hb hby at_83) ?_
      show Steps _ _ _ (T167.setTop (mkF m 84 #[iv q1, rv b76, iv 4, rv a_ELEVATOR, iv 5, .unset, .unset] [(.int 1)])) _
      refine XS.goto X167.here hx rfl (pc0 := 84) (pc' := 88) rfl (hb hby at_84) (by decide) (by decide) ?_
      show Steps _ _ _ (T167.setTop (mkF m 88 #[iv q1, rv b76, iv 4, rv a_ELEVATOR, iv 5, .unset, .unset] [(.int 1)])) _
      refine XS.istore X167.here hx rfl (hb hby at_88) rfl (l' := #[iv q1, rv b76, iv 4, rv a_ELEVATOR, iv 5, iv 1, .unset]) rfl ?_
      show Steps _ _ _ (T167.setTop (mkF m 90 #[iv q1, rv b76, iv 4, rv a_ELEVATOR, iv 5, iv 1, .unset] [])) _
      refine XS.iloadN X167.here hx rfl (hb hby at_90) rfl ?_
      show Steps _ _ _ (T167.setTop (mkF m 91 #[iv q1, rv b76, iv 4, rv a_ELEVATOR, iv 5, iv 1, .unset] [(.int 4)])) _
      refine XS.iconst X167.here hx rfl (hb hby at_91) ?_
      show Steps _ _ _ (T167.setTop (mkF m 92 #[iv q1, rv b76, iv 4, rv a_ELEVATOR, iv 5, iv 1, .unset] [(.int 2), (.int 4)])) _
      refine XS.icmpNo X167.here hx rfl (hb hby at_92) rfl (by decide) ?_
      show Steps _ _ _ (T167.setTop (mkF m 95 #[iv q1, rv b76, iv 4, rv a_ELEVATOR, iv 5, iv 1, .unset] [])) _
      refine XS.iloadN X167.here hx rfl (hb hby at_95) rfl ?_
      show Steps _ _ _ (T167.setTop (mkF m 96 #[iv q1, rv b76, iv 4, rv a_ELEVATOR, iv 5, iv 1, .unset] [(.int 4)])) _
      refine XS.iconst X167.here hx rfl (hb hby at_96) ?_
      show Steps _ _ _ (T167.setTop (mkF m 97 #[iv q1, rv b76, iv 4, rv a_ELEVATOR, iv 5, iv 1, .unset] [(.int 3), (.int 4)])) _
      refine XS.icmpNo X167.here hx rfl (hb hby at_97) rfl (by decide) ?_
      show Steps _ _ _ (T167.setTop (mkF m 100 #[iv q1, rv b76, iv 4, rv a_ELEVATOR, iv 5, iv 1, .unset] [])) _
      refine XS.iloadN X167.here hx rfl (hb hby at_100) rfl ?_
      show Steps _ _ _ (T167.setTop (mkF m 101 #[iv q1, rv b76, iv 4, rv a_ELEVATOR, iv 5, iv 1, .unset] [(.int 4)])) _
      refine XS.iconst X167.here hx rfl (hb hby at_101) ?_
      show Steps _ _ _ (T167.setTop (mkF m 102 #[iv q1, rv b76, iv 4, rv a_ELEVATOR, iv 5, iv 1, .unset] [(.int 4), (.int 4)])) _
      refine XS.icmpNo X167.here hx rfl (hb hby at_102) rfl (by decide) ?_
      show Steps _ _ _ (T167.setTop (mkF m 105 #[iv q1, rv b76, iv 4, rv a_ELEVATOR, iv 5, iv 1, .unset] [])) _
      refine XS.iconst X167.here hx rfl (hb hby at_105) ?_
      show Steps _ _ _ (T167.setTop (mkF m 106 #[iv q1, rv b76, iv 4, rv a_ELEVATOR, iv 5, iv 1, .unset] [(.int 1)])) _
      refine XS.goto X167.here hx rfl (pc0 := 106) (pc' := 110) rfl (hb hby at_106) (by decide) (by decide) ?_
      show Steps _ _ _ (T167.setTop (mkF m 110 #[iv q1, rv b76, iv 4, rv a_ELEVATOR, iv 5, iv 1, .unset] [(.int 1)])) _
      refine XS.istore X167.here hx rfl (hb hby at_110) rfl (l' := #[iv q1, rv b76, iv 4, rv a_ELEVATOR, iv 5, iv 1, iv 1]) rfl ?_
      show Steps _ _ _ (T167.setTop (mkF m 112 #[iv q1, rv b76, iv 4, rv a_ELEVATOR, iv 5, iv 1, iv 1] [])) _
      refine XS.aloadN X167.here hx rfl (hb hby at_112) rfl rfl ?_
      show Steps _ _ _ (T167.setTop (mkF m 113 #[iv q1, rv b76, iv 4, rv a_ELEVATOR, iv 5, iv 1, iv 1] [(.ref a_ELEVATOR)])) _
      exact q
    obtain ⟨cq169, kq169, q169a, q169b, q169c⟩ := isOf hZ e167 (Exa.ext O_133.2 E_ELEVATOR)
    obtain ⟨_, _, ⟨T169, L169, k169, n169⟩, -, X169, ⟨Lc169, hQ169, l169, y169, z169⟩, st169⟩ := X167.virtualBack hx (y := y_1) (z := y_1) hown (mvT hZ (hw _ (wd 27 rfl))) (mvT hZ (hw _ (wd 28 rfl))) (notFace_of_selects (args := #[]) (mvT hZ (hw _ (wd 30 rfl)))) (mvT hZ (hw _ (wd 30 rfl))) (mvT hZ (hw _ (wd 29 rfl))) (by decide) (backOf (W := 0) (me_4 l Z a0 hw [] a_WALKWAY a_STAIRS a_TRAVELATOR a_ESCALATOR a_ELEVATOR a_FARE_GATE a_EXIT_GATE a_CONTROL G  h132 n0 O_133 ) hZ (hw _ (wd 31 rfl)) (hw _ (wd 3 rfl)) (by decide) (by decide)) q169a q169c (g := (mkF m 113 #[iv q1, rv b76, iv 4, rv a_ELEVATOR, iv 5, iv 1, iv 1] [(.ref a_ELEVATOR)])) rfl (by rw [hml]; rfl) (Steps.refl _) (argsL := []) (rest := []) (lenOf pd_1 rfl) rfl (by show 2 * 0 + _ ≤ _; exact Nat.le_of_eq rfl) (hb hby at_113) (fun _ _ => ⟨rfl, e167, (by decide : 1 + 0 ≤ _), (by decide : 8 + 0 ≤ _)⟩)
    dsimp only [Pt.U, Pt.locs, Pt.cells, Pt.slots] at X169 l169 y169 z169 st169 hQ169
    subst l169 y169 z169
    obtain ⟨rfl, N169q, e169⟩ := hQ169
    have N169 := Fr.app N167 N169q
    have k_170 : Go p.tables e below (s₁.setTop (entryFrame m #[(.int q1)] maxLocals)) (T169.setTop (mkF m 133 #[iv q1, rv b76, iv 4, rv a_ELEVATOR, iv 5, iv 1, iv 1] [(.int 1)])) := fun t q => by
      refine k_168 t ?_
      refine st169.trans ?_
      show Steps _ _ _ (T169.setTop (mkF m 116 #[iv q1, rv b76, iv 4, rv a_ELEVATOR, iv 5, iv 1, iv 1] [(.int 1)])) _
      refine XS.iload X169.here hx rfl (hb hby at_116) rfl ?_
      show Steps _ _ _ (T169.setTop (mkF m 118 #[iv q1, rv b76, iv 4, rv a_ELEVATOR, iv 5, iv 1, iv 1] [(.int 1), (.int 1)])) _
      refine XS.icmpNo X169.here hx rfl (hb hby at_118) rfl (by decide) ?_
      show Steps _ _ _ (T169.setTop (mkF m 121 #[iv q1, rv b76, iv 4, rv a_ELEVATOR, iv 5, iv 1, iv 1] [])) _
      refine XS.iload X169.here hx rfl (hb hby at_121) rfl ?_
      show Steps _ _ _ (T169.setTop (mkF m 123 #[iv q1, rv b76, iv 4, rv a_ELEVATOR, iv 5, iv 1, iv 1] [(.int 1)])) _
      refine XS.iload X169.here hx rfl (hb hby at_123) rfl ?_
      show Steps _ _ _ (T169.setTop (mkF m 125 #[iv q1, rv b76, iv 4, rv a_ELEVATOR, iv 5, iv 1, iv 1] [(.int 1), (.int 1)])) _
      refine XS.icmpNo X169.here hx rfl (hb hby at_125) rfl (by decide) ?_
      show Steps _ _ _ (T169.setTop (mkF m 128 #[iv q1, rv b76, iv 4, rv a_ELEVATOR, iv 5, iv 1, iv 1] [])) _
      refine XS.iconst X169.here hx rfl (hb hby at_128) ?_
      show Steps _ _ _ (T169.setTop (mkF m 129 #[iv q1, rv b76, iv 4, rv a_ELEVATOR, iv 5, iv 1, iv 1] [(.int 1)])) _
      refine XS.goto X169.here hx rfl (pc0 := 129) (pc' := 133) rfl (hb hby at_129) (by decide) (by decide) ?_
      show Steps _ _ _ (T169.setTop (mkF m 133 #[iv q1, rv b76, iv 4, rv a_ELEVATOR, iv 5, iv 1, iv 1] [(.int 1)])) _
      exact q
    obtain ⟨fs, hr, hrun, hended, hW, hsame⟩ := X169.leave (v := some (.int 1)) (fun h => by rw [Bd.returns] at h; cases h)
    refine ⟨_, _, k_170 _ ?_, hrun, hended, _, _, rfl, ?_, ⟨_, rfl⟩, hW, hsame.mono (by decide) (by decide)⟩
    · exact retN X169 hx (t := .boolean) Bd.returns (by simp) (hb hby at_133) hr
    · show Q0 n0 _ T169.heap _
      rw [e169]
      exact ⟨rfl, N169⟩
  · skip
    have k_171 : Go p.tables e below (s₁.setTop (entryFrame m #[(.int q1)] maxLocals)) (T132.setTop (mkF m 63 #[iv q1, rv b76, iv 5, .unset, .unset, .unset, .unset] [(.int 5), (.ref b76)])) := fun t q => by
      refine k_135 t ?_
      refine XS.astoreN X132.here hx rfl (hb hby at_55) rfl rfl (l' := #[iv q1, rv b76, .unset, .unset, .unset, .unset, .unset]) rfl ?_
      show Steps _ _ _ (T132.setTop (mkF m 56 #[iv q1, rv b76, .unset, .unset, .unset, .unset, .unset] [])) _
      refine XS.iloadN X132.here hx rfl (hb hby at_56) rfl ?_
      show Steps _ _ _ (T132.setTop (mkF m 57 #[iv q1, rv b76, .unset, .unset, .unset, .unset, .unset] [(.int q1)])) _
      refine XS.bipush X132.here hx rfl (hb hby at_57) ?_
      show Steps _ _ _ (T132.setTop (mkF m 59 #[iv q1, rv b76, .unset, .unset, .unset, .unset, .unset] [(.int 7), (.int q1)])) _
      refine XS.iand X132.here hx rfl (hb hby at_59) rfl ?_
      show Steps _ _ _ (T132.setTop (mkF m 60 #[iv q1, rv b76, .unset, .unset, .unset, .unset, .unset] [(.int (q1 &&& (7 : Int32)))])) _
      rw [hi]
      show Steps _ _ _ (T132.setTop (mkF m 60 #[iv q1, rv b76, .unset, .unset, .unset, .unset, .unset] [(.int 5)])) _
      refine XS.istoreN X132.here hx rfl (hb hby at_60) rfl (l' := #[iv q1, rv b76, iv 5, .unset, .unset, .unset, .unset]) rfl ?_
      show Steps _ _ _ (T132.setTop (mkF m 61 #[iv q1, rv b76, iv 5, .unset, .unset, .unset, .unset] [])) _
      refine XS.aloadN X132.here hx rfl (hb hby at_61) rfl rfl ?_
      show Steps _ _ _ (T132.setTop (mkF m 62 #[iv q1, rv b76, iv 5, .unset, .unset, .unset, .unset] [(.ref b76)])) _
      refine XS.iloadN X132.here hx rfl (hb hby at_62) rfl ?_
      show Steps _ _ _ (T132.setTop (mkF m 63 #[iv q1, rv b76, iv 5, .unset, .unset, .unset, .unset] [(.int 5), (.ref b76)])) _
      exact q
    obtain ⟨cl172, Ar172, q172, S172, M172, H172, G172⟩ := B132
    have hin172 : ¬ ((5 : Int32) < 0 ∨ cl172.slots.size ≤ ((5 : Int32)).toNatClampNeg) := inb_of S172 ⟨by decide, by decide⟩
    have hat172 : cl172.slots[((5 : Int32)).toNatClampNeg]? = some (.ref a_FARE_GATE) := Has.at H172 hin172 rfl
    have k_173 : Go p.tables e below (s₁.setTop (entryFrame m #[(.int q1)] maxLocals)) (T132.setTop (mkF m 66 #[iv q1, rv b76, iv 5, rv a_FARE_GATE, .unset, .unset, .unset] [(.ref a_FARE_GATE)])) := fun t q => by
      refine k_171 t ?_
      refine X132.aaload hx (j := (5 : Int32)) (v := (.ref a_FARE_GATE)) (by rw [e132]; exact Ar172.1) (State.isArrayOf_alike hZ.alike Ar172.2.1) rfl Ar172.2.2 hin172 hat172 (g := (mkF m 63 #[iv q1, rv b76, iv 5, .unset, .unset, .unset, .unset] [(.int 5), (.ref b76)])) rfl rfl (hb hby at_63) _ ?_
      show Steps _ _ _ (T132.setTop (mkF m 64 #[iv q1, rv b76, iv 5, .unset, .unset, .unset, .unset] [(.ref a_FARE_GATE)])) _
      refine XS.astoreN X132.here hx rfl (hb hby at_64) rfl rfl (l' := #[iv q1, rv b76, iv 5, rv a_FARE_GATE, .unset, .unset, .unset]) rfl ?_
      show Steps _ _ _ (T132.setTop (mkF m 65 #[iv q1, rv b76, iv 5, rv a_FARE_GATE, .unset, .unset, .unset] [])) _
      refine XS.aloadN X132.here hx rfl (hb hby at_65) rfl rfl ?_
      show Steps _ _ _ (T132.setTop (mkF m 66 #[iv q1, rv b76, iv 5, rv a_FARE_GATE, .unset, .unset, .unset] [(.ref a_FARE_GATE)])) _
      exact q
    obtain ⟨cq174, kq174, q174a, q174b, q174c⟩ := isOf hZ e132 (Exa.ext O_133.2 E_FARE_GATE)
    obtain ⟨_, _, ⟨T174, L174, k174, n174⟩, -, X174, ⟨Lc174, hQ174, l174, y174, z174⟩, st174⟩ := X132.virtualBack hx (y := y_0) (z := y_0) hown (mvT hZ (hw _ (wd 20 rfl))) (mvT hZ (hw _ (wd 21 rfl))) (notFace_of_selects (args := #[]) (mvT hZ (hw _ (wd 23 rfl)))) (mvT hZ (hw _ (wd 23 rfl))) (mvT hZ (hw _ (wd 22 rfl))) (by decide) (backOf (W := 0) (cd_5 l Z a0 hw [] a_WALKWAY a_STAIRS a_TRAVELATOR a_ESCALATOR a_ELEVATOR a_FARE_GATE a_EXIT_GATE a_CONTROL G  h132 n0 O_133 ) hZ (hw _ (wd 24 rfl)) (hw _ (wd 3 rfl)) (by decide) (by decide)) q174a q174c (g := (mkF m 66 #[iv q1, rv b76, iv 5, rv a_FARE_GATE, .unset, .unset, .unset] [(.ref a_FARE_GATE)])) rfl (by rw [hml]; rfl) (Steps.refl _) (argsL := []) (rest := []) (lenOf pd_0 rfl) rfl (by show 2 * 0 + _ ≤ _; exact Nat.le_of_eq rfl) (hb hby at_66) (fun _ _ => ⟨rfl, e132, (by decide : 1 + 0 ≤ _), (by decide : 8 + 0 ≤ _)⟩)
    dsimp only [Pt.U, Pt.locs, Pt.cells, Pt.slots] at X174 l174 y174 z174 st174 hQ174
    subst l174 y174 z174
    obtain ⟨rfl, N174q, e174⟩ := hQ174
    have N174 := Fr.app N132 N174q
    have k_175 : Go p.tables e below (s₁.setTop (entryFrame m #[(.int q1)] maxLocals)) (T174.setTop (mkF m 113 #[iv q1, rv b76, iv 5, rv a_FARE_GATE, iv 6, iv 0, iv 0] [(.ref a_FARE_GATE)])) := fun t q => by
      refine k_173 t ?_
      refine st174.trans ?_
      show Steps _ _ _ (T174.setTop (mkF m 69 #[iv q1, rv b76, iv 5, rv a_FARE_GATE, .unset, .unset, .unset] [(.int 6)])) _
      refine XS.istore X174.here hx rfl (hb hby at_69) rfl (l' := #[iv q1, rv b76, iv 5, rv a_FARE_GATE, iv 6, .unset, .unset]) rfl ?_
      show Steps _ _ _ (T174.setTop (mkF m 71 #[iv q1, rv b76, iv 5, rv a_FARE_GATE, iv 6, .unset, .unset] [])) _
      refine XS.iload X174.here hx rfl (hb hby at_71) rfl ?_
      show Steps _ _ _ (T174.setTop (mkF m 73 #[iv q1, rv b76, iv 5, rv a_FARE_GATE, iv 6, .unset, .unset] [(.int 6)])) _
      refine XS.iconst X174.here hx rfl (hb hby at_73) ?_
      show Steps _ _ _ (T174.setTop (mkF m 74 #[iv q1, rv b76, iv 5, rv a_FARE_GATE, iv 6, .unset, .unset] [(.int 3), (.int 6)])) _
      refine XS.icmpNo X174.here hx rfl (hb hby at_74) rfl (by decide) ?_
      show Steps _ _ _ (T174.setTop (mkF m 77 #[iv q1, rv b76, iv 5, rv a_FARE_GATE, iv 6, .unset, .unset] [])) _
      refine XS.iload X174.here hx rfl (hb hby at_77) rfl ?_
      show Steps _ _ _ (T174.setTop (mkF m 79 #[iv q1, rv b76, iv 5, rv a_FARE_GATE, iv 6, .unset, .unset] [(.int 6)])) _
      refine XS.iconst X174.here hx rfl (hb hby at_79) ?_
      show Steps _ _ _ (T174.setTop (mkF m 80 #[iv q1, rv b76, iv 5, rv a_FARE_GATE, iv 6, .unset, .unset] [(.int 5), (.int 6)])) _
      refine XS.icmpYes X174.here hx rfl (pc0 := 80) (pc' := 87) rfl (hb hby at_80) rfl (by decide) (by decide) (by decide) ?_
      show Steps _ _ _ (T174.setTop (mkF m 87 #[iv q1, rv b76, iv 5, rv a_FARE_GATE, iv 6, .unset, .unset] [])) _
      refine XS.iconst X174.here hx rfl (hb hby at_87) ?_
      show Steps _ _ _ (T174.setTop (mkF m 88 #[iv q1, rv b76, iv 5, rv a_FARE_GATE, iv 6, .unset, .unset] [(.int 0)])) _
      refine XS.istore X174.here hx rfl (hb hby at_88) rfl (l' := #[iv q1, rv b76, iv 5, rv a_FARE_GATE, iv 6, iv 0, .unset]) rfl ?_
      show Steps _ _ _ (T174.setTop (mkF m 90 #[iv q1, rv b76, iv 5, rv a_FARE_GATE, iv 6, iv 0, .unset] [])) _
      refine XS.iloadN X174.here hx rfl (hb hby at_90) rfl ?_
      show Steps _ _ _ (T174.setTop (mkF m 91 #[iv q1, rv b76, iv 5, rv a_FARE_GATE, iv 6, iv 0, .unset] [(.int 5)])) _
      refine XS.iconst X174.here hx rfl (hb hby at_91) ?_
      show Steps _ _ _ (T174.setTop (mkF m 92 #[iv q1, rv b76, iv 5, rv a_FARE_GATE, iv 6, iv 0, .unset] [(.int 2), (.int 5)])) _
      refine XS.icmpNo X174.here hx rfl (hb hby at_92) rfl (by decide) ?_
      show Steps _ _ _ (T174.setTop (mkF m 95 #[iv q1, rv b76, iv 5, rv a_FARE_GATE, iv 6, iv 0, .unset] [])) _
      refine XS.iloadN X174.here hx rfl (hb hby at_95) rfl ?_
      show Steps _ _ _ (T174.setTop (mkF m 96 #[iv q1, rv b76, iv 5, rv a_FARE_GATE, iv 6, iv 0, .unset] [(.int 5)])) _
      refine XS.iconst X174.here hx rfl (hb hby at_96) ?_
      show Steps _ _ _ (T174.setTop (mkF m 97 #[iv q1, rv b76, iv 5, rv a_FARE_GATE, iv 6, iv 0, .unset] [(.int 3), (.int 5)])) _
      refine XS.icmpNo X174.here hx rfl (hb hby at_97) rfl (by decide) ?_
      show Steps _ _ _ (T174.setTop (mkF m 100 #[iv q1, rv b76, iv 5, rv a_FARE_GATE, iv 6, iv 0, .unset] [])) _
      refine XS.iloadN X174.here hx rfl (hb hby at_100) rfl ?_
      show Steps _ _ _ (T174.setTop (mkF m 101 #[iv q1, rv b76, iv 5, rv a_FARE_GATE, iv 6, iv 0, .unset] [(.int 5)])) _
      refine XS.iconst X174.here hx rfl (hb hby at_101) ?_
      show Steps _ _ _ (T174.setTop (mkF m 102 #[iv q1, rv b76, iv 5, rv a_FARE_GATE, iv 6, iv 0, .unset] [(.int 4), (.int 5)])) _
      refine XS.icmpYes X174.here hx rfl (pc0 := 102) (pc' := 109) rfl (hb hby at_102) rfl (by decide) (by decide) (by decide) ?_
      show Steps _ _ _ (T174.setTop (mkF m 109 #[iv q1, rv b76, iv 5, rv a_FARE_GATE, iv 6, iv 0, .unset] [])) _
      refine XS.iconst X174.here hx rfl (hb hby at_109) ?_
      show Steps _ _ _ (T174.setTop (mkF m 110 #[iv q1, rv b76, iv 5, rv a_FARE_GATE, iv 6, iv 0, .unset] [(.int 0)])) _
      refine XS.istore X174.here hx rfl (hb hby at_110) rfl (l' := #[iv q1, rv b76, iv 5, rv a_FARE_GATE, iv 6, iv 0, iv 0]) rfl ?_
      show Steps _ _ _ (T174.setTop (mkF m 112 #[iv q1, rv b76, iv 5, rv a_FARE_GATE, iv 6, iv 0, iv 0] [])) _
      refine XS.aloadN X174.here hx rfl (hb hby at_112) rfl rfl ?_
      show Steps _ _ _ (T174.setTop (mkF m 113 #[iv q1, rv b76, iv 5, rv a_FARE_GATE, iv 6, iv 0, iv 0] [(.ref a_FARE_GATE)])) _
      exact q
    obtain ⟨cq176, kq176, q176a, q176b, q176c⟩ := isOf hZ e174 (Exa.ext O_133.2 E_FARE_GATE)
    obtain ⟨_, _, ⟨T176, L176, k176, n176⟩, -, X176, ⟨Lc176, hQ176, l176, y176, z176⟩, st176⟩ := X174.virtualBack hx (y := y_1) (z := y_1) hown (mvT hZ (hw _ (wd 27 rfl))) (mvT hZ (hw _ (wd 28 rfl))) (notFace_of_selects (args := #[]) (mvT hZ (hw _ (wd 30 rfl)))) (mvT hZ (hw _ (wd 30 rfl))) (mvT hZ (hw _ (wd 29 rfl))) (by decide) (backOf (W := 0) (me_5 l Z a0 hw [] a_WALKWAY a_STAIRS a_TRAVELATOR a_ESCALATOR a_ELEVATOR a_FARE_GATE a_EXIT_GATE a_CONTROL G  h132 n0 O_133 ) hZ (hw _ (wd 31 rfl)) (hw _ (wd 3 rfl)) (by decide) (by decide)) q176a q176c (g := (mkF m 113 #[iv q1, rv b76, iv 5, rv a_FARE_GATE, iv 6, iv 0, iv 0] [(.ref a_FARE_GATE)])) rfl (by rw [hml]; rfl) (Steps.refl _) (argsL := []) (rest := []) (lenOf pd_1 rfl) rfl (by show 2 * 0 + _ ≤ _; exact Nat.le_of_eq rfl) (hb hby at_113) (fun _ _ => ⟨rfl, e174, (by decide : 1 + 0 ≤ _), (by decide : 8 + 0 ≤ _)⟩)
    dsimp only [Pt.U, Pt.locs, Pt.cells, Pt.slots] at X176 l176 y176 z176 st176 hQ176
    subst l176 y176 z176
    obtain ⟨rfl, N176q, e176⟩ := hQ176
    have N176 := Fr.app N174 N176q
    have k_177 : Go p.tables e below (s₁.setTop (entryFrame m #[(.int q1)] maxLocals)) (T176.setTop (mkF m 133 #[iv q1, rv b76, iv 5, rv a_FARE_GATE, iv 6, iv 0, iv 0] [(.int 1)])) := fun t q => by
      refine k_175 t ?_
      refine st176.trans ?_
      show Steps _ _ _ (T176.setTop (mkF m 116 #[iv q1, rv b76, iv 5, rv a_FARE_GATE, iv 6, iv 0, iv 0] [(.int 0)])) _
      refine XS.iload X176.here hx rfl (hb hby at_116) rfl ?_
      show Steps _ _ _ (T176.setTop (mkF m 118 #[iv q1, rv b76, iv 5, rv a_FARE_GATE, iv 6, iv 0, iv 0] [(.int 0), (.int 0)])) _
      refine XS.icmpNo X176.here hx rfl (hb hby at_118) rfl (by decide) ?_
      show Steps _ _ _ (T176.setTop (mkF m 121 #[iv q1, rv b76, iv 5, rv a_FARE_GATE, iv 6, iv 0, iv 0] [])) _
      refine XS.iload X176.here hx rfl (hb hby at_121) rfl ?_
      show Steps _ _ _ (T176.setTop (mkF m 123 #[iv q1, rv b76, iv 5, rv a_FARE_GATE, iv 6, iv 0, iv 0] [(.int 0)])) _
      refine XS.iload X176.here hx rfl (hb hby at_123) rfl ?_
      show Steps _ _ _ (T176.setTop (mkF m 125 #[iv q1, rv b76, iv 5, rv a_FARE_GATE, iv 6, iv 0, iv 0] [(.int 0), (.int 0)])) _
      refine XS.icmpNo X176.here hx rfl (hb hby at_125) rfl (by decide) ?_
      show Steps _ _ _ (T176.setTop (mkF m 128 #[iv q1, rv b76, iv 5, rv a_FARE_GATE, iv 6, iv 0, iv 0] [])) _
      refine XS.iconst X176.here hx rfl (hb hby at_128) ?_
      show Steps _ _ _ (T176.setTop (mkF m 129 #[iv q1, rv b76, iv 5, rv a_FARE_GATE, iv 6, iv 0, iv 0] [(.int 1)])) _
      refine XS.goto X176.here hx rfl (pc0 := 129) (pc' := 133) rfl (hb hby at_129) (by decide) (by decide) ?_
      show Steps _ _ _ (T176.setTop (mkF m 133 #[iv q1, rv b76, iv 5, rv a_FARE_GATE, iv 6, iv 0, iv 0] [(.int 1)])) _
      exact q
    obtain ⟨fs, hr, hrun, hended, hW, hsame⟩ := X176.leave (v := some (.int 1)) (fun h => by rw [Bd.returns] at h; cases h)
    refine ⟨_, _, k_177 _ ?_, hrun, hended, _, _, rfl, ?_, ⟨_, rfl⟩, hW, hsame.mono (by decide) (by decide)⟩
    · exact retN X176 hx (t := .boolean) Bd.returns (by simp) (hb hby at_133) hr
    · show Q0 n0 _ T176.heap _
      rw [e176]
      exact ⟨rfl, N176⟩
  · skip
    have k_178 : Go p.tables e below (s₁.setTop (entryFrame m #[(.int q1)] maxLocals)) (T132.setTop (mkF m 63 #[iv q1, rv b76, iv 6, .unset, .unset, .unset, .unset] [(.int 6), (.ref b76)])) := fun t q => by
      refine k_135 t ?_
      refine XS.astoreN X132.here hx rfl (hb hby at_55) rfl rfl (l' := #[iv q1, rv b76, .unset, .unset, .unset, .unset, .unset]) rfl ?_
      show Steps _ _ _ (T132.setTop (mkF m 56 #[iv q1, rv b76, .unset, .unset, .unset, .unset, .unset] [])) _
      refine XS.iloadN X132.here hx rfl (hb hby at_56) rfl ?_
      show Steps _ _ _ (T132.setTop (mkF m 57 #[iv q1, rv b76, .unset, .unset, .unset, .unset, .unset] [(.int q1)])) _
      refine XS.bipush X132.here hx rfl (hb hby at_57) ?_
      show Steps _ _ _ (T132.setTop (mkF m 59 #[iv q1, rv b76, .unset, .unset, .unset, .unset, .unset] [(.int 7), (.int q1)])) _
      refine XS.iand X132.here hx rfl (hb hby at_59) rfl ?_
      show Steps _ _ _ (T132.setTop (mkF m 60 #[iv q1, rv b76, .unset, .unset, .unset, .unset, .unset] [(.int (q1 &&& (7 : Int32)))])) _
      rw [hi]
      show Steps _ _ _ (T132.setTop (mkF m 60 #[iv q1, rv b76, .unset, .unset, .unset, .unset, .unset] [(.int 6)])) _
      refine XS.istoreN X132.here hx rfl (hb hby at_60) rfl (l' := #[iv q1, rv b76, iv 6, .unset, .unset, .unset, .unset]) rfl ?_
      show Steps _ _ _ (T132.setTop (mkF m 61 #[iv q1, rv b76, iv 6, .unset, .unset, .unset, .unset] [])) _
      refine XS.aloadN X132.here hx rfl (hb hby at_61) rfl rfl ?_
      show Steps _ _ _ (T132.setTop (mkF m 62 #[iv q1, rv b76, iv 6, .unset, .unset, .unset, .unset] [(.ref b76)])) _
      refine XS.iloadN X132.here hx rfl (hb hby at_62) rfl ?_
      show Steps _ _ _ (T132.setTop (mkF m 63 #[iv q1, rv b76, iv 6, .unset, .unset, .unset, .unset] [(.int 6), (.ref b76)])) _
      exact q
    obtain ⟨cl179, Ar179, q179, S179, M179, H179, G179⟩ := B132
    have hin179 : ¬ ((6 : Int32) < 0 ∨ cl179.slots.size ≤ ((6 : Int32)).toNatClampNeg) := inb_of S179 ⟨by decide, by decide⟩
    have hat179 : cl179.slots[((6 : Int32)).toNatClampNeg]? = some (.ref a_EXIT_GATE) := Has.at H179 hin179 rfl
    have k_180 : Go p.tables e below (s₁.setTop (entryFrame m #[(.int q1)] maxLocals)) (T132.setTop (mkF m 66 #[iv q1, rv b76, iv 6, rv a_EXIT_GATE, .unset, .unset, .unset] [(.ref a_EXIT_GATE)])) := fun t q => by
      refine k_178 t ?_
      refine X132.aaload hx (j := (6 : Int32)) (v := (.ref a_EXIT_GATE)) (by rw [e132]; exact Ar179.1) (State.isArrayOf_alike hZ.alike Ar179.2.1) rfl Ar179.2.2 hin179 hat179 (g := (mkF m 63 #[iv q1, rv b76, iv 6, .unset, .unset, .unset, .unset] [(.int 6), (.ref b76)])) rfl rfl (hb hby at_63) _ ?_
      show Steps _ _ _ (T132.setTop (mkF m 64 #[iv q1, rv b76, iv 6, .unset, .unset, .unset, .unset] [(.ref a_EXIT_GATE)])) _
      refine XS.astoreN X132.here hx rfl (hb hby at_64) rfl rfl (l' := #[iv q1, rv b76, iv 6, rv a_EXIT_GATE, .unset, .unset, .unset]) rfl ?_
      show Steps _ _ _ (T132.setTop (mkF m 65 #[iv q1, rv b76, iv 6, rv a_EXIT_GATE, .unset, .unset, .unset] [])) _
      refine XS.aloadN X132.here hx rfl (hb hby at_65) rfl rfl ?_
      show Steps _ _ _ (T132.setTop (mkF m 66 #[iv q1, rv b76, iv 6, rv a_EXIT_GATE, .unset, .unset, .unset] [(.ref a_EXIT_GATE)])) _
      exact q
    obtain ⟨cq181, kq181, q181a, q181b, q181c⟩ := isOf hZ e132 (Exa.ext O_133.2 E_EXIT_GATE)
    obtain ⟨_, _, ⟨T181, L181, k181, n181⟩, -, X181, ⟨Lc181, hQ181, l181, y181, z181⟩, st181⟩ := X132.virtualBack hx (y := y_0) (z := y_0) hown (mvT hZ (hw _ (wd 20 rfl))) (mvT hZ (hw _ (wd 21 rfl))) (notFace_of_selects (args := #[]) (mvT hZ (hw _ (wd 23 rfl)))) (mvT hZ (hw _ (wd 23 rfl))) (mvT hZ (hw _ (wd 22 rfl))) (by decide) (backOf (W := 0) (cd_6 l Z a0 hw [] a_WALKWAY a_STAIRS a_TRAVELATOR a_ESCALATOR a_ELEVATOR a_FARE_GATE a_EXIT_GATE a_CONTROL G  h132 n0 O_133 ) hZ (hw _ (wd 24 rfl)) (hw _ (wd 3 rfl)) (by decide) (by decide)) q181a q181c (g := (mkF m 66 #[iv q1, rv b76, iv 6, rv a_EXIT_GATE, .unset, .unset, .unset] [(.ref a_EXIT_GATE)])) rfl (by rw [hml]; rfl) (Steps.refl _) (argsL := []) (rest := []) (lenOf pd_0 rfl) rfl (by show 2 * 0 + _ ≤ _; exact Nat.le_of_eq rfl) (hb hby at_66) (fun _ _ => ⟨rfl, e132, (by decide : 1 + 0 ≤ _), (by decide : 8 + 0 ≤ _)⟩)
    dsimp only [Pt.U, Pt.locs, Pt.cells, Pt.slots] at X181 l181 y181 z181 st181 hQ181
    subst l181 y181 z181
    obtain ⟨rfl, N181q, e181⟩ := hQ181
    have N181 := Fr.app N132 N181q
    have k_182 : Go p.tables e below (s₁.setTop (entryFrame m #[(.int q1)] maxLocals)) (T181.setTop (mkF m 113 #[iv q1, rv b76, iv 6, rv a_EXIT_GATE, iv 7, iv 0, iv 0] [(.ref a_EXIT_GATE)])) := fun t q => by
      refine k_180 t ?_
      refine st181.trans ?_
      show Steps _ _ _ (T181.setTop (mkF m 69 #[iv q1, rv b76, iv 6, rv a_EXIT_GATE, .unset, .unset, .unset] [(.int 7)])) _
      refine XS.istore X181.here hx rfl (hb hby at_69) rfl (l' := #[iv q1, rv b76, iv 6, rv a_EXIT_GATE, iv 7, .unset, .unset]) rfl ?_
      show Steps _ _ _ (T181.setTop (mkF m 71 #[iv q1, rv b76, iv 6, rv a_EXIT_GATE, iv 7, .unset, .unset] [])) _
      refine XS.iload X181.here hx rfl (hb hby at_71) rfl ?_
      show Steps _ _ _ (T181.setTop (mkF m 73 #[iv q1, rv b76, iv 6, rv a_EXIT_GATE, iv 7, .unset, .unset] [(.int 7)])) _
      refine XS.iconst X181.here hx rfl (hb hby at_73) ?_
      show Steps _ _ _ (T181.setTop (mkF m 74 #[iv q1, rv b76, iv 6, rv a_EXIT_GATE, iv 7, .unset, .unset] [(.int 3), (.int 7)])) _
      refine XS.icmpNo X181.here hx rfl (hb hby at_74) rfl (by decide) ?_
      show Steps _ _ _ (T181.setTop (mkF m 77 #[iv q1, rv b76, iv 6, rv a_EXIT_GATE, iv 7, .unset, .unset] [])) _
      refine XS.iload X181.here hx rfl (hb hby at_77) rfl ?_
      show Steps _ _ _ (T181.setTop (mkF m 79 #[iv q1, rv b76, iv 6, rv a_EXIT_GATE, iv 7, .unset, .unset] [(.int 7)])) _
      refine XS.iconst X181.here hx rfl (hb hby at_79) ?_
      show Steps _ _ _ (T181.setTop (mkF m 80 #[iv q1, rv b76, iv 6, rv a_EXIT_GATE, iv 7, .unset, .unset] [(.int 5), (.int 7)])) _
      refine XS.icmpYes X181.here hx rfl (pc0 := 80) (pc' := 87) rfl (hb hby at_80) rfl (by decide) (by decide) (by decide) ?_
      show Steps _ _ _ (T181.setTop (mkF m 87 #[iv q1, rv b76, iv 6, rv a_EXIT_GATE, iv 7, .unset, .unset] [])) _
      refine XS.iconst X181.here hx rfl (hb hby at_87) ?_
      show Steps _ _ _ (T181.setTop (mkF m 88 #[iv q1, rv b76, iv 6, rv a_EXIT_GATE, iv 7, .unset, .unset] [(.int 0)])) _
      refine XS.istore X181.here hx rfl (hb hby at_88) rfl (l' := #[iv q1, rv b76, iv 6, rv a_EXIT_GATE, iv 7, iv 0, .unset]) rfl ?_
      show Steps _ _ _ (T181.setTop (mkF m 90 #[iv q1, rv b76, iv 6, rv a_EXIT_GATE, iv 7, iv 0, .unset] [])) _
      refine XS.iloadN X181.here hx rfl (hb hby at_90) rfl ?_
      show Steps _ _ _ (T181.setTop (mkF m 91 #[iv q1, rv b76, iv 6, rv a_EXIT_GATE, iv 7, iv 0, .unset] [(.int 6)])) _
      refine XS.iconst X181.here hx rfl (hb hby at_91) ?_
      show Steps _ _ _ (T181.setTop (mkF m 92 #[iv q1, rv b76, iv 6, rv a_EXIT_GATE, iv 7, iv 0, .unset] [(.int 2), (.int 6)])) _
      refine XS.icmpNo X181.here hx rfl (hb hby at_92) rfl (by decide) ?_
      show Steps _ _ _ (T181.setTop (mkF m 95 #[iv q1, rv b76, iv 6, rv a_EXIT_GATE, iv 7, iv 0, .unset] [])) _
      refine XS.iloadN X181.here hx rfl (hb hby at_95) rfl ?_
      show Steps _ _ _ (T181.setTop (mkF m 96 #[iv q1, rv b76, iv 6, rv a_EXIT_GATE, iv 7, iv 0, .unset] [(.int 6)])) _
      refine XS.iconst X181.here hx rfl (hb hby at_96) ?_
      show Steps _ _ _ (T181.setTop (mkF m 97 #[iv q1, rv b76, iv 6, rv a_EXIT_GATE, iv 7, iv 0, .unset] [(.int 3), (.int 6)])) _
      refine XS.icmpNo X181.here hx rfl (hb hby at_97) rfl (by decide) ?_
      show Steps _ _ _ (T181.setTop (mkF m 100 #[iv q1, rv b76, iv 6, rv a_EXIT_GATE, iv 7, iv 0, .unset] [])) _
      refine XS.iloadN X181.here hx rfl (hb hby at_100) rfl ?_
      show Steps _ _ _ (T181.setTop (mkF m 101 #[iv q1, rv b76, iv 6, rv a_EXIT_GATE, iv 7, iv 0, .unset] [(.int 6)])) _
      refine XS.iconst X181.here hx rfl (hb hby at_101) ?_
      show Steps _ _ _ (T181.setTop (mkF m 102 #[iv q1, rv b76, iv 6, rv a_EXIT_GATE, iv 7, iv 0, .unset] [(.int 4), (.int 6)])) _
      refine XS.icmpYes X181.here hx rfl (pc0 := 102) (pc' := 109) rfl (hb hby at_102) rfl (by decide) (by decide) (by decide) ?_
      show Steps _ _ _ (T181.setTop (mkF m 109 #[iv q1, rv b76, iv 6, rv a_EXIT_GATE, iv 7, iv 0, .unset] [])) _
      refine XS.iconst X181.here hx rfl (hb hby at_109) ?_
      show Steps _ _ _ (T181.setTop (mkF m 110 #[iv q1, rv b76, iv 6, rv a_EXIT_GATE, iv 7, iv 0, .unset] [(.int 0)])) _
      refine XS.istore X181.here hx rfl (hb hby at_110) rfl (l' := #[iv q1, rv b76, iv 6, rv a_EXIT_GATE, iv 7, iv 0, iv 0]) rfl ?_
      show Steps _ _ _ (T181.setTop (mkF m 112 #[iv q1, rv b76, iv 6, rv a_EXIT_GATE, iv 7, iv 0, iv 0] [])) _
      refine XS.aloadN X181.here hx rfl (hb hby at_112) rfl rfl ?_
      show Steps _ _ _ (T181.setTop (mkF m 113 #[iv q1, rv b76, iv 6, rv a_EXIT_GATE, iv 7, iv 0, iv 0] [(.ref a_EXIT_GATE)])) _
      exact q
    obtain ⟨cq183, kq183, q183a, q183b, q183c⟩ := isOf hZ e181 (Exa.ext O_133.2 E_EXIT_GATE)
    obtain ⟨_, _, ⟨T183, L183, k183, n183⟩, -, X183, ⟨Lc183, hQ183, l183, y183, z183⟩, st183⟩ := X181.virtualBack hx (y := y_1) (z := y_1) hown (mvT hZ (hw _ (wd 27 rfl))) (mvT hZ (hw _ (wd 28 rfl))) (notFace_of_selects (args := #[]) (mvT hZ (hw _ (wd 30 rfl)))) (mvT hZ (hw _ (wd 30 rfl))) (mvT hZ (hw _ (wd 29 rfl))) (by decide) (backOf (W := 0) (me_6 l Z a0 hw [] a_WALKWAY a_STAIRS a_TRAVELATOR a_ESCALATOR a_ELEVATOR a_FARE_GATE a_EXIT_GATE a_CONTROL G  h132 n0 O_133 ) hZ (hw _ (wd 31 rfl)) (hw _ (wd 3 rfl)) (by decide) (by decide)) q183a q183c (g := (mkF m 113 #[iv q1, rv b76, iv 6, rv a_EXIT_GATE, iv 7, iv 0, iv 0] [(.ref a_EXIT_GATE)])) rfl (by rw [hml]; rfl) (Steps.refl _) (argsL := []) (rest := []) (lenOf pd_1 rfl) rfl (by show 2 * 0 + _ ≤ _; exact Nat.le_of_eq rfl) (hb hby at_113) (fun _ _ => ⟨rfl, e181, (by decide : 1 + 0 ≤ _), (by decide : 8 + 0 ≤ _)⟩)
    dsimp only [Pt.U, Pt.locs, Pt.cells, Pt.slots] at X183 l183 y183 z183 st183 hQ183
    subst l183 y183 z183
    obtain ⟨rfl, N183q, e183⟩ := hQ183
    have N183 := Fr.app N181 N183q
    have k_184 : Go p.tables e below (s₁.setTop (entryFrame m #[(.int q1)] maxLocals)) (T183.setTop (mkF m 133 #[iv q1, rv b76, iv 6, rv a_EXIT_GATE, iv 7, iv 0, iv 0] [(.int 1)])) := fun t q => by
      refine k_182 t ?_
      refine st183.trans ?_
      show Steps _ _ _ (T183.setTop (mkF m 116 #[iv q1, rv b76, iv 6, rv a_EXIT_GATE, iv 7, iv 0, iv 0] [(.int 0)])) _
      refine XS.iload X183.here hx rfl (hb hby at_116) rfl ?_
      show Steps _ _ _ (T183.setTop (mkF m 118 #[iv q1, rv b76, iv 6, rv a_EXIT_GATE, iv 7, iv 0, iv 0] [(.int 0), (.int 0)])) _
      refine XS.icmpNo X183.here hx rfl (hb hby at_118) rfl (by decide) ?_
      show Steps _ _ _ (T183.setTop (mkF m 121 #[iv q1, rv b76, iv 6, rv a_EXIT_GATE, iv 7, iv 0, iv 0] [])) _
      refine XS.iload X183.here hx rfl (hb hby at_121) rfl ?_
      show Steps _ _ _ (T183.setTop (mkF m 123 #[iv q1, rv b76, iv 6, rv a_EXIT_GATE, iv 7, iv 0, iv 0] [(.int 0)])) _
      refine XS.iload X183.here hx rfl (hb hby at_123) rfl ?_
      show Steps _ _ _ (T183.setTop (mkF m 125 #[iv q1, rv b76, iv 6, rv a_EXIT_GATE, iv 7, iv 0, iv 0] [(.int 0), (.int 0)])) _
      refine XS.icmpNo X183.here hx rfl (hb hby at_125) rfl (by decide) ?_
      show Steps _ _ _ (T183.setTop (mkF m 128 #[iv q1, rv b76, iv 6, rv a_EXIT_GATE, iv 7, iv 0, iv 0] [])) _
      refine XS.iconst X183.here hx rfl (hb hby at_128) ?_
      show Steps _ _ _ (T183.setTop (mkF m 129 #[iv q1, rv b76, iv 6, rv a_EXIT_GATE, iv 7, iv 0, iv 0] [(.int 1)])) _
      refine XS.goto X183.here hx rfl (pc0 := 129) (pc' := 133) rfl (hb hby at_129) (by decide) (by decide) ?_
      show Steps _ _ _ (T183.setTop (mkF m 133 #[iv q1, rv b76, iv 6, rv a_EXIT_GATE, iv 7, iv 0, iv 0] [(.int 1)])) _
      exact q
    obtain ⟨fs, hr, hrun, hended, hW, hsame⟩ := X183.leave (v := some (.int 1)) (fun h => by rw [Bd.returns] at h; cases h)
    refine ⟨_, _, k_184 _ ?_, hrun, hended, _, _, rfl, ?_, ⟨_, rfl⟩, hW, hsame.mono (by decide) (by decide)⟩
    · exact retN X183 hx (t := .boolean) Bd.returns (by simp) (hb hby at_133) hr
    · show Q0 n0 _ T183.heap _
      rw [e183]
      exact ⟨rfl, N183⟩
  · skip
    have k_185 : Go p.tables e below (s₁.setTop (entryFrame m #[(.int q1)] maxLocals)) (T132.setTop (mkF m 63 #[iv q1, rv b76, iv 7, .unset, .unset, .unset, .unset] [(.int 7), (.ref b76)])) := fun t q => by
      refine k_135 t ?_
      refine XS.astoreN X132.here hx rfl (hb hby at_55) rfl rfl (l' := #[iv q1, rv b76, .unset, .unset, .unset, .unset, .unset]) rfl ?_
      show Steps _ _ _ (T132.setTop (mkF m 56 #[iv q1, rv b76, .unset, .unset, .unset, .unset, .unset] [])) _
      refine XS.iloadN X132.here hx rfl (hb hby at_56) rfl ?_
      show Steps _ _ _ (T132.setTop (mkF m 57 #[iv q1, rv b76, .unset, .unset, .unset, .unset, .unset] [(.int q1)])) _
      refine XS.bipush X132.here hx rfl (hb hby at_57) ?_
      show Steps _ _ _ (T132.setTop (mkF m 59 #[iv q1, rv b76, .unset, .unset, .unset, .unset, .unset] [(.int 7), (.int q1)])) _
      refine XS.iand X132.here hx rfl (hb hby at_59) rfl ?_
      show Steps _ _ _ (T132.setTop (mkF m 60 #[iv q1, rv b76, .unset, .unset, .unset, .unset, .unset] [(.int (q1 &&& (7 : Int32)))])) _
      rw [hi]
      show Steps _ _ _ (T132.setTop (mkF m 60 #[iv q1, rv b76, .unset, .unset, .unset, .unset, .unset] [(.int 7)])) _
      refine XS.istoreN X132.here hx rfl (hb hby at_60) rfl (l' := #[iv q1, rv b76, iv 7, .unset, .unset, .unset, .unset]) rfl ?_
      show Steps _ _ _ (T132.setTop (mkF m 61 #[iv q1, rv b76, iv 7, .unset, .unset, .unset, .unset] [])) _
      refine XS.aloadN X132.here hx rfl (hb hby at_61) rfl rfl ?_
      show Steps _ _ _ (T132.setTop (mkF m 62 #[iv q1, rv b76, iv 7, .unset, .unset, .unset, .unset] [(.ref b76)])) _
      refine XS.iloadN X132.here hx rfl (hb hby at_62) rfl ?_
      show Steps _ _ _ (T132.setTop (mkF m 63 #[iv q1, rv b76, iv 7, .unset, .unset, .unset, .unset] [(.int 7), (.ref b76)])) _
      exact q
    obtain ⟨cl186, Ar186, q186, S186, M186, H186, G186⟩ := B132
    have hin186 : ¬ ((7 : Int32) < 0 ∨ cl186.slots.size ≤ ((7 : Int32)).toNatClampNeg) := inb_of S186 ⟨by decide, by decide⟩
    have hat186 : cl186.slots[((7 : Int32)).toNatClampNeg]? = some (.ref a_CONTROL) := Has.at H186 hin186 rfl
    have k_187 : Go p.tables e below (s₁.setTop (entryFrame m #[(.int q1)] maxLocals)) (T132.setTop (mkF m 66 #[iv q1, rv b76, iv 7, rv a_CONTROL, .unset, .unset, .unset] [(.ref a_CONTROL)])) := fun t q => by
      refine k_185 t ?_
      refine X132.aaload hx (j := (7 : Int32)) (v := (.ref a_CONTROL)) (by rw [e132]; exact Ar186.1) (State.isArrayOf_alike hZ.alike Ar186.2.1) rfl Ar186.2.2 hin186 hat186 (g := (mkF m 63 #[iv q1, rv b76, iv 7, .unset, .unset, .unset, .unset] [(.int 7), (.ref b76)])) rfl rfl (hb hby at_63) _ ?_
      show Steps _ _ _ (T132.setTop (mkF m 64 #[iv q1, rv b76, iv 7, .unset, .unset, .unset, .unset] [(.ref a_CONTROL)])) _
      refine XS.astoreN X132.here hx rfl (hb hby at_64) rfl rfl (l' := #[iv q1, rv b76, iv 7, rv a_CONTROL, .unset, .unset, .unset]) rfl ?_
      show Steps _ _ _ (T132.setTop (mkF m 65 #[iv q1, rv b76, iv 7, rv a_CONTROL, .unset, .unset, .unset] [])) _
      refine XS.aloadN X132.here hx rfl (hb hby at_65) rfl rfl ?_
      show Steps _ _ _ (T132.setTop (mkF m 66 #[iv q1, rv b76, iv 7, rv a_CONTROL, .unset, .unset, .unset] [(.ref a_CONTROL)])) _
      exact q
    obtain ⟨cq188, kq188, q188a, q188b, q188c⟩ := isOf hZ e132 (Exa.ext O_133.2 E_CONTROL)
    obtain ⟨_, _, ⟨T188, L188, k188, n188⟩, -, X188, ⟨Lc188, hQ188, l188, y188, z188⟩, st188⟩ := X132.virtualBack hx (y := y_0) (z := y_0) hown (mvT hZ (hw _ (wd 20 rfl))) (mvT hZ (hw _ (wd 21 rfl))) (notFace_of_selects (args := #[]) (mvT hZ (hw _ (wd 23 rfl)))) (mvT hZ (hw _ (wd 23 rfl))) (mvT hZ (hw _ (wd 22 rfl))) (by decide) (backOf (W := 0) (cd_7 l Z a0 hw [] a_WALKWAY a_STAIRS a_TRAVELATOR a_ESCALATOR a_ELEVATOR a_FARE_GATE a_EXIT_GATE a_CONTROL G  h132 n0 O_133 ) hZ (hw _ (wd 24 rfl)) (hw _ (wd 3 rfl)) (by decide) (by decide)) q188a q188c (g := (mkF m 66 #[iv q1, rv b76, iv 7, rv a_CONTROL, .unset, .unset, .unset] [(.ref a_CONTROL)])) rfl (by rw [hml]; rfl) (Steps.refl _) (argsL := []) (rest := []) (lenOf pd_0 rfl) rfl (by show 2 * 0 + _ ≤ _; exact Nat.le_of_eq rfl) (hb hby at_66) (fun _ _ => ⟨rfl, e132, (by decide : 1 + 0 ≤ _), (by decide : 8 + 0 ≤ _)⟩)
    dsimp only [Pt.U, Pt.locs, Pt.cells, Pt.slots] at X188 l188 y188 z188 st188 hQ188
    subst l188 y188 z188
    obtain ⟨rfl, N188q, e188⟩ := hQ188
    have N188 := Fr.app N132 N188q
    have k_189 : Go p.tables e below (s₁.setTop (entryFrame m #[(.int q1)] maxLocals)) (T188.setTop (mkF m 113 #[iv q1, rv b76, iv 7, rv a_CONTROL, iv 8, iv 0, iv 0] [(.ref a_CONTROL)])) := fun t q => by
      refine k_187 t ?_
      refine st188.trans ?_
      show Steps _ _ _ (T188.setTop (mkF m 69 #[iv q1, rv b76, iv 7, rv a_CONTROL, .unset, .unset, .unset] [(.int 8)])) _
      refine XS.istore X188.here hx rfl (hb hby at_69) rfl (l' := #[iv q1, rv b76, iv 7, rv a_CONTROL, iv 8, .unset, .unset]) rfl ?_
      show Steps _ _ _ (T188.setTop (mkF m 71 #[iv q1, rv b76, iv 7, rv a_CONTROL, iv 8, .unset, .unset] [])) _
      refine XS.iload X188.here hx rfl (hb hby at_71) rfl ?_
      show Steps _ _ _ (T188.setTop (mkF m 73 #[iv q1, rv b76, iv 7, rv a_CONTROL, iv 8, .unset, .unset] [(.int 8)])) _
      refine XS.iconst X188.here hx rfl (hb hby at_73) ?_
      show Steps _ _ _ (T188.setTop (mkF m 74 #[iv q1, rv b76, iv 7, rv a_CONTROL, iv 8, .unset, .unset] [(.int 3), (.int 8)])) _
      refine XS.icmpNo X188.here hx rfl (hb hby at_74) rfl (by decide) ?_
      show Steps _ _ _ (T188.setTop (mkF m 77 #[iv q1, rv b76, iv 7, rv a_CONTROL, iv 8, .unset, .unset] [])) _
      refine XS.iload X188.here hx rfl (hb hby at_77) rfl ?_
      show Steps _ _ _ (T188.setTop (mkF m 79 #[iv q1, rv b76, iv 7, rv a_CONTROL, iv 8, .unset, .unset] [(.int 8)])) _
      refine XS.iconst X188.here hx rfl (hb hby at_79) ?_
      show Steps _ _ _ (T188.setTop (mkF m 80 #[iv q1, rv b76, iv 7, rv a_CONTROL, iv 8, .unset, .unset] [(.int 5), (.int 8)])) _
      refine XS.icmpYes X188.here hx rfl (pc0 := 80) (pc' := 87) rfl (hb hby at_80) rfl (by decide) (by decide) (by decide) ?_
      show Steps _ _ _ (T188.setTop (mkF m 87 #[iv q1, rv b76, iv 7, rv a_CONTROL, iv 8, .unset, .unset] [])) _
      refine XS.iconst X188.here hx rfl (hb hby at_87) ?_
      show Steps _ _ _ (T188.setTop (mkF m 88 #[iv q1, rv b76, iv 7, rv a_CONTROL, iv 8, .unset, .unset] [(.int 0)])) _
      refine XS.istore X188.here hx rfl (hb hby at_88) rfl (l' := #[iv q1, rv b76, iv 7, rv a_CONTROL, iv 8, iv 0, .unset]) rfl ?_
      show Steps _ _ _ (T188.setTop (mkF m 90 #[iv q1, rv b76, iv 7, rv a_CONTROL, iv 8, iv 0, .unset] [])) _
      refine XS.iloadN X188.here hx rfl (hb hby at_90) rfl ?_
      show Steps _ _ _ (T188.setTop (mkF m 91 #[iv q1, rv b76, iv 7, rv a_CONTROL, iv 8, iv 0, .unset] [(.int 7)])) _
      refine XS.iconst X188.here hx rfl (hb hby at_91) ?_
      show Steps _ _ _ (T188.setTop (mkF m 92 #[iv q1, rv b76, iv 7, rv a_CONTROL, iv 8, iv 0, .unset] [(.int 2), (.int 7)])) _
      refine XS.icmpNo X188.here hx rfl (hb hby at_92) rfl (by decide) ?_
      show Steps _ _ _ (T188.setTop (mkF m 95 #[iv q1, rv b76, iv 7, rv a_CONTROL, iv 8, iv 0, .unset] [])) _
      refine XS.iloadN X188.here hx rfl (hb hby at_95) rfl ?_
      show Steps _ _ _ (T188.setTop (mkF m 96 #[iv q1, rv b76, iv 7, rv a_CONTROL, iv 8, iv 0, .unset] [(.int 7)])) _
      refine XS.iconst X188.here hx rfl (hb hby at_96) ?_
      show Steps _ _ _ (T188.setTop (mkF m 97 #[iv q1, rv b76, iv 7, rv a_CONTROL, iv 8, iv 0, .unset] [(.int 3), (.int 7)])) _
      refine XS.icmpNo X188.here hx rfl (hb hby at_97) rfl (by decide) ?_
      show Steps _ _ _ (T188.setTop (mkF m 100 #[iv q1, rv b76, iv 7, rv a_CONTROL, iv 8, iv 0, .unset] [])) _
      refine XS.iloadN X188.here hx rfl (hb hby at_100) rfl ?_
      show Steps _ _ _ (T188.setTop (mkF m 101 #[iv q1, rv b76, iv 7, rv a_CONTROL, iv 8, iv 0, .unset] [(.int 7)])) _
      refine XS.iconst X188.here hx rfl (hb hby at_101) ?_
      show Steps _ _ _ (T188.setTop (mkF m 102 #[iv q1, rv b76, iv 7, rv a_CONTROL, iv 8, iv 0, .unset] [(.int 4), (.int 7)])) _
      refine XS.icmpYes X188.here hx rfl (pc0 := 102) (pc' := 109) rfl (hb hby at_102) rfl (by decide) (by decide) (by decide) ?_
      show Steps _ _ _ (T188.setTop (mkF m 109 #[iv q1, rv b76, iv 7, rv a_CONTROL, iv 8, iv 0, .unset] [])) _
      refine XS.iconst X188.here hx rfl (hb hby at_109) ?_
      show Steps _ _ _ (T188.setTop (mkF m 110 #[iv q1, rv b76, iv 7, rv a_CONTROL, iv 8, iv 0, .unset] [(.int 0)])) _
      refine XS.istore X188.here hx rfl (hb hby at_110) rfl (l' := #[iv q1, rv b76, iv 7, rv a_CONTROL, iv 8, iv 0, iv 0]) rfl ?_
      show Steps _ _ _ (T188.setTop (mkF m 112 #[iv q1, rv b76, iv 7, rv a_CONTROL, iv 8, iv 0, iv 0] [])) _
      refine XS.aloadN X188.here hx rfl (hb hby at_112) rfl rfl ?_
      show Steps _ _ _ (T188.setTop (mkF m 113 #[iv q1, rv b76, iv 7, rv a_CONTROL, iv 8, iv 0, iv 0] [(.ref a_CONTROL)])) _
      exact q
    obtain ⟨cq190, kq190, q190a, q190b, q190c⟩ := isOf hZ e188 (Exa.ext O_133.2 E_CONTROL)
    obtain ⟨_, _, ⟨T190, L190, k190, n190⟩, -, X190, ⟨Lc190, hQ190, l190, y190, z190⟩, st190⟩ := X188.virtualBack hx (y := y_1) (z := y_1) hown (mvT hZ (hw _ (wd 27 rfl))) (mvT hZ (hw _ (wd 28 rfl))) (notFace_of_selects (args := #[]) (mvT hZ (hw _ (wd 30 rfl)))) (mvT hZ (hw _ (wd 30 rfl))) (mvT hZ (hw _ (wd 29 rfl))) (by decide) (backOf (W := 0) (me_7 l Z a0 hw [] a_WALKWAY a_STAIRS a_TRAVELATOR a_ESCALATOR a_ELEVATOR a_FARE_GATE a_EXIT_GATE a_CONTROL G  h132 n0 O_133 ) hZ (hw _ (wd 31 rfl)) (hw _ (wd 3 rfl)) (by decide) (by decide)) q190a q190c (g := (mkF m 113 #[iv q1, rv b76, iv 7, rv a_CONTROL, iv 8, iv 0, iv 0] [(.ref a_CONTROL)])) rfl (by rw [hml]; rfl) (Steps.refl _) (argsL := []) (rest := []) (lenOf pd_1 rfl) rfl (by show 2 * 0 + _ ≤ _; exact Nat.le_of_eq rfl) (hb hby at_113) (fun _ _ => ⟨rfl, e188, (by decide : 1 + 0 ≤ _), (by decide : 8 + 0 ≤ _)⟩)
    dsimp only [Pt.U, Pt.locs, Pt.cells, Pt.slots] at X190 l190 y190 z190 st190 hQ190
    subst l190 y190 z190
    obtain ⟨rfl, N190q, e190⟩ := hQ190
    have N190 := Fr.app N188 N190q
    have k_191 : Go p.tables e below (s₁.setTop (entryFrame m #[(.int q1)] maxLocals)) (T190.setTop (mkF m 133 #[iv q1, rv b76, iv 7, rv a_CONTROL, iv 8, iv 0, iv 0] [(.int 1)])) := fun t q => by
      refine k_189 t ?_
      refine st190.trans ?_
      show Steps _ _ _ (T190.setTop (mkF m 116 #[iv q1, rv b76, iv 7, rv a_CONTROL, iv 8, iv 0, iv 0] [(.int 0)])) _
      refine XS.iload X190.here hx rfl (hb hby at_116) rfl ?_
      show Steps _ _ _ (T190.setTop (mkF m 118 #[iv q1, rv b76, iv 7, rv a_CONTROL, iv 8, iv 0, iv 0] [(.int 0), (.int 0)])) _
      refine XS.icmpNo X190.here hx rfl (hb hby at_118) rfl (by decide) ?_
      show Steps _ _ _ (T190.setTop (mkF m 121 #[iv q1, rv b76, iv 7, rv a_CONTROL, iv 8, iv 0, iv 0] [])) _
      refine XS.iload X190.here hx rfl (hb hby at_121) rfl ?_
      show Steps _ _ _ (T190.setTop (mkF m 123 #[iv q1, rv b76, iv 7, rv a_CONTROL, iv 8, iv 0, iv 0] [(.int 0)])) _
      refine XS.iload X190.here hx rfl (hb hby at_123) rfl ?_
      show Steps _ _ _ (T190.setTop (mkF m 125 #[iv q1, rv b76, iv 7, rv a_CONTROL, iv 8, iv 0, iv 0] [(.int 0), (.int 0)])) _
      refine XS.icmpNo X190.here hx rfl (hb hby at_125) rfl (by decide) ?_
      show Steps _ _ _ (T190.setTop (mkF m 128 #[iv q1, rv b76, iv 7, rv a_CONTROL, iv 8, iv 0, iv 0] [])) _
      refine XS.iconst X190.here hx rfl (hb hby at_128) ?_
      show Steps _ _ _ (T190.setTop (mkF m 129 #[iv q1, rv b76, iv 7, rv a_CONTROL, iv 8, iv 0, iv 0] [(.int 1)])) _
      refine XS.goto X190.here hx rfl (pc0 := 129) (pc' := 133) rfl (hb hby at_129) (by decide) (by decide) ?_
      show Steps _ _ _ (T190.setTop (mkF m 133 #[iv q1, rv b76, iv 7, rv a_CONTROL, iv 8, iv 0, iv 0] [(.int 1)])) _
      exact q
    obtain ⟨fs, hr, hrun, hended, hW, hsame⟩ := X190.leave (v := some (.int 1)) (fun h => by rw [Bd.returns] at h; cases h)
    refine ⟨_, _, k_191 _ ?_, hrun, hended, _, _, rfl, ?_, ⟨_, rfl⟩, hW, hsame.mono (by decide) (by decide)⟩
    · exact retN X190 hx (t := .boolean) Bd.returns (by simp) (hb hby at_133) hr
    · show Q0 n0 _ T190.heap _
      rw [e190]
      exact ⟨rfl, N190⟩
set_option maxRecDepth 65536 in
set_option maxHeartbeats 40000000 in
theorem comes_1 {Post : Tables → Env → Array Value → State → Outcome → State → Prop} (hpost : ∀ tb e args s v u, (limb_1_1.after args s (.returned v) u = true ∧ limb_1_2.after args s (.returned v) u = true ∧ True) → FrameEnd s (.returned v) u (Jvm.fieldLocs frame_1_writes args s ++ Jvm.arrayLocs frame_1_arrays args s ++ Jvm.staticLocs frame_1_statics s) 16 128 → Post tb e args s (.returned v) u) :
    ArmFor flags0 classFile x code maxLocals ret World_1 tables_1 room_1 Calls_1 rest_1 Pre_1 Post := by
  intro l hfl _ _ p e ha hc hk s m args below hf hA hF happ hP
  obtain ⟨hcalls, hrest, hpre⟩ := hP
  obtain ⟨-, -, -, hnamed, -, -, -, hat⟩ := (Spec.applies_iff hf).mp happ
  obtain ⟨hg, hn⟩ := and_e (Cond.before_iff.mp (show (Jvm.Cond.and given_1 narrow_1).before args s = true from hpre))
  obtain ⟨g0, c0⟩ := and_e hg
  obtain ⟨w0, rfl⟩ : ∃ w0 : Value, args = #[w0] := by
    have hs : args.size = 1 := by simpa [Cond.value, given_1] using g0
    obtain ⟨L⟩ := args
    match L, hs with
    | [w0], _ => exact ⟨w0, rfl⟩
  have hw := fun d (hd : d ∈ tables_1) => atoms_spec (ws := Jvm.Cond.code x code maxLocals ret :: tables_1) hat d (List.mem_cons_of_mem _ hd)
  obtain ⟨i0, ei0⟩ := is_v c0
  obtain rfl : w0 = (.int i0) := Option.some.inj ei0
  obtain ⟨n0, r0⟩ := and_e hn
  obtain ⟨n1, r1⟩ := and_e r0
  obtain ⟨n2, r2⟩ := and_e r1
  obtain ⟨n3, r3⟩ := and_e r2
  obtain ⟨n4, r4⟩ := and_e r3
  obtain ⟨n5, r5⟩ := and_e r4
  obtain ⟨n6, r6⟩ := and_e r5
  obtain ⟨n7, r7⟩ := and_e r6
  obtain ⟨n8, r8⟩ := and_e r7
  obtain ⟨n9, r9⟩ := and_e r8
  obtain ⟨n10, r10⟩ := and_e r9
  obtain ⟨n11, r11⟩ := and_e r10
  obtain ⟨n12, r12⟩ := and_e r11
  obtain ⟨n13, r13⟩ := and_e r12
  obtain ⟨n14, r14⟩ := and_e r13
  obtain ⟨n15, r15⟩ := and_e r14
  obtain ⟨n16, r16⟩ := and_e r15
  obtain ⟨n17, r17⟩ := and_e r16
  obtain ⟨n18, r18⟩ := and_e r17
  obtain ⟨n19, r19⟩ := and_e r18
  obtain ⟨n20, r20⟩ := and_e r19
  obtain ⟨n21, r21⟩ := and_e r20
  obtain ⟨n22, r22⟩ := and_e r21
  obtain ⟨a_WALKWAY, v_WALKWAY⟩ := exa_v n0
  have E_WALKWAY := Exa.start v_WALKWAY n0
  have S_WALKWAY := Sta.start v_WALKWAY (Or.inr ⟨(hw _ (wd 3 rfl)), (hw _ (wd 4 rfl))⟩)
  obtain ⟨a_STAIRS, v_STAIRS⟩ := exa_v n1
  have E_STAIRS := Exa.start v_STAIRS n1
  have S_STAIRS := Sta.start v_STAIRS (Or.inr ⟨(hw _ (wd 3 rfl)), (hw _ (wd 7 rfl))⟩)
  obtain ⟨a_TRAVELATOR, v_TRAVELATOR⟩ := exa_v n2
  have E_TRAVELATOR := Exa.start v_TRAVELATOR n2
  have S_TRAVELATOR := Sta.start v_TRAVELATOR (Or.inr ⟨(hw _ (wd 3 rfl)), (hw _ (wd 9 rfl))⟩)
  obtain ⟨a_ESCALATOR, v_ESCALATOR⟩ := exa_v n3
  have E_ESCALATOR := Exa.start v_ESCALATOR n3
  have S_ESCALATOR := Sta.start v_ESCALATOR (Or.inr ⟨(hw _ (wd 3 rfl)), (hw _ (wd 11 rfl))⟩)
  obtain ⟨a_ELEVATOR, v_ELEVATOR⟩ := exa_v n4
  have E_ELEVATOR := Exa.start v_ELEVATOR n4
  have S_ELEVATOR := Sta.start v_ELEVATOR (Or.inr ⟨(hw _ (wd 3 rfl)), (hw _ (wd 13 rfl))⟩)
  obtain ⟨a_FARE_GATE, v_FARE_GATE⟩ := exa_v n5
  have E_FARE_GATE := Exa.start v_FARE_GATE n5
  have S_FARE_GATE := Sta.start v_FARE_GATE (Or.inr ⟨(hw _ (wd 3 rfl)), (hw _ (wd 15 rfl))⟩)
  obtain ⟨a_EXIT_GATE, v_EXIT_GATE⟩ := exa_v n6
  have E_EXIT_GATE := Exa.start v_EXIT_GATE n6
  have S_EXIT_GATE := Sta.start v_EXIT_GATE (Or.inr ⟨(hw _ (wd 3 rfl)), (hw _ (wd 17 rfl))⟩)
  obtain ⟨a_CONTROL, v_CONTROL⟩ := exa_v n7
  have E_CONTROL := Exa.start v_CONTROL n7
  have S_CONTROL := Sta.start v_CONTROL (Or.inr ⟨(hw _ (wd 3 rfl)), (hw _ (wd 19 rfl))⟩)
  have R_WALKWAY_code := own_fld v_WALKWAY n8
  have R_WALKWAY_ordinal := own_fld v_WALKWAY n9
  have R_TRAVELATOR_ordinal := own_fld v_TRAVELATOR n10
  have R_ESCALATOR_ordinal := own_fld v_ESCALATOR n11
  have R_ELEVATOR_ordinal := own_fld v_ELEVATOR n12
  have R_ESCALATOR_code := own_fld v_ESCALATOR n13
  have R_EXIT_GATE_code := own_fld v_EXIT_GATE n14
  have R_EXIT_GATE_ordinal := own_fld v_EXIT_GATE n15
  have R_CONTROL_code := own_fld v_CONTROL n16
  have R_CONTROL_ordinal := own_fld v_CONTROL n17
  have R_TRAVELATOR_code := own_fld v_TRAVELATOR n18
  have R_STAIRS_code := own_fld v_STAIRS n19
  have R_STAIRS_ordinal := own_fld v_STAIRS n20
  have R_ELEVATOR_code := own_fld v_ELEVATOR n21
  have R_FARE_GATE_code := own_fld v_FARE_GATE n22
  have R_FARE_GATE_ordinal := own_fld v_FARE_GATE r22
  have G : Own s a_WALKWAY a_STAIRS a_TRAVELATOR a_ESCALATOR a_ELEVATOR a_FARE_GATE a_EXIT_GATE a_CONTROL := ⟨S_WALKWAY, E_WALKWAY, S_STAIRS, E_STAIRS, S_TRAVELATOR, E_TRAVELATOR, S_ESCALATOR, E_ESCALATOR, S_ELEVATOR, E_ELEVATOR, S_FARE_GATE, E_FARE_GATE, S_EXIT_GATE, E_EXIT_GATE, S_CONTROL, E_CONTROL, R_WALKWAY_code, R_WALKWAY_ordinal, R_TRAVELATOR_ordinal, R_ESCALATOR_ordinal, R_ELEVATOR_ordinal, R_ESCALATOR_code, R_EXIT_GATE_code, R_EXIT_GATE_ordinal, R_CONTROL_code, R_CONTROL_ordinal, R_TRAVELATOR_code, R_STAIRS_code, R_STAIRS_ordinal, R_ELEVATOR_code, R_FARE_GATE_code, R_FARE_GATE_ordinal⟩
  obtain ⟨n, o, h1, h2, h3, _, L, rfl, ⟨rfl, N⟩, hq⟩ := rm0 l s _ hw tables_1 a_WALKWAY a_STAIRS a_TRAVELATOR a_ESCALATOR a_ELEVATOR a_FARE_GATE a_EXIT_GATE a_CONTROL G i0 s.heap s.heap.size (Old.start s) p e ha hc hk s m _ below hf ((Spec.applies_iff_loose hf).mp happ).1 ⟨rfl, State.Warmed39.refl s, rfl⟩ trivial
  refine ⟨n, _, h1, h2, h3, hpost _ _ _ _ _ _ ⟨Cond.after_iff.mpr rfl, Cond.after_iff.mpr (eq_i res_at (Term.int_eval (1)) rfl), trivial⟩ ⟨hq.1, hq.2.1, (hq.2.2.sift fun y hy => Or.inr (N y hy)).mono (by decide) (by decide)⟩⟩
theorem main_1_1 : Claimed_1_1 := comes_1 fun _ _ _ _ _ _ h hF => ⟨h.1, hF⟩
theorem main_1_2 : Claimed_1_2 := comes_1 fun _ _ _ _ _ _ h hF => ⟨h.2.1, hF⟩
end Jvm.Pilot.@@N@@
namespace Jvm.Pilot.@@N@@
open Jvm Jvm.ClassFile Sem Op Lib Jvm.Free Jvm.Stand Jvm.Pilot.@@N@@.Jvm.D
/-! MADE BY PROGRAM (witnessworld.py) out of the Statement's table words and the real class files: 14 classes; the members and pool entries that the words name. The judged class is class 1, her method 1. -/
namespace start1
open Jvm.ClassFile
def u (s : String) : CpInfo := .utf8 (stringToUtf16 s)
/-- a pool by its gaps: so many unusable entries, then the entry; so many at the end -/
def gap : Nat → List CpInfo → List CpInfo
  | 0, r => r
  | n + 1, r => .unusable :: gap n r
def poolList (es : List (Nat × CpInfo)) (last : Nat) : List CpInfo := es.foldr (fun e r => gap e.1 (e.2 :: r)) (gap last [])
def pool (es : List (Nat × CpInfo)) (last : Nat) : Array CpInfo := ⟨poolList es last⟩
def fileOf (pool : Array CpInfo) (this : Nat) (attrs : Array Attribute := #[]) (ms : Array MethodInfo := #[]) (fl : Nat := 33) (sup : Nat := 0) (ifs : Array Nat := #[]) (fds : Array FieldInfo := #[]) : ClassFile where
  minorVersion := 0
  majorVersion := 65
  constantPool := pool
  accessFlags := fl
  thisClass := this
  superClass := sup
  interfaces := ifs
  fields := fds
  methods := ms
  attributes := attrs
def plain (name : String) (sup : Option ClassId) : Class where
  name := name
  kind := .ordinary
  loader := none
  accessFlags := 33
  super := sup
  interfaces := #[]
  cf := none
  fields := #[]
  methods := #[]
  instanceTypes := #[]
  staticTypes := #[]
  resolved := #[]
  callSites := []
  init := .initialized
  statics := none
  mirror := none

def pool0 : Array CpInfo := pool [(5, u "<init>"), (0, u "()V"), (1, .class_ 10), (1, u "java/lang/Object")] 113

def k0m0 : Method := { name := "<init>", desc := "()V", sig := { parameters := [], returnType := none }, accessFlags := 1, code := none }
/-- java/lang/Object -/
def k0 : Class := { plain "java/lang/Object" none with
  accessFlags := 33
  interfaces := #[]
  cf := some (fileOf pool0 8 #[] #[{ accessFlags := 1, nameIndex := 5, descriptorIndex := 6, attributes := #[] }] 33 0 #[] #[])
  fields := #[]
  methods := #[k0m0]
  instanceTypes := #[]
  staticTypes := #[]
  resolved := Array.replicate 124 none
  statics := none }

def pool1 : Array CpInfo := pool [(2, .class_ 4), (1, u "java/lang/Object"), (0, u "<init>"), (0, u "()V"), (0, .class_ 8), (0, u "com/example/stationgraph/stationgraph/station/PathwayMode"), (0, .fieldref 7 10), (0, .nameAndType 11 12), (0, u "WALKWAY"), (0, u "Lcom/example/stationgraph/stationgraph/station/PathwayMode;"), (0, .fieldref 7 14), (0, .nameAndType 15 12), (0, u "STAIRS"), (0, .fieldref 7 17), (0, .nameAndType 18 12), (0, u "TRAVELATOR"), (0, .fieldref 7 20), (0, .nameAndType 21 12), (0, u "ESCALATOR"), (0, .fieldref 7 23), (0, .nameAndType 24 12), (0, u "ELEVATOR"), (0, .fieldref 7 26), (0, .nameAndType 27 12), (0, u "FARE_GATE"), (0, .fieldref 7 29), (0, .nameAndType 30 12), (0, u "EXIT_GATE"), (0, .fieldref 7 32), (0, .nameAndType 33 12), (0, u "CONTROL"), (0, .methodref 7 35), (0, .nameAndType 36 37), (0, u "code"), (0, u "()I"), (0, .methodref 7 39), (0, .nameAndType 40 41), (0, u "mechanical"), (0, u "()Z"), (0, .class_ 43), (0, u "com/example/stationgraph/stationgraph/station/PathwayModeMechanicalPinLaw"), (2, u "law"), (0, u "(I)Z")] 5

def k1m0 : Method := { name := "<init>", desc := "()V", sig := { parameters := [], returnType := none }, accessFlags := 2, code := none }
def k1c1 : Code := { maxStack := 4, maxLocals := 7, code := code, exceptionTable := #[], attributes := #[] }
def k1m1 : Method := { name := "law", desc := "(I)Z", sig := { parameters := [.int], returnType := some .boolean }, accessFlags := 9, code := some k1c1 }
/-- com/example/stationgraph/stationgraph/station/PathwayModeMechanicalPinLaw -/
def k1 : Class := { plain "com/example/stationgraph/stationgraph/station/PathwayModeMechanicalPinLaw" (some 0) with
  accessFlags := 49
  interfaces := #[]
  cf := some (fileOf pool1 42 #[] #[{ accessFlags := 2, nameIndex := 5, descriptorIndex := 6, attributes := #[] }, { accessFlags := 9, nameIndex := 46, descriptorIndex := 47, attributes := #[] }] 49 2 #[] #[])
  fields := #[]
  methods := #[k1m0, k1m1]
  instanceTypes := #[]
  staticTypes := #[]
  resolved := Array.replicate 53 none
  statics := none }

def pool2 : Array CpInfo := pool [(1, .class_ 2), (0, u "java/lang/constant/Constable"), (0, .class_ 4), (0, u "java/lang/Object")] 6

/-- java/lang/constant/Constable -/
def k2 : Class := { plain "java/lang/constant/Constable" (some 0) with
  accessFlags := 1537
  interfaces := #[]
  cf := some (fileOf pool2 1 #[] #[] 1537 3 #[] #[])
  fields := #[]
  methods := #[]
  instanceTypes := #[]
  staticTypes := #[]
  resolved := Array.replicate 11 none
  statics := none }

def pool3 : Array CpInfo := pool [(1, .class_ 2), (0, u "java/lang/Comparable"), (0, .class_ 4), (0, u "java/lang/Object")] 7

/-- java/lang/Comparable -/
def k3 : Class := { plain "java/lang/Comparable" (some 0) with
  accessFlags := 1537
  interfaces := #[]
  cf := some (fileOf pool3 1 #[] #[] 1537 3 #[] #[])
  fields := #[]
  methods := #[]
  instanceTypes := #[]
  staticTypes := #[]
  resolved := Array.replicate 12 none
  statics := none }

def pool4 : Array CpInfo := pool [(1, .class_ 2), (0, u "java/io/Serializable"), (0, .class_ 4), (0, u "java/lang/Object")] 2

/-- java/io/Serializable -/
def k4 : Class := { plain "java/io/Serializable" (some 0) with
  accessFlags := 1537
  interfaces := #[]
  cf := some (fileOf pool4 1 #[] #[] 1537 3 #[] #[])
  fields := #[]
  methods := #[]
  instanceTypes := #[]
  staticTypes := #[]
  resolved := Array.replicate 7 none
  statics := none }

def pool5 : Array CpInfo := pool [(2, .class_ 4), (1, u "java/lang/Enum"), (0, u "name"), (0, u "Ljava/lang/String;"), (2, u "ordinal"), (0, u "I"), (1, .class_ 14), (1, u "java/lang/Object"), (4, u "hash"), (86, .class_ 108), (1, u "java/lang/Enum$EnumDesc"), (2, .class_ 112), (0, u "java/lang/constant/Constable"), (0, .class_ 114), (0, u "java/lang/Comparable"), (0, .class_ 116), (0, u "java/io/Serializable")] 87

/-- java/lang/Enum -/
def k5 : Class := { plain "java/lang/Enum" (some 0) with
  accessFlags := 1057
  interfaces := #[2, 3, 4]
  cf := some (fileOf pool5 2 #[.nestMembers #[106]] #[] 1057 12 #[111, 113, 115] #[{ accessFlags := 18, nameIndex := 5, descriptorIndex := 6, attributes := #[] }, { accessFlags := 18, nameIndex := 9, descriptorIndex := 10, attributes := #[] }, { accessFlags := 2, nameIndex := 19, descriptorIndex := 10, attributes := #[] }])
  fields := #[{ name := "name", type := (.object "java/lang/String"), accessFlags := 18, slot := 0, constantValue := 0 }, { name := "ordinal", type := .int, accessFlags := 18, slot := 1, constantValue := 0 }, { name := "hash", type := .int, accessFlags := 2, slot := 2, constantValue := 0 }]
  methods := #[]
  instanceTypes := #[(.object "java/lang/String"), .int, .int]
  staticTypes := #[]
  resolved := Array.replicate 204 none
  statics := none }

def pool6 : Array CpInfo := pool [(8, .class_ 10), (1, u "com/example/stationgraph/stationgraph/station/Coded"), (26, .class_ 38), (0, u "java/lang/Object")] 30

/-- com/example/stationgraph/stationgraph/station/Coded -/
def k6 : Class := { plain "com/example/stationgraph/stationgraph/station/Coded" (some 0) with
  accessFlags := 1537
  interfaces := #[]
  cf := some (fileOf pool6 8 #[] #[] 1537 37 #[] #[])
  fields := #[]
  methods := #[]
  instanceTypes := #[]
  staticTypes := #[]
  resolved := Array.replicate 69 none
  statics := none }

def pool7 : Array CpInfo := pool [(1, .class_ 2), (0, u "com/example/stationgraph/stationgraph/station/PathwayMode"), (2, u "WALKWAY"), (0, u "Lcom/example/stationgraph/stationgraph/station/PathwayMode;"), (2, u "STAIRS"), (0, .fieldref 1 11), (0, .nameAndType 12 6), (0, u "TRAVELATOR"), (0, .fieldref 1 14), (0, .nameAndType 15 6), (0, u "ESCALATOR"), (0, .fieldref 1 17), (0, .nameAndType 18 6), (0, u "ELEVATOR"), (2, u "FARE_GATE"), (2, u "EXIT_GATE"), (2, u "CONTROL"), (2, u "$VALUES"), (0, u "[Lcom/example/stationgraph/stationgraph/station/PathwayMode;"), (6, .class_ 40), (1, u "java/lang/Enum"), (6, .fieldref 1 48), (0, .nameAndType 49 50), (0, u "code"), (0, u "I"), (18, u "VALUES"), (5, .class_ 77), (1, u "com/example/stationgraph/stationgraph/station/Coded"), (26, u "()I"), (1, u "()Z"), (1, u "mechanical")] 7

def k7c0 : Code := { maxStack := 1, maxLocals := 1, code := prog_65_method_4_code, exceptionTable := #[], attributes := #[] }
def k7m0 : Method := { name := "code", desc := "()I", sig := { parameters := [], returnType := some .int }, accessFlags := 1, code := some k7c0 }
def k7c1 : Code := { maxStack := 2, maxLocals := 1, code := prog_65_method_6_code, exceptionTable := #[], attributes := #[] }
def k7m1 : Method := { name := "mechanical", desc := "()Z", sig := { parameters := [], returnType := some .boolean }, accessFlags := 1, code := some k7c1 }
/-- com/example/stationgraph/stationgraph/station/PathwayMode -/
def k7 : Class := { plain "com/example/stationgraph/stationgraph/station/PathwayMode" (some 5) with
  accessFlags := 16433
  interfaces := #[6]
  cf := some (fileOf pool7 1 #[] #[{ accessFlags := 1, nameIndex := 49, descriptorIndex := 104, attributes := #[] }, { accessFlags := 1, nameIndex := 108, descriptorIndex := 106, attributes := #[] }] 16433 38 #[75] #[{ accessFlags := 16409, nameIndex := 5, descriptorIndex := 6, attributes := #[] }, { accessFlags := 16409, nameIndex := 9, descriptorIndex := 6, attributes := #[] }, { accessFlags := 16409, nameIndex := 12, descriptorIndex := 6, attributes := #[] }, { accessFlags := 16409, nameIndex := 15, descriptorIndex := 6, attributes := #[] }, { accessFlags := 16409, nameIndex := 18, descriptorIndex := 6, attributes := #[] }, { accessFlags := 16409, nameIndex := 21, descriptorIndex := 6, attributes := #[] }, { accessFlags := 16409, nameIndex := 24, descriptorIndex := 6, attributes := #[] }, { accessFlags := 16409, nameIndex := 27, descriptorIndex := 6, attributes := #[] }, { accessFlags := 26, nameIndex := 69, descriptorIndex := 31, attributes := #[] }, { accessFlags := 18, nameIndex := 49, descriptorIndex := 50, attributes := #[] }, { accessFlags := 4122, nameIndex := 30, descriptorIndex := 31, attributes := #[] }])
  fields := #[{ name := "WALKWAY", type := (.object "com/example/stationgraph/stationgraph/station/PathwayMode"), accessFlags := 16409, slot := 0, constantValue := 0 }, { name := "STAIRS", type := (.object "com/example/stationgraph/stationgraph/station/PathwayMode"), accessFlags := 16409, slot := 1, constantValue := 0 }, { name := "TRAVELATOR", type := (.object "com/example/stationgraph/stationgraph/station/PathwayMode"), accessFlags := 16409, slot := 2, constantValue := 0 }, { name := "ESCALATOR", type := (.object "com/example/stationgraph/stationgraph/station/PathwayMode"), accessFlags := 16409, slot := 3, constantValue := 0 }, { name := "ELEVATOR", type := (.object "com/example/stationgraph/stationgraph/station/PathwayMode"), accessFlags := 16409, slot := 4, constantValue := 0 }, { name := "FARE_GATE", type := (.object "com/example/stationgraph/stationgraph/station/PathwayMode"), accessFlags := 16409, slot := 5, constantValue := 0 }, { name := "EXIT_GATE", type := (.object "com/example/stationgraph/stationgraph/station/PathwayMode"), accessFlags := 16409, slot := 6, constantValue := 0 }, { name := "CONTROL", type := (.object "com/example/stationgraph/stationgraph/station/PathwayMode"), accessFlags := 16409, slot := 7, constantValue := 0 }, { name := "VALUES", type := (.array (.object "com/example/stationgraph/stationgraph/station/PathwayMode")), accessFlags := 26, slot := 8, constantValue := 0 }, { name := "code", type := .int, accessFlags := 18, slot := 3, constantValue := 0 }, { name := "$VALUES", type := (.array (.object "com/example/stationgraph/stationgraph/station/PathwayMode")), accessFlags := 4122, slot := 9, constantValue := 0 }]
  methods := #[k7m0, k7m1]
  instanceTypes := #[(.object "java/lang/String"), .int, .int, .int]
  staticTypes := #[(.object "com/example/stationgraph/stationgraph/station/PathwayMode"), (.object "com/example/stationgraph/stationgraph/station/PathwayMode"), (.object "com/example/stationgraph/stationgraph/station/PathwayMode"), (.object "com/example/stationgraph/stationgraph/station/PathwayMode"), (.object "com/example/stationgraph/stationgraph/station/PathwayMode"), (.object "com/example/stationgraph/stationgraph/station/PathwayMode"), (.object "com/example/stationgraph/stationgraph/station/PathwayMode"), (.object "com/example/stationgraph/stationgraph/station/PathwayMode"), (.array (.object "com/example/stationgraph/stationgraph/station/PathwayMode")), (.array (.object "com/example/stationgraph/stationgraph/station/PathwayMode"))]
  resolved := Array.replicate 116 none
  statics := some 0 }

def pool8 : Array CpInfo := pool [(1, u "java/lang/Cloneable"), (0, .class_ 1), (0, u "java/lang/Object"), (0, .class_ 3)] 3

/-- java/lang/Cloneable -/
def k8 : Class := { plain "java/lang/Cloneable" (some 0) with
  accessFlags := 1537
  interfaces := #[]
  cf := some (fileOf pool8 2 #[] #[] 1537 4 #[] #[])
  fields := #[]
  methods := #[]
  instanceTypes := #[]
  staticTypes := #[]
  resolved := Array.replicate 8 none
  statics := none }

/-- the primitive byte -/
def k9 : Class := { plain "byte" none with kind := .primitive 'B', accessFlags := 0x411 }
/-- [B -/
def k10 : Class := { plain "[B" (some 0) with kind := .array 9 .byte, interfaces := #[8, 4], accessFlags := 1041 }

/-- the primitive int -/
def k11 : Class := { plain "int" none with kind := .primitive 'I', accessFlags := 0x411 }
/-- [I -/
def k12 : Class := { plain "[I" (some 0) with kind := .array 11 .int, interfaces := #[8, 4], accessFlags := 1041 }

/-- [Lcom/example/stationgraph/stationgraph/station/PathwayMode; -/
def k13 : Class := { plain "[Lcom/example/stationgraph/stationgraph/station/PathwayMode;" (some 0) with kind := .array 7 (.object "com/example/stationgraph/stationgraph/station/PathwayMode"), interfaces := #[8, 4], accessFlags := 1041 }

def heap : Heap := #[{ cls := 7, slots := #[.ref 1, .ref 2, .ref 3, .ref 4, .ref 5, .ref 6, .ref 7, .ref 8, .null, .null], vm := .statics 7 },
  { cls := 7, slots := #[.null, .int 0, .int 0, .int 1], vm := .none },
  { cls := 7, slots := #[.null, .int 1, .int 0, .int 2], vm := .none },
  { cls := 7, slots := #[.null, .int 2, .int 0, .int 3], vm := .none },
  { cls := 7, slots := #[.null, .int 3, .int 0, .int 4], vm := .none },
  { cls := 7, slots := #[.null, .int 4, .int 0, .int 5], vm := .none },
  { cls := 7, slots := #[.null, .int 5, .int 0, .int 6], vm := .none },
  { cls := 7, slots := #[.null, .int 6, .int 0, .int 7], vm := .none },
  { cls := 7, slots := #[.null, .int 7, .int 0, .int 8], vm := .none }]
def classes : Array Class := #[k0, k1, k2, k3, k4, k5, k6, k7, k8, k9, k10, k11, k12, k13]
def interned : List (Array UInt16 × Addr) := []
def slotsUsed : Nat := 42
def theMethod : MethodId := ⟨1, 1⟩
def args0 : Array Value := #[.int 5]
def aboutOver (below : List Frame) : State where
  vm := { classes := classes, interned := interned.toArray }
  heap := heap
  slotsUsed := slotsUsed
  threads := #[{ frames := .invoking theMethod args0 :: below }]
def below0 : List Frame := [.native { method := ⟨0, 0⟩, args := #[] }]
def about1 : State := aboutOver below0
def p0 : Program := .bare "" "" ""
def e0 : Env := launch0.env 0 0 0
theorem w_frames : about1.frames = Frame.invoking theMethod args0 :: below0 := rfl
set_option maxRecDepth 65536 in
theorem w_args : argsFit about1.vm theMethod args0 = true := by decide +kernel
set_option maxRecDepth 65536 in
theorem w_heap : heapFits about1 = true := by decide +kernel
set_option maxRecDepth 65536 in
theorem w_runnable : about1.curStatus? = some .runnable := by decide +kernel
set_option maxRecDepth 65536 in
theorem w_alone : about1.alone = true := by decide +kernel
set_option maxRecDepth 65536 in
theorem w_named : about1.methodNamed? x = some theMethod := by decide +kernel
set_option maxRecDepth 65536 in
theorem w_hears : about1.hears theMethod below0 = true := by decide +kernel
set_option maxRecDepth 65536 in
theorem w_ripe : about1.ripe theMethod args0 below0 = true := by decide +kernel
theorem w_running : about1.status = .running := rfl
set_option maxRecDepth 65536 in
theorem w_room : about1.hasRoom e0.platform room_1 = true :=
  launch0.hasRoom_least _ room_1 (by decide +kernel) (by decide +kernel) (by decide +kernel) (by decide +kernel) (by decide +kernel) (by decide +kernel)
theorem allAtoms_all (ts : List Jvm.Cond) (a : Array Jvm.Value) (st : Jvm.State) : (allAtoms ts).before a st = ts.all (fun c => c.before a st) := by
  induction ts with
  | nil => rfl
  | cons c t ih =>
    show (Jvm.Cond.and c (allAtoms t)).before a st = _
    rw [Jvm.Cond.before_and, ih, List.all_cons]
def words1 : List Jvm.Cond := Jvm.Cond.code x code maxLocals ret :: tables_1
/-- a 'code' word, met by the world's own term for the bytes: nothing is compared byte by byte -/
theorem code_word {y : MethodName} {bytes : ByteArray} {mx : Nat} {rt : Option FieldType} {a : Array Value} {s : State} {m : MethodId} {meth : Method} {c : Code} (h1 : s.methodNamed? y = some m) (h2 : s.vm.method? m = some meth) (h3 : meth.code = some c) (h4 : c.code = bytes)
    (h5 : (c.maxLocals == mx && c.exceptionTable.isEmpty && decide (c.maxStack ≤ mostOperands) && decide (meth.sig.returnType = rt) && !meth.locks && decide (parseMethodDescriptor y.desc = some meth.sig)) = true) : (Jvm.Cond.code y bytes mx rt).before a s = true := by
  simp only [Bool.and_eq_true, beq_iff_eq, Bool.not_eq_true', decide_eq_true_eq] at h5
  obtain ⟨⟨⟨⟨⟨g1, g2⟩, g3⟩, g4⟩, g5⟩, g6⟩ := h5
  simp [Cond.before, Cond.holds, Cond.value, h1, h2, h3, h4, g1, g2, g3, g4, g5, g6]
def isCode : Jvm.Cond → Bool
  | .code _ _ _ _ => true
  | _ => false
theorem all_split {L : List Jvm.Cond} {P : Jvm.Cond → Bool} (h1 : L.all (fun c => isCode c || P c) = true) (h2 : ∀ c ∈ L.filter isCode, P c = true) : L.all P = true := by
  refine List.all_eq_true.mpr fun c hc => ?_
  have h := List.all_eq_true.mp h1 c hc
  rcases Bool.eq_false_or_eq_true (isCode c) with hi | hi
  · exact h2 c (List.mem_filter.mpr ⟨hc, hi⟩)
  · simpa [hi] using h
set_option maxRecDepth 65536 in
theorem w_c0 : (Jvm.Cond.code x code maxLocals ret).before args0 about1 = true := code_word (m := ⟨1, 1⟩) (meth := k1m1) (c := k1c1) (by decide +kernel) rfl rfl rfl (by decide +kernel)
set_option maxRecDepth 65536 in
theorem w_c1 : (Jvm.Cond.code ({ cls := "com/example/stationgraph/stationgraph/station/PathwayMode", name := "code", desc := "()I" } : Jvm.MethodName) prog_65_method_4_code (1 : Nat) (Option.some Jvm.ClassFile.FieldType.int)).before args0 about1 = true := code_word (m := ⟨7, 0⟩) (meth := k7m0) (c := k7c0) (by decide +kernel) rfl rfl rfl (by decide +kernel)
set_option maxRecDepth 65536 in
theorem w_c2 : (Jvm.Cond.code ({ cls := "com/example/stationgraph/stationgraph/station/PathwayMode", name := "mechanical", desc := "()Z" } : Jvm.MethodName) prog_65_method_6_code (1 : Nat) (Option.some Jvm.ClassFile.FieldType.boolean)).before args0 about1 = true := code_word (m := ⟨7, 1⟩) (meth := k7m1) (c := k7c1) (by decide +kernel) rfl rfl rfl (by decide +kernel)
def codes1 : List Jvm.Cond := [Jvm.Cond.code x code maxLocals ret, Jvm.Cond.code ({ cls := "com/example/stationgraph/stationgraph/station/PathwayMode", name := "code", desc := "()I" } : Jvm.MethodName) prog_65_method_4_code (1 : Nat) (Option.some Jvm.ClassFile.FieldType.int), Jvm.Cond.code ({ cls := "com/example/stationgraph/stationgraph/station/PathwayMode", name := "mechanical", desc := "()Z" } : Jvm.MethodName) prog_65_method_6_code (1 : Nat) (Option.some Jvm.ClassFile.FieldType.boolean)]
set_option maxRecDepth 65536 in
theorem codes_eq : words1.filter isCode = codes1 := rfl
theorem w_codes : ∀ c ∈ words1.filter isCode, c.before args0 about1 = true := by
  rw [codes_eq]
  intro c hc
  simp only [codes1, List.mem_cons, List.not_mem_nil, or_false] at hc
  rcases hc with rfl | rfl | rfl
  · exact w_c0
  · exact w_c1
  · exact w_c2
set_option maxRecDepth 65536 in
theorem w_t1 : (words1.take 24).all (fun c => isCode c || c.before args0 about1) = true := by decide +kernel
set_option maxRecDepth 65536 in
theorem w_t2 : (words1.drop 24).all (fun c => isCode c || c.before args0 about1) = true := by decide +kernel
theorem w_tables : (allAtoms (Jvm.Cond.code x code maxLocals ret :: tables_1)).before args0 about1 = true := by
  rw [allAtoms_all]
  show words1.all (fun c => c.before args0 about1) = true
  refine all_split ?_ w_codes
  rw [← List.take_append_drop 24 words1, List.all_append, w_t1, w_t2]
  rfl
set_option maxRecDepth 65536 in
theorem w_case : (Jvm.Cond.and given_1 narrow_1).before args0 about1 = true := by decide +kernel
theorem w_applies : (headSpec (Jvm.Cond.code x code maxLocals ret :: tables_1) room_1).applies x e0.platform about1 = true :=
  (Spec.applies_iff w_frames).mpr ⟨w_running, w_runnable, w_alone, w_named, w_hears, w_ripe, w_room, w_tables⟩
theorem atStart : AtStart classFile x code maxLocals ret World_1 tables_1 room_1 Calls_1 rest_1 Pre_1 launch0 p0 e0 about1 theMethod args0 below0 :=
  ⟨lists_1, trivial, launch0.admits_env _ _ _, launch0.least_env, fairChoices_fair.cas, fairChoices_fair.clock, w_frames, w_args, w_heap, w_applies, trivial, trivial, w_case⟩
end start1
theorem witness_1 : WitnessClaimed_1 := ⟨start1.p0, start1.e0, start1.about1, start1.theMethod, start1.args0, start1.below0, start1.atStart⟩
end Jvm.Pilot.@@N@@
