import JvmDerived
import JvmDerived.Pilot.@@N@@Statement
import JvmDerived.Pilot.@@N@@Code
set_option linter.unusedVariables false
set_option linter.unusedSimpArgs false
namespace Jvm.Pilot.@@N@@
open Jvm Jvm.ClassFile Sem Op Lib Jvm.Free Jvm.Stand Jvm.LawKit Jvm.RoadKit Bundle Jvm.Pilot.@@N@@.Jvm.D
theorem wd {d : Jvm.Cond} (i : Nat) (h : tables_1[i]? = some d) : d ∈ tables_1 := List.mem_of_getElem? h
def Go (tb : Tables) (e : Env) (below : List Frame) (S0 S : State) : Prop := ∀ t, Steps tb e below S t → Steps tb e below S0 t
theorem own_old_le {Z : State} {n0 : Nat} {h : Heap} (O : Old Z n0 h) : n0 ≤ h.size := O.1 ▸ O.2.1
theorem own_lcmp_self (x : Int64) : lcmpW x x = 0 := by rw [lcW, lc_eq]
theorem own_ne {Z : State} {h : Heap} {a b : Addr} {C n d : String} {i j : Int32} (F : Fld Z h a C n d (.int i)) (G : Fld Z h b C n d (.int j)) (q : i ≠ j) : a ≠ b := F.ne G fun e => q (Value.int.inj e)
theorem own_narrow_ref {v : Value} {n : String} (h : v.isRef = true) : narrow (.object n) v = v := by rcases ref_cases h with rfl | ⟨_, rfl⟩ <;> rfl
theorem own_fits_ref {v : Value} {n : String} (h : v.isRef = true) : fits (.object n) v = true := by rcases ref_cases h with rfl | ⟨_, rfl⟩ <;> rfl
theorem own_narrow_bool {z : Int32} (h : z = 0 ∨ z = 1) : narrow .boolean (.int z) = .int z := by rcases h with rfl | rfl <;> rfl
theorem own_fits_bool {z : Int32} (h : z = 0 ∨ z = 1) : fits .boolean (.int z) = true := by rcases h with rfl | rfl <;> rfl
def QV (w : Option Value) (h0 : Heap) (n0 : Nat) (v : Option Value) (h : Heap) (L : List Loc) : Prop := v = w ∧ Fr n0 L ∧ h = h0
def Q0 (n0 : Nat) (v : Option Value) (h : Heap) (L : List Loc) : Prop := v = some (.int (1 : Int32)) ∧ Fr n0 L
abbrev y_0 : MethodName := ⟨"com/example/befundweg/befundweg/XmlParser", "isCharacter", "(I)Z"⟩
abbrev y_1 : MethodName := ⟨"com/example/befundweg/befundweg/XmlParserIsCharacterPinLaw", "expected", "(I)Z"⟩
theorem d1_0 : decode prog_154_method_29_code 0 = .ok (.iload_n 0, 1) := by decide +kernel
theorem d1_1 : decode prog_154_method_29_code 1 = .ok (.bipush 9, 2) := by decide +kernel
theorem d1_3 : decode prog_154_method_29_code 3 = .ok (.if_icmp .eq 56, 3) := by decide +kernel
theorem d1_6 : decode prog_154_method_29_code 6 = .ok (.iload_n 0, 1) := by decide +kernel
theorem d1_7 : decode prog_154_method_29_code 7 = .ok (.bipush 10, 2) := by decide +kernel
theorem d1_9 : decode prog_154_method_29_code 9 = .ok (.if_icmp .eq 50, 3) := by decide +kernel
theorem d1_12 : decode prog_154_method_29_code 12 = .ok (.iload_n 0, 1) := by decide +kernel
theorem d1_13 : decode prog_154_method_29_code 13 = .ok (.bipush 13, 2) := by decide +kernel
theorem d1_15 : decode prog_154_method_29_code 15 = .ok (.if_icmp .eq 44, 3) := by decide +kernel
theorem d1_18 : decode prog_154_method_29_code 18 = .ok (.iload_n 0, 1) := by decide +kernel
theorem d1_19 : decode prog_154_method_29_code 19 = .ok (.bipush 32, 2) := by decide +kernel
theorem d1_21 : decode prog_154_method_29_code 21 = .ok (.if_icmp .lt 10, 3) := by decide +kernel
theorem d1_24 : decode prog_154_method_29_code 24 = .ok (.iload_n 0, 1) := by decide +kernel
theorem d1_25 : decode prog_154_method_29_code 25 = .ok (.ldc_w 614, 3) := by decide +kernel
theorem d1_28 : decode prog_154_method_29_code 28 = .ok (.if_icmp .le 31, 3) := by decide +kernel
theorem d1_31 : decode prog_154_method_29_code 31 = .ok (.iload_n 0, 1) := by decide +kernel
theorem d1_32 : decode prog_154_method_29_code 32 = .ok (.ldc_w 615, 3) := by decide +kernel
theorem d1_35 : decode prog_154_method_29_code 35 = .ok (.if_icmp .lt 10, 3) := by decide +kernel
theorem d1_38 : decode prog_154_method_29_code 38 = .ok (.iload_n 0, 1) := by decide +kernel
theorem d1_39 : decode prog_154_method_29_code 39 = .ok (.ldc_w 616, 3) := by decide +kernel
theorem d1_42 : decode prog_154_method_29_code 42 = .ok (.if_icmp .le 17, 3) := by decide +kernel
theorem d1_45 : decode prog_154_method_29_code 45 = .ok (.iload_n 0, 1) := by decide +kernel
theorem d1_46 : decode prog_154_method_29_code 46 = .ok (.ldc_w 617, 3) := by decide +kernel
theorem d1_49 : decode prog_154_method_29_code 49 = .ok (.if_icmp .lt 14, 3) := by decide +kernel
theorem d1_52 : decode prog_154_method_29_code 52 = .ok (.iload_n 0, 1) := by decide +kernel
theorem d1_53 : decode prog_154_method_29_code 53 = .ok (.ldc_w 618, 3) := by decide +kernel
theorem d1_56 : decode prog_154_method_29_code 56 = .ok (.if_icmp .gt 7, 3) := by decide +kernel
theorem d1_59 : decode prog_154_method_29_code 59 = .ok (.iconst 1, 1) := by decide +kernel
theorem d1_60 : decode prog_154_method_29_code 60 = .ok (.goto 4, 3) := by decide +kernel
theorem d1_63 : decode prog_154_method_29_code 63 = .ok (.iconst 0, 1) := by decide +kernel
theorem d1_64 : decode prog_154_method_29_code 64 = .ok (.ireturn, 1) := by decide +kernel
theorem d2_0 : decode method_3_code 0 = .ok (.iload_n 0, 1) := by decide +kernel
theorem d2_1 : decode method_3_code 1 = .ok (.ifCond .lt 13, 3) := by decide +kernel
theorem d2_4 : decode method_3_code 4 = .ok (.iload_n 0, 1) := by decide +kernel
theorem d2_5 : decode method_3_code 5 = .ok (.ldc 11, 2) := by decide +kernel
theorem d2_7 : decode method_3_code 7 = .ok (.if_icmp .gt 7, 3) := by decide +kernel
theorem d2_10 : decode method_3_code 10 = .ok (.iconst 1, 1) := by decide +kernel
theorem d2_11 : decode method_3_code 11 = .ok (.goto 4, 3) := by decide +kernel
theorem d2_14 : decode method_3_code 14 = .ok (.iconst 0, 1) := by decide +kernel
theorem d2_15 : decode method_3_code 15 = .ok (.istore_n 1, 1) := by decide +kernel
theorem d2_16 : decode method_3_code 16 = .ok (.iload_n 0, 1) := by decide +kernel
theorem d2_17 : decode method_3_code 17 = .ok (.ldc 12, 2) := by decide +kernel
theorem d2_19 : decode method_3_code 19 = .ok (.if_icmp .lt 13, 3) := by decide +kernel
theorem d2_22 : decode method_3_code 22 = .ok (.iload_n 0, 1) := by decide +kernel
theorem d2_23 : decode method_3_code 23 = .ok (.ldc 13, 2) := by decide +kernel
theorem d2_25 : decode method_3_code 25 = .ok (.if_icmp .gt 7, 3) := by decide +kernel
theorem d2_28 : decode method_3_code 28 = .ok (.iconst 1, 1) := by decide +kernel
theorem d2_29 : decode method_3_code 29 = .ok (.goto 4, 3) := by decide +kernel
theorem d2_32 : decode method_3_code 32 = .ok (.iconst 0, 1) := by decide +kernel
theorem d2_33 : decode method_3_code 33 = .ok (.istore_n 2, 1) := by decide +kernel
theorem d2_34 : decode method_3_code 34 = .ok (.iload_n 0, 1) := by decide +kernel
theorem d2_35 : decode method_3_code 35 = .ok (.ldc 14, 2) := by decide +kernel
theorem d2_37 : decode method_3_code 37 = .ok (.if_icmp .eq 9, 3) := by decide +kernel
theorem d2_40 : decode method_3_code 40 = .ok (.iload_n 0, 1) := by decide +kernel
theorem d2_41 : decode method_3_code 41 = .ok (.ldc 27, 2) := by decide +kernel
theorem d2_43 : decode method_3_code 43 = .ok (.if_icmp .ne 7, 3) := by decide +kernel
theorem d2_46 : decode method_3_code 46 = .ok (.iconst 1, 1) := by decide +kernel
theorem d2_47 : decode method_3_code 47 = .ok (.goto 4, 3) := by decide +kernel
theorem d2_50 : decode method_3_code 50 = .ok (.iconst 0, 1) := by decide +kernel
theorem d2_51 : decode method_3_code 51 = .ok (.istore_n 3, 1) := by decide +kernel
theorem d2_52 : decode method_3_code 52 = .ok (.iload_n 0, 1) := by decide +kernel
theorem d2_53 : decode method_3_code 53 = .ok (.bipush 32, 2) := by decide +kernel
theorem d2_55 : decode method_3_code 55 = .ok (.if_icmp .ge 21, 3) := by decide +kernel
theorem d2_58 : decode method_3_code 58 = .ok (.iload_n 0, 1) := by decide +kernel
theorem d2_59 : decode method_3_code 59 = .ok (.bipush 9, 2) := by decide +kernel
theorem d2_61 : decode method_3_code 61 = .ok (.if_icmp .eq 15, 3) := by decide +kernel
theorem d2_64 : decode method_3_code 64 = .ok (.iload_n 0, 1) := by decide +kernel
theorem d2_65 : decode method_3_code 65 = .ok (.bipush 10, 2) := by decide +kernel
theorem d2_67 : decode method_3_code 67 = .ok (.if_icmp .eq 9, 3) := by decide +kernel
theorem d2_70 : decode method_3_code 70 = .ok (.iload_n 0, 1) := by decide +kernel
theorem d2_71 : decode method_3_code 71 = .ok (.bipush 13, 2) := by decide +kernel
theorem d2_73 : decode method_3_code 73 = .ok (.if_icmp .ne 7, 3) := by decide +kernel
theorem d2_76 : decode method_3_code 76 = .ok (.iconst 1, 1) := by decide +kernel
theorem d2_77 : decode method_3_code 77 = .ok (.goto 4, 3) := by decide +kernel
theorem d2_80 : decode method_3_code 80 = .ok (.iconst 0, 1) := by decide +kernel
theorem d2_81 : decode method_3_code 81 = .ok (.istore 4, 2) := by decide +kernel
theorem d2_83 : decode method_3_code 83 = .ok (.iload_n 1, 1) := by decide +kernel
theorem d2_84 : decode method_3_code 84 = .ok (.ifCond .eq 20, 3) := by decide +kernel
theorem d2_87 : decode method_3_code 87 = .ok (.iload_n 2, 1) := by decide +kernel
theorem d2_88 : decode method_3_code 88 = .ok (.ifCond .ne 16, 3) := by decide +kernel
theorem d2_91 : decode method_3_code 91 = .ok (.iload_n 3, 1) := by decide +kernel
theorem d2_92 : decode method_3_code 92 = .ok (.ifCond .ne 12, 3) := by decide +kernel
theorem d2_95 : decode method_3_code 95 = .ok (.iload 4, 2) := by decide +kernel
theorem d2_97 : decode method_3_code 97 = .ok (.ifCond .eq 7, 3) := by decide +kernel
theorem d2_100 : decode method_3_code 100 = .ok (.iconst 1, 1) := by decide +kernel
theorem d2_101 : decode method_3_code 101 = .ok (.goto 4, 3) := by decide +kernel
theorem d2_104 : decode method_3_code 104 = .ok (.iconst 0, 1) := by decide +kernel
theorem d2_105 : decode method_3_code 105 = .ok (.ireturn, 1) := by decide +kernel
theorem pn_0 : plainName "com/example/befundweg/befundweg/XmlParser" = true := by first | (simp [plainName, overriddenIn]; done) | decide +kernel
theorem pn_1 : plainName "com/example/befundweg/befundweg/XmlParserIsCharacterPinLaw" = true := by first | (simp [plainName, overriddenIn]; done) | decide +kernel
theorem pd_0 : parseMethodDescriptor "(I)Z" = some ⟨[.int], some .boolean⟩ := by decide +kernel
def isI : Value → Bool
  | .int _ => true
  | _ => false
theorem own_getD : ∀ (vs : List Value) (d : Value) (i : Nat), (d :: vs).all isI = true → ∃ w, vs.getD i d = .int w
  | [], d, _, h => by cases d <;> simp [isI] at h ⊢
  | v :: r, d, 0, h => by cases v <;> simp [isI] at h ⊢
  | v :: r, d, i + 1, h => by
    have := own_getD r d i (by simp only [List.all_cons, Bool.and_eq_true] at h ⊢; exact ⟨h.1, h.2.2⟩)
    simpa using this
theorem own_in16 (x : Int32) : ¬ (x &&& 15) < 0 ∧ (x &&& 15) < 16 := by
  have h := c_and x 15 (by decide)
  have e : (15 : Int32).toInt = 15 := by decide
  have e0 : (0 : Int32).toInt = 0 := by decide
  have e16 : (16 : Int32).toInt = 16 := by decide
  rw [Int32.lt_iff_toInt_lt, Int32.lt_iff_toInt_lt]
  omega
theorem own_lt {x y : Int32} {k : Int} (h : x.toInt ≤ k) (e : k < y.toInt) : x < y := by rw [Int32.lt_iff_toInt_lt]; omega
theorem own_nlt {x y : Int32} {k : Int} (h : k ≤ x.toInt) (e : y.toInt ≤ k) : ¬ x < y := by rw [Int32.lt_iff_toInt_lt]; omega
theorem own_gt {x y : Int32} {k : Int} (h : k ≤ x.toInt) (e : y.toInt < k) : y < x := by rw [Int32.lt_iff_toInt_lt]; omega
theorem own_ngt {x y : Int32} {k : Int} (h : x.toInt ≤ k) (e : k ≤ y.toInt) : ¬ y < x := by rw [Int32.lt_iff_toInt_lt]; omega
theorem own_eq {x y : Int32} {k : Int} (h : k ≤ x.toInt) (h' : x.toInt ≤ k) (e : k = y.toInt) : x = y := Int32.toInt_inj.mp (by omega)
theorem own_neA {x y : Int32} {k : Int} (h : x.toInt ≤ k) (e : k < y.toInt) : ¬ x = y := fun q => by subst q; omega
theorem own_neB {x y : Int32} {k : Int} (h : k ≤ x.toInt) (e : y.toInt < k) : ¬ x = y := fun q => by subst q; omega
theorem own_reg (p : Int32) : ((-2147483648 : Int) ≤ p.toInt ∧ p.toInt ≤ -1) ∨ ((0 : Int) ≤ p.toInt ∧ p.toInt ≤ 8) ∨ ((9 : Int) ≤ p.toInt ∧ p.toInt ≤ 9) ∨ ((10 : Int) ≤ p.toInt ∧ p.toInt ≤ 10) ∨ ((11 : Int) ≤ p.toInt ∧ p.toInt ≤ 12) ∨ ((13 : Int) ≤ p.toInt ∧ p.toInt ≤ 13) ∨ ((14 : Int) ≤ p.toInt ∧ p.toInt ≤ 31) ∨ ((32 : Int) ≤ p.toInt ∧ p.toInt ≤ 55295) ∨ ((55296 : Int) ≤ p.toInt ∧ p.toInt ≤ 57343) ∨ ((57344 : Int) ≤ p.toInt ∧ p.toInt ≤ 65533) ∨ ((65534 : Int) ≤ p.toInt ∧ p.toInt ≤ 65534) ∨ ((65535 : Int) ≤ p.toInt ∧ p.toInt ≤ 65535) ∨ ((65536 : Int) ≤ p.toInt ∧ p.toInt ≤ 1114111) ∨ ((1114112 : Int) ≤ p.toInt ∧ p.toInt ≤ 2147483647) := by
  have h1 := p.toInt_lt
  have h2 := p.le_toInt
  omega
set_option maxRecDepth 65536 in
set_option maxHeartbeats 40000000 in
theorem ic_0 (l : Launch) (Z : State) (a0 : Array Value) (hw : ∀ d ∈ tables_1, d.before a0 Z = true) (ws : List Jvm.Cond) (q1 : Int32) (h0 : Heap) (n0 : Nat) (O0 : Old Z n0 h0) (hlo : (-2147483648 : Int) ≤ q1.toInt) (hhi : q1.toInt ≤ -1) :
    MetFree l y_0 (head1 (Jvm.Cond.code y_0 prog_154_method_29_code 1 (some .boolean) :: ws) ({ frames := 0, cells := 0, slots := 0, locals := 0 } : Room)) (fun a U => a = #[(.int q1)] ∧ Z.Warmed39 U.vm ∧ U.heap = h0) (fun _ _ _ _ _ => True) (fun _ U o U' => ∃ v L, o = .returned v ∧ QV (some (.int 0)) h0 n0 v U'.heap L ∧ FrameEnd U o U' L ({ frames := 0, cells := 0, slots := 0, locals := 0 } : Room).cells ({ frames := 0, cells := 0, slots := 0, locals := 0 } : Room).slots) := by
  refine MetFree.of_bodySF (plainFor_of_name pn_0) hisR ?_
  intro p e s m args below meth c s₁ Bd hml0 hP hK
  obtain ⟨rfl, hZ, hh⟩ := hP
  have hx := Bd.exec
  have hby := Bd.bytes
  have hml : c.maxLocals = 1 := hml0
  have hown : s.vm.findClass "com/example/befundweg/befundweg/XmlParser" = some m.cls := findClass_of_methodNamed Bd.named
  have hnm := (name_of_methodNamed Bd.named Bd.method).1
  have X0 : Stand p l e ({ frames := 0, cells := 0, slots := 0, locals := 0 } : Room) s m #[(.int q1)] below meth c s₁ [] 0 0 := Stand.of_body Bd
  have e0 : s₁.heap = h0 := by rw [← hh, Bd.state]; rfl
  have N0 := Fr.nil n0
  have K0 := Keep.refl h0 []
  have k0 : Go p.tables e below (s₁.setTop (entryFrame m #[(.int q1)] 1)) (s₁.setTop (mkF m 0 #[iv q1] [])) := fun t k => castTop (by first | rfl | (simp [entryFrame, mkF, argsToLocals, Value.category]; done)) k
  have k_1 : Go p.tables e below (s₁.setTop (entryFrame m #[(.int q1)] 1)) (s₁.setTop (mkF m 64 #[iv q1] [(.int 0)])) := fun t q => by
    refine k0 t ?_
    refine XS.iloadN X0.here hx rfl (hb hby d1_0) rfl ?_
    show Steps _ _ _ (s₁.setTop (mkF m 1 #[iv q1] [(.int q1)])) _
    refine XS.bipush X0.here hx rfl (hb hby d1_1) ?_
    show Steps _ _ _ (s₁.setTop (mkF m 3 #[iv q1] [(.int 9), (.int q1)])) _
    refine XS.icmpNo X0.here hx rfl (hb hby d1_3) rfl (feq (own_neA hhi (by decide))).1 ?_
    show Steps _ _ _ (s₁.setTop (mkF m 6 #[iv q1] [])) _
    refine XS.iloadN X0.here hx rfl (hb hby d1_6) rfl ?_
    show Steps _ _ _ (s₁.setTop (mkF m 7 #[iv q1] [(.int q1)])) _
    refine XS.bipush X0.here hx rfl (hb hby d1_7) ?_
    show Steps _ _ _ (s₁.setTop (mkF m 9 #[iv q1] [(.int 10), (.int q1)])) _
    refine XS.icmpNo X0.here hx rfl (hb hby d1_9) rfl (feq (own_neA hhi (by decide))).1 ?_
    show Steps _ _ _ (s₁.setTop (mkF m 12 #[iv q1] [])) _
    refine XS.iloadN X0.here hx rfl (hb hby d1_12) rfl ?_
    show Steps _ _ _ (s₁.setTop (mkF m 13 #[iv q1] [(.int q1)])) _
    refine XS.bipush X0.here hx rfl (hb hby d1_13) ?_
    show Steps _ _ _ (s₁.setTop (mkF m 15 #[iv q1] [(.int 13), (.int q1)])) _
    refine XS.icmpNo X0.here hx rfl (hb hby d1_15) rfl (feq (own_neA hhi (by decide))).1 ?_
    show Steps _ _ _ (s₁.setTop (mkF m 18 #[iv q1] [])) _
    refine XS.iloadN X0.here hx rfl (hb hby d1_18) rfl ?_
    show Steps _ _ _ (s₁.setTop (mkF m 19 #[iv q1] [(.int q1)])) _
    refine XS.bipush X0.here hx rfl (hb hby d1_19) ?_
    show Steps _ _ _ (s₁.setTop (mkF m 21 #[iv q1] [(.int 32), (.int q1)])) _
    refine XS.icmpYes X0.here hx rfl (pc0 := 21) (pc' := 31) rfl (hb hby d1_21) rfl (tlt (own_lt hhi (by decide))).1 (by decide) (by decide) ?_
    show Steps _ _ _ (s₁.setTop (mkF m 31 #[iv q1] [])) _
    refine XS.iloadN X0.here hx rfl (hb hby d1_31) rfl ?_
    show Steps _ _ _ (s₁.setTop (mkF m 32 #[iv q1] [(.int q1)])) _
    refine X0.ldcwInt hx hown (mvT hZ (hw _ (wd 14 rfl))) (g := (mkF m 32 #[iv q1] [(.int q1)])) rfl (hb hby d1_32) _ ?_
    show Steps _ _ _ (s₁.setTop (mkF m 35 #[iv q1] [(.int 57344), (.int q1)])) _
    refine XS.icmpYes X0.here hx rfl (pc0 := 35) (pc' := 45) rfl (hb hby d1_35) rfl (tlt (own_lt hhi (by decide))).1 (by decide) (by decide) ?_
    show Steps _ _ _ (s₁.setTop (mkF m 45 #[iv q1] [])) _
    refine XS.iloadN X0.here hx rfl (hb hby d1_45) rfl ?_
    show Steps _ _ _ (s₁.setTop (mkF m 46 #[iv q1] [(.int q1)])) _
    refine X0.ldcwInt hx hown (mvT hZ (hw _ (wd 15 rfl))) (g := (mkF m 46 #[iv q1] [(.int q1)])) rfl (hb hby d1_46) _ ?_
    show Steps _ _ _ (s₁.setTop (mkF m 49 #[iv q1] [(.int 65536), (.int q1)])) _
    refine XS.icmpYes X0.here hx rfl (pc0 := 49) (pc' := 63) rfl (hb hby d1_49) rfl (tlt (own_lt hhi (by decide))).1 (by decide) (by decide) ?_
    show Steps _ _ _ (s₁.setTop (mkF m 63 #[iv q1] [])) _
    refine XS.iconst X0.here hx rfl (hb hby d1_63) ?_
    show Steps _ _ _ (s₁.setTop (mkF m 64 #[iv q1] [(.int 0)])) _
    exact q
  obtain ⟨fs, hr, hrun, hended, hW, hsame⟩ := X0.leave (v := some (.int 0)) (fun h => by rw [Bd.returns] at h; cases h)
  refine ⟨_, _, k_1 _ ?_, hrun, hended, _, _, rfl, ?_, ⟨_, rfl⟩, hW, hsame.mono (by decide) (by decide)⟩
  · exact retN X0 hx (t := .boolean) Bd.returns (by simp) (hb hby d1_64) hr
  · show QV (some (.int 0)) h0 n0 _ s₁.heap _
    rw [e0]
    exact ⟨rfl, N0, rfl⟩
set_option maxRecDepth 65536 in
set_option maxHeartbeats 40000000 in
theorem ex_0 (l : Launch) (Z : State) (a0 : Array Value) (hw : ∀ d ∈ tables_1, d.before a0 Z = true) (ws : List Jvm.Cond) (q1 : Int32) (h0 : Heap) (n0 : Nat) (O0 : Old Z n0 h0) (hlo : (-2147483648 : Int) ≤ q1.toInt) (hhi : q1.toInt ≤ -1) :
    MetFree l y_1 (head1 (Jvm.Cond.code y_1 method_3_code 5 (some .boolean) :: ws) ({ frames := 0, cells := 0, slots := 0, locals := 0 } : Room)) (fun a U => a = #[(.int q1)] ∧ Z.Warmed39 U.vm ∧ U.heap = h0) (fun _ _ _ _ _ => True) (fun _ U o U' => ∃ v L, o = .returned v ∧ QV (some (.int 0)) h0 n0 v U'.heap L ∧ FrameEnd U o U' L ({ frames := 0, cells := 0, slots := 0, locals := 0 } : Room).cells ({ frames := 0, cells := 0, slots := 0, locals := 0 } : Room).slots) := by
  refine MetFree.of_bodySF (plainFor_of_name pn_1) hisR ?_
  intro p e s m args below meth c s₁ Bd hml0 hP hK
  obtain ⟨rfl, hZ, hh⟩ := hP
  have hx := Bd.exec
  have hby := Bd.bytes
  have hml : c.maxLocals = 5 := hml0
  have hown : s.vm.findClass "com/example/befundweg/befundweg/XmlParserIsCharacterPinLaw" = some m.cls := findClass_of_methodNamed Bd.named
  have hnm := (name_of_methodNamed Bd.named Bd.method).1
  have X0 : Stand p l e ({ frames := 0, cells := 0, slots := 0, locals := 0 } : Room) s m #[(.int q1)] below meth c s₁ [] 0 0 := Stand.of_body Bd
  have e0 : s₁.heap = h0 := by rw [← hh, Bd.state]; rfl
  have N0 := Fr.nil n0
  have K0 := Keep.refl h0 []
  have k0 : Go p.tables e below (s₁.setTop (entryFrame m #[(.int q1)] 5)) (s₁.setTop (mkF m 0 #[iv q1, .unset, .unset, .unset, .unset] [])) := fun t k => castTop (by first | rfl | (simp [entryFrame, mkF, argsToLocals, Value.category]; done)) k
  have k_2 : Go p.tables e below (s₁.setTop (entryFrame m #[(.int q1)] 5)) (s₁.setTop (mkF m 105 #[iv q1, iv 0, iv 0, iv 0, iv 0] [(.int 0)])) := fun t q => by
    refine k0 t ?_
    refine XS.iloadN X0.here hx rfl (hb hby d2_0) rfl ?_
    show Steps _ _ _ (s₁.setTop (mkF m 1 #[iv q1, .unset, .unset, .unset, .unset] [(.int q1)])) _
    refine XS.ifYes X0.here hx rfl (pc0 := 1) (pc' := 14) rfl (hb hby d2_1) rfl ((if0 _ _).trans (tlt (own_lt hhi (by decide))).1) (by decide) (by decide) ?_
    show Steps _ _ _ (s₁.setTop (mkF m 14 #[iv q1, .unset, .unset, .unset, .unset] [])) _
    refine XS.iconst X0.here hx rfl (hb hby d2_14) ?_
    show Steps _ _ _ (s₁.setTop (mkF m 15 #[iv q1, .unset, .unset, .unset, .unset] [(.int 0)])) _
    refine XS.istoreN X0.here hx rfl (hb hby d2_15) rfl (l' := #[iv q1, iv 0, .unset, .unset, .unset]) rfl ?_
    show Steps _ _ _ (s₁.setTop (mkF m 16 #[iv q1, iv 0, .unset, .unset, .unset] [])) _
    refine XS.iloadN X0.here hx rfl (hb hby d2_16) rfl ?_
    show Steps _ _ _ (s₁.setTop (mkF m 17 #[iv q1, iv 0, .unset, .unset, .unset] [(.int q1)])) _
    refine X0.ldcInt hx hown (mvT hZ (hw _ (wd 6 rfl))) (g := (mkF m 17 #[iv q1, iv 0, .unset, .unset, .unset] [(.int q1)])) rfl (hb hby d2_17) _ ?_
    show Steps _ _ _ (s₁.setTop (mkF m 19 #[iv q1, iv 0, .unset, .unset, .unset] [(.int 55296), (.int q1)])) _
    refine XS.icmpYes X0.here hx rfl (pc0 := 19) (pc' := 32) rfl (hb hby d2_19) rfl (tlt (own_lt hhi (by decide))).1 (by decide) (by decide) ?_
    show Steps _ _ _ (s₁.setTop (mkF m 32 #[iv q1, iv 0, .unset, .unset, .unset] [])) _
    refine XS.iconst X0.here hx rfl (hb hby d2_32) ?_
    show Steps _ _ _ (s₁.setTop (mkF m 33 #[iv q1, iv 0, .unset, .unset, .unset] [(.int 0)])) _
    refine XS.istoreN X0.here hx rfl (hb hby d2_33) rfl (l' := #[iv q1, iv 0, iv 0, .unset, .unset]) rfl ?_
    show Steps _ _ _ (s₁.setTop (mkF m 34 #[iv q1, iv 0, iv 0, .unset, .unset] [])) _
    refine XS.iloadN X0.here hx rfl (hb hby d2_34) rfl ?_
    show Steps _ _ _ (s₁.setTop (mkF m 35 #[iv q1, iv 0, iv 0, .unset, .unset] [(.int q1)])) _
    refine X0.ldcInt hx hown (mvT hZ (hw _ (wd 8 rfl))) (g := (mkF m 35 #[iv q1, iv 0, iv 0, .unset, .unset] [(.int q1)])) rfl (hb hby d2_35) _ ?_
    show Steps _ _ _ (s₁.setTop (mkF m 37 #[iv q1, iv 0, iv 0, .unset, .unset] [(.int 65534), (.int q1)])) _
    refine XS.icmpNo X0.here hx rfl (hb hby d2_37) rfl (feq (own_neA hhi (by decide))).1 ?_
    show Steps _ _ _ (s₁.setTop (mkF m 40 #[iv q1, iv 0, iv 0, .unset, .unset] [])) _
    refine XS.iloadN X0.here hx rfl (hb hby d2_40) rfl ?_
    show Steps _ _ _ (s₁.setTop (mkF m 41 #[iv q1, iv 0, iv 0, .unset, .unset] [(.int q1)])) _
    refine X0.ldcInt hx hown (mvT hZ (hw _ (wd 20 rfl))) (g := (mkF m 41 #[iv q1, iv 0, iv 0, .unset, .unset] [(.int q1)])) rfl (hb hby d2_41) _ ?_
    show Steps _ _ _ (s₁.setTop (mkF m 43 #[iv q1, iv 0, iv 0, .unset, .unset] [(.int 65535), (.int q1)])) _
    refine XS.icmpYes X0.here hx rfl (pc0 := 43) (pc' := 50) rfl (hb hby d2_43) rfl (feq (own_neA hhi (by decide))).2 (by decide) (by decide) ?_
    show Steps _ _ _ (s₁.setTop (mkF m 50 #[iv q1, iv 0, iv 0, .unset, .unset] [])) _
    refine XS.iconst X0.here hx rfl (hb hby d2_50) ?_
    show Steps _ _ _ (s₁.setTop (mkF m 51 #[iv q1, iv 0, iv 0, .unset, .unset] [(.int 0)])) _
    refine XS.istoreN X0.here hx rfl (hb hby d2_51) rfl (l' := #[iv q1, iv 0, iv 0, iv 0, .unset]) rfl ?_
    show Steps _ _ _ (s₁.setTop (mkF m 52 #[iv q1, iv 0, iv 0, iv 0, .unset] [])) _
    refine XS.iloadN X0.here hx rfl (hb hby d2_52) rfl ?_
    show Steps _ _ _ (s₁.setTop (mkF m 53 #[iv q1, iv 0, iv 0, iv 0, .unset] [(.int q1)])) _
    refine XS.bipush X0.here hx rfl (hb hby d2_53) ?_
    show Steps _ _ _ (s₁.setTop (mkF m 55 #[iv q1, iv 0, iv 0, iv 0, .unset] [(.int 32), (.int q1)])) _
    refine XS.icmpNo X0.here hx rfl (hb hby d2_55) rfl (tlt (own_lt hhi (by decide))).2.1 ?_
    show Steps _ _ _ (s₁.setTop (mkF m 58 #[iv q1, iv 0, iv 0, iv 0, .unset] [])) _
    refine XS.iloadN X0.here hx rfl (hb hby d2_58) rfl ?_
    show Steps _ _ _ (s₁.setTop (mkF m 59 #[iv q1, iv 0, iv 0, iv 0, .unset] [(.int q1)])) _
    refine XS.bipush X0.here hx rfl (hb hby d2_59) ?_
    show Steps _ _ _ (s₁.setTop (mkF m 61 #[iv q1, iv 0, iv 0, iv 0, .unset] [(.int 9), (.int q1)])) _
    refine XS.icmpNo X0.here hx rfl (hb hby d2_61) rfl (feq (own_neA hhi (by decide))).1 ?_
    show Steps _ _ _ (s₁.setTop (mkF m 64 #[iv q1, iv 0, iv 0, iv 0, .unset] [])) _
    refine XS.iloadN X0.here hx rfl (hb hby d2_64) rfl ?_
    show Steps _ _ _ (s₁.setTop (mkF m 65 #[iv q1, iv 0, iv 0, iv 0, .unset] [(.int q1)])) _
    refine XS.bipush X0.here hx rfl (hb hby d2_65) ?_
    show Steps _ _ _ (s₁.setTop (mkF m 67 #[iv q1, iv 0, iv 0, iv 0, .unset] [(.int 10), (.int q1)])) _
    refine XS.icmpNo X0.here hx rfl (hb hby d2_67) rfl (feq (own_neA hhi (by decide))).1 ?_
    show Steps _ _ _ (s₁.setTop (mkF m 70 #[iv q1, iv 0, iv 0, iv 0, .unset] [])) _
    refine XS.iloadN X0.here hx rfl (hb hby d2_70) rfl ?_
    show Steps _ _ _ (s₁.setTop (mkF m 71 #[iv q1, iv 0, iv 0, iv 0, .unset] [(.int q1)])) _
    refine XS.bipush X0.here hx rfl (hb hby d2_71) ?_
    show Steps _ _ _ (s₁.setTop (mkF m 73 #[iv q1, iv 0, iv 0, iv 0, .unset] [(.int 13), (.int q1)])) _
    refine XS.icmpYes X0.here hx rfl (pc0 := 73) (pc' := 80) rfl (hb hby d2_73) rfl (feq (own_neA hhi (by decide))).2 (by decide) (by decide) ?_
    show Steps _ _ _ (s₁.setTop (mkF m 80 #[iv q1, iv 0, iv 0, iv 0, .unset] [])) _
    refine XS.iconst X0.here hx rfl (hb hby d2_80) ?_
    show Steps _ _ _ (s₁.setTop (mkF m 81 #[iv q1, iv 0, iv 0, iv 0, .unset] [(.int 0)])) _
    refine XS.istore X0.here hx rfl (hb hby d2_81) rfl (l' := #[iv q1, iv 0, iv 0, iv 0, iv 0]) rfl ?_
    show Steps _ _ _ (s₁.setTop (mkF m 83 #[iv q1, iv 0, iv 0, iv 0, iv 0] [])) _
    refine XS.iloadN X0.here hx rfl (hb hby d2_83) rfl ?_
    show Steps _ _ _ (s₁.setTop (mkF m 84 #[iv q1, iv 0, iv 0, iv 0, iv 0] [(.int 0)])) _
    refine XS.ifYes X0.here hx rfl (pc0 := 84) (pc' := 104) rfl (hb hby d2_84) rfl (by decide) (by decide) (by decide) ?_
    show Steps _ _ _ (s₁.setTop (mkF m 104 #[iv q1, iv 0, iv 0, iv 0, iv 0] [])) _
    refine XS.iconst X0.here hx rfl (hb hby d2_104) ?_
    show Steps _ _ _ (s₁.setTop (mkF m 105 #[iv q1, iv 0, iv 0, iv 0, iv 0] [(.int 0)])) _
    exact q
  obtain ⟨fs, hr, hrun, hended, hW, hsame⟩ := X0.leave (v := some (.int 0)) (fun h => by rw [Bd.returns] at h; cases h)
  refine ⟨_, _, k_2 _ ?_, hrun, hended, _, _, rfl, ?_, ⟨_, rfl⟩, hW, hsame.mono (by decide) (by decide)⟩
  · exact retN X0 hx (t := .boolean) Bd.returns (by simp) (hb hby d2_105) hr
  · show QV (some (.int 0)) h0 n0 _ s₁.heap _
    rw [e0]
    exact ⟨rfl, N0, rfl⟩
set_option maxRecDepth 65536 in
set_option maxHeartbeats 40000000 in
theorem ic_1 (l : Launch) (Z : State) (a0 : Array Value) (hw : ∀ d ∈ tables_1, d.before a0 Z = true) (ws : List Jvm.Cond) (q1 : Int32) (h0 : Heap) (n0 : Nat) (O0 : Old Z n0 h0) (hlo : (0 : Int) ≤ q1.toInt) (hhi : q1.toInt ≤ 8) :
    MetFree l y_0 (head1 (Jvm.Cond.code y_0 prog_154_method_29_code 1 (some .boolean) :: ws) ({ frames := 0, cells := 0, slots := 0, locals := 0 } : Room)) (fun a U => a = #[(.int q1)] ∧ Z.Warmed39 U.vm ∧ U.heap = h0) (fun _ _ _ _ _ => True) (fun _ U o U' => ∃ v L, o = .returned v ∧ QV (some (.int 0)) h0 n0 v U'.heap L ∧ FrameEnd U o U' L ({ frames := 0, cells := 0, slots := 0, locals := 0 } : Room).cells ({ frames := 0, cells := 0, slots := 0, locals := 0 } : Room).slots) := by
  refine MetFree.of_bodySF (plainFor_of_name pn_0) hisR ?_
  intro p e s m args below meth c s₁ Bd hml0 hP hK
  obtain ⟨rfl, hZ, hh⟩ := hP
  have hx := Bd.exec
  have hby := Bd.bytes
  have hml : c.maxLocals = 1 := hml0
  have hown : s.vm.findClass "com/example/befundweg/befundweg/XmlParser" = some m.cls := findClass_of_methodNamed Bd.named
  have hnm := (name_of_methodNamed Bd.named Bd.method).1
  have X0 : Stand p l e ({ frames := 0, cells := 0, slots := 0, locals := 0 } : Room) s m #[(.int q1)] below meth c s₁ [] 0 0 := Stand.of_body Bd
  have e0 : s₁.heap = h0 := by rw [← hh, Bd.state]; rfl
  have N0 := Fr.nil n0
  have K0 := Keep.refl h0 []
  have k0 : Go p.tables e below (s₁.setTop (entryFrame m #[(.int q1)] 1)) (s₁.setTop (mkF m 0 #[iv q1] [])) := fun t k => castTop (by first | rfl | (simp [entryFrame, mkF, argsToLocals, Value.category]; done)) k
  have k_3 : Go p.tables e below (s₁.setTop (entryFrame m #[(.int q1)] 1)) (s₁.setTop (mkF m 64 #[iv q1] [(.int 0)])) := fun t q => by
    refine k0 t ?_
    refine XS.iloadN X0.here hx rfl (hb hby d1_0) rfl ?_
    show Steps _ _ _ (s₁.setTop (mkF m 1 #[iv q1] [(.int q1)])) _
    refine XS.bipush X0.here hx rfl (hb hby d1_1) ?_
    show Steps _ _ _ (s₁.setTop (mkF m 3 #[iv q1] [(.int 9), (.int q1)])) _
    refine XS.icmpNo X0.here hx rfl (hb hby d1_3) rfl (feq (own_neA hhi (by decide))).1 ?_
    show Steps _ _ _ (s₁.setTop (mkF m 6 #[iv q1] [])) _
    refine XS.iloadN X0.here hx rfl (hb hby d1_6) rfl ?_
    show Steps _ _ _ (s₁.setTop (mkF m 7 #[iv q1] [(.int q1)])) _
    refine XS.bipush X0.here hx rfl (hb hby d1_7) ?_
    show Steps _ _ _ (s₁.setTop (mkF m 9 #[iv q1] [(.int 10), (.int q1)])) _
    refine XS.icmpNo X0.here hx rfl (hb hby d1_9) rfl (feq (own_neA hhi (by decide))).1 ?_
    show Steps _ _ _ (s₁.setTop (mkF m 12 #[iv q1] [])) _
    refine XS.iloadN X0.here hx rfl (hb hby d1_12) rfl ?_
    show Steps _ _ _ (s₁.setTop (mkF m 13 #[iv q1] [(.int q1)])) _
    refine XS.bipush X0.here hx rfl (hb hby d1_13) ?_
    show Steps _ _ _ (s₁.setTop (mkF m 15 #[iv q1] [(.int 13), (.int q1)])) _
    refine XS.icmpNo X0.here hx rfl (hb hby d1_15) rfl (feq (own_neA hhi (by decide))).1 ?_
    show Steps _ _ _ (s₁.setTop (mkF m 18 #[iv q1] [])) _
    refine XS.iloadN X0.here hx rfl (hb hby d1_18) rfl ?_
    show Steps _ _ _ (s₁.setTop (mkF m 19 #[iv q1] [(.int q1)])) _
    refine XS.bipush X0.here hx rfl (hb hby d1_19) ?_
    show Steps _ _ _ (s₁.setTop (mkF m 21 #[iv q1] [(.int 32), (.int q1)])) _
    refine XS.icmpYes X0.here hx rfl (pc0 := 21) (pc' := 31) rfl (hb hby d1_21) rfl (tlt (own_lt hhi (by decide))).1 (by decide) (by decide) ?_
    show Steps _ _ _ (s₁.setTop (mkF m 31 #[iv q1] [])) _
    refine XS.iloadN X0.here hx rfl (hb hby d1_31) rfl ?_
    show Steps _ _ _ (s₁.setTop (mkF m 32 #[iv q1] [(.int q1)])) _
    refine X0.ldcwInt hx hown (mvT hZ (hw _ (wd 14 rfl))) (g := (mkF m 32 #[iv q1] [(.int q1)])) rfl (hb hby d1_32) _ ?_
    show Steps _ _ _ (s₁.setTop (mkF m 35 #[iv q1] [(.int 57344), (.int q1)])) _
    refine XS.icmpYes X0.here hx rfl (pc0 := 35) (pc' := 45) rfl (hb hby d1_35) rfl (tlt (own_lt hhi (by decide))).1 (by decide) (by decide) ?_
    show Steps _ _ _ (s₁.setTop (mkF m 45 #[iv q1] [])) _
    refine XS.iloadN X0.here hx rfl (hb hby d1_45) rfl ?_
    show Steps _ _ _ (s₁.setTop (mkF m 46 #[iv q1] [(.int q1)])) _
    refine X0.ldcwInt hx hown (mvT hZ (hw _ (wd 15 rfl))) (g := (mkF m 46 #[iv q1] [(.int q1)])) rfl (hb hby d1_46) _ ?_
    show Steps _ _ _ (s₁.setTop (mkF m 49 #[iv q1] [(.int 65536), (.int q1)])) _
    refine XS.icmpYes X0.here hx rfl (pc0 := 49) (pc' := 63) rfl (hb hby d1_49) rfl (tlt (own_lt hhi (by decide))).1 (by decide) (by decide) ?_
    show Steps _ _ _ (s₁.setTop (mkF m 63 #[iv q1] [])) _
    refine XS.iconst X0.here hx rfl (hb hby d1_63) ?_
    show Steps _ _ _ (s₁.setTop (mkF m 64 #[iv q1] [(.int 0)])) _
    exact q
  obtain ⟨fs, hr, hrun, hended, hW, hsame⟩ := X0.leave (v := some (.int 0)) (fun h => by rw [Bd.returns] at h; cases h)
  refine ⟨_, _, k_3 _ ?_, hrun, hended, _, _, rfl, ?_, ⟨_, rfl⟩, hW, hsame.mono (by decide) (by decide)⟩
  · exact retN X0 hx (t := .boolean) Bd.returns (by simp) (hb hby d1_64) hr
  · show QV (some (.int 0)) h0 n0 _ s₁.heap _
    rw [e0]
    exact ⟨rfl, N0, rfl⟩
set_option maxRecDepth 65536 in
set_option maxHeartbeats 40000000 in
theorem ex_1 (l : Launch) (Z : State) (a0 : Array Value) (hw : ∀ d ∈ tables_1, d.before a0 Z = true) (ws : List Jvm.Cond) (q1 : Int32) (h0 : Heap) (n0 : Nat) (O0 : Old Z n0 h0) (hlo : (0 : Int) ≤ q1.toInt) (hhi : q1.toInt ≤ 8) :
    MetFree l y_1 (head1 (Jvm.Cond.code y_1 method_3_code 5 (some .boolean) :: ws) ({ frames := 0, cells := 0, slots := 0, locals := 0 } : Room)) (fun a U => a = #[(.int q1)] ∧ Z.Warmed39 U.vm ∧ U.heap = h0) (fun _ _ _ _ _ => True) (fun _ U o U' => ∃ v L, o = .returned v ∧ QV (some (.int 0)) h0 n0 v U'.heap L ∧ FrameEnd U o U' L ({ frames := 0, cells := 0, slots := 0, locals := 0 } : Room).cells ({ frames := 0, cells := 0, slots := 0, locals := 0 } : Room).slots) := by
  refine MetFree.of_bodySF (plainFor_of_name pn_1) hisR ?_
  intro p e s m args below meth c s₁ Bd hml0 hP hK
  obtain ⟨rfl, hZ, hh⟩ := hP
  have hx := Bd.exec
  have hby := Bd.bytes
  have hml : c.maxLocals = 5 := hml0
  have hown : s.vm.findClass "com/example/befundweg/befundweg/XmlParserIsCharacterPinLaw" = some m.cls := findClass_of_methodNamed Bd.named
  have hnm := (name_of_methodNamed Bd.named Bd.method).1
  have X0 : Stand p l e ({ frames := 0, cells := 0, slots := 0, locals := 0 } : Room) s m #[(.int q1)] below meth c s₁ [] 0 0 := Stand.of_body Bd
  have e0 : s₁.heap = h0 := by rw [← hh, Bd.state]; rfl
  have N0 := Fr.nil n0
  have K0 := Keep.refl h0 []
  have k0 : Go p.tables e below (s₁.setTop (entryFrame m #[(.int q1)] 5)) (s₁.setTop (mkF m 0 #[iv q1, .unset, .unset, .unset, .unset] [])) := fun t k => castTop (by first | rfl | (simp [entryFrame, mkF, argsToLocals, Value.category]; done)) k
  have k_4 : Go p.tables e below (s₁.setTop (entryFrame m #[(.int q1)] 5)) (s₁.setTop (mkF m 105 #[iv q1, iv 1, iv 0, iv 0, iv 0] [(.int 0)])) := fun t q => by
    refine k0 t ?_
    refine XS.iloadN X0.here hx rfl (hb hby d2_0) rfl ?_
    show Steps _ _ _ (s₁.setTop (mkF m 1 #[iv q1, .unset, .unset, .unset, .unset] [(.int q1)])) _
    refine XS.ifNo X0.here hx rfl (hb hby d2_1) rfl ((if0 _ _).trans (flt (own_nlt hlo (by decide))).1) ?_
    show Steps _ _ _ (s₁.setTop (mkF m 4 #[iv q1, .unset, .unset, .unset, .unset] [])) _
    refine XS.iloadN X0.here hx rfl (hb hby d2_4) rfl ?_
    show Steps _ _ _ (s₁.setTop (mkF m 5 #[iv q1, .unset, .unset, .unset, .unset] [(.int q1)])) _
    refine X0.ldcInt hx hown (mvT hZ (hw _ (wd 5 rfl))) (g := (mkF m 5 #[iv q1, .unset, .unset, .unset, .unset] [(.int q1)])) rfl (hb hby d2_5) _ ?_
    show Steps _ _ _ (s₁.setTop (mkF m 7 #[iv q1, .unset, .unset, .unset, .unset] [(.int 1114111), (.int q1)])) _
    refine XS.icmpNo X0.here hx rfl (hb hby d2_7) rfl (flt (own_ngt hhi (by decide))).2.2.1 ?_
    show Steps _ _ _ (s₁.setTop (mkF m 10 #[iv q1, .unset, .unset, .unset, .unset] [])) _
    refine XS.iconst X0.here hx rfl (hb hby d2_10) ?_
    show Steps _ _ _ (s₁.setTop (mkF m 11 #[iv q1, .unset, .unset, .unset, .unset] [(.int 1)])) _
    refine XS.goto X0.here hx rfl (pc0 := 11) (pc' := 15) rfl (hb hby d2_11) (by decide) (by decide) ?_
    show Steps _ _ _ (s₁.setTop (mkF m 15 #[iv q1, .unset, .unset, .unset, .unset] [(.int 1)])) _
    refine XS.istoreN X0.here hx rfl (hb hby d2_15) rfl (l' := #[iv q1, iv 1, .unset, .unset, .unset]) rfl ?_
    show Steps _ _ _ (s₁.setTop (mkF m 16 #[iv q1, iv 1, .unset, .unset, .unset] [])) _
    refine XS.iloadN X0.here hx rfl (hb hby d2_16) rfl ?_
    show Steps _ _ _ (s₁.setTop (mkF m 17 #[iv q1, iv 1, .unset, .unset, .unset] [(.int q1)])) _
    refine X0.ldcInt hx hown (mvT hZ (hw _ (wd 6 rfl))) (g := (mkF m 17 #[iv q1, iv 1, .unset, .unset, .unset] [(.int q1)])) rfl (hb hby d2_17) _ ?_
    show Steps _ _ _ (s₁.setTop (mkF m 19 #[iv q1, iv 1, .unset, .unset, .unset] [(.int 55296), (.int q1)])) _
    refine XS.icmpYes X0.here hx rfl (pc0 := 19) (pc' := 32) rfl (hb hby d2_19) rfl (tlt (own_lt hhi (by decide))).1 (by decide) (by decide) ?_
    show Steps _ _ _ (s₁.setTop (mkF m 32 #[iv q1, iv 1, .unset, .unset, .unset] [])) _
    refine XS.iconst X0.here hx rfl (hb hby d2_32) ?_
    show Steps _ _ _ (s₁.setTop (mkF m 33 #[iv q1, iv 1, .unset, .unset, .unset] [(.int 0)])) _
    refine XS.istoreN X0.here hx rfl (hb hby d2_33) rfl (l' := #[iv q1, iv 1, iv 0, .unset, .unset]) rfl ?_
    show Steps _ _ _ (s₁.setTop (mkF m 34 #[iv q1, iv 1, iv 0, .unset, .unset] [])) _
    refine XS.iloadN X0.here hx rfl (hb hby d2_34) rfl ?_
    show Steps _ _ _ (s₁.setTop (mkF m 35 #[iv q1, iv 1, iv 0, .unset, .unset] [(.int q1)])) _
    refine X0.ldcInt hx hown (mvT hZ (hw _ (wd 8 rfl))) (g := (mkF m 35 #[iv q1, iv 1, iv 0, .unset, .unset] [(.int q1)])) rfl (hb hby d2_35) _ ?_
    show Steps _ _ _ (s₁.setTop (mkF m 37 #[iv q1, iv 1, iv 0, .unset, .unset] [(.int 65534), (.int q1)])) _
    refine XS.icmpNo X0.here hx rfl (hb hby d2_37) rfl (feq (own_neA hhi (by decide))).1 ?_
    show Steps _ _ _ (s₁.setTop (mkF m 40 #[iv q1, iv 1, iv 0, .unset, .unset] [])) _
    refine XS.iloadN X0.here hx rfl (hb hby d2_40) rfl ?_
    show Steps _ _ _ (s₁.setTop (mkF m 41 #[iv q1, iv 1, iv 0, .unset, .unset] [(.int q1)])) _
    refine X0.ldcInt hx hown (mvT hZ (hw _ (wd 20 rfl))) (g := (mkF m 41 #[iv q1, iv 1, iv 0, .unset, .unset] [(.int q1)])) rfl (hb hby d2_41) _ ?_
    show Steps _ _ _ (s₁.setTop (mkF m 43 #[iv q1, iv 1, iv 0, .unset, .unset] [(.int 65535), (.int q1)])) _
    refine XS.icmpYes X0.here hx rfl (pc0 := 43) (pc' := 50) rfl (hb hby d2_43) rfl (feq (own_neA hhi (by decide))).2 (by decide) (by decide) ?_
    show Steps _ _ _ (s₁.setTop (mkF m 50 #[iv q1, iv 1, iv 0, .unset, .unset] [])) _
    refine XS.iconst X0.here hx rfl (hb hby d2_50) ?_
    show Steps _ _ _ (s₁.setTop (mkF m 51 #[iv q1, iv 1, iv 0, .unset, .unset] [(.int 0)])) _
    refine XS.istoreN X0.here hx rfl (hb hby d2_51) rfl (l' := #[iv q1, iv 1, iv 0, iv 0, .unset]) rfl ?_
    show Steps _ _ _ (s₁.setTop (mkF m 52 #[iv q1, iv 1, iv 0, iv 0, .unset] [])) _
    refine XS.iloadN X0.here hx rfl (hb hby d2_52) rfl ?_
    show Steps _ _ _ (s₁.setTop (mkF m 53 #[iv q1, iv 1, iv 0, iv 0, .unset] [(.int q1)])) _
    refine XS.bipush X0.here hx rfl (hb hby d2_53) ?_
    show Steps _ _ _ (s₁.setTop (mkF m 55 #[iv q1, iv 1, iv 0, iv 0, .unset] [(.int 32), (.int q1)])) _
    refine XS.icmpNo X0.here hx rfl (hb hby d2_55) rfl (tlt (own_lt hhi (by decide))).2.1 ?_
    show Steps _ _ _ (s₁.setTop (mkF m 58 #[iv q1, iv 1, iv 0, iv 0, .unset] [])) _
    refine XS.iloadN X0.here hx rfl (hb hby d2_58) rfl ?_
    show Steps _ _ _ (s₁.setTop (mkF m 59 #[iv q1, iv 1, iv 0, iv 0, .unset] [(.int q1)])) _
    refine XS.bipush X0.here hx rfl (hb hby d2_59) ?_
    show Steps _ _ _ (s₁.setTop (mkF m 61 #[iv q1, iv 1, iv 0, iv 0, .unset] [(.int 9), (.int q1)])) _
    refine XS.icmpNo X0.here hx rfl (hb hby d2_61) rfl (feq (own_neA hhi (by decide))).1 ?_
    show Steps _ _ _ (s₁.setTop (mkF m 64 #[iv q1, iv 1, iv 0, iv 0, .unset] [])) _
    refine XS.iloadN X0.here hx rfl (hb hby d2_64) rfl ?_
    show Steps _ _ _ (s₁.setTop (mkF m 65 #[iv q1, iv 1, iv 0, iv 0, .unset] [(.int q1)])) _
    refine XS.bipush X0.here hx rfl (hb hby d2_65) ?_
    show Steps _ _ _ (s₁.setTop (mkF m 67 #[iv q1, iv 1, iv 0, iv 0, .unset] [(.int 10), (.int q1)])) _
    refine XS.icmpNo X0.here hx rfl (hb hby d2_67) rfl (feq (own_neA hhi (by decide))).1 ?_
    show Steps _ _ _ (s₁.setTop (mkF m 70 #[iv q1, iv 1, iv 0, iv 0, .unset] [])) _
    refine XS.iloadN X0.here hx rfl (hb hby d2_70) rfl ?_
    show Steps _ _ _ (s₁.setTop (mkF m 71 #[iv q1, iv 1, iv 0, iv 0, .unset] [(.int q1)])) _
    refine XS.bipush X0.here hx rfl (hb hby d2_71) ?_
    show Steps _ _ _ (s₁.setTop (mkF m 73 #[iv q1, iv 1, iv 0, iv 0, .unset] [(.int 13), (.int q1)])) _
    refine XS.icmpYes X0.here hx rfl (pc0 := 73) (pc' := 80) rfl (hb hby d2_73) rfl (feq (own_neA hhi (by decide))).2 (by decide) (by decide) ?_
    show Steps _ _ _ (s₁.setTop (mkF m 80 #[iv q1, iv 1, iv 0, iv 0, .unset] [])) _
    refine XS.iconst X0.here hx rfl (hb hby d2_80) ?_
    show Steps _ _ _ (s₁.setTop (mkF m 81 #[iv q1, iv 1, iv 0, iv 0, .unset] [(.int 0)])) _
    refine XS.istore X0.here hx rfl (hb hby d2_81) rfl (l' := #[iv q1, iv 1, iv 0, iv 0, iv 0]) rfl ?_
    show Steps _ _ _ (s₁.setTop (mkF m 83 #[iv q1, iv 1, iv 0, iv 0, iv 0] [])) _
    refine XS.iloadN X0.here hx rfl (hb hby d2_83) rfl ?_
    show Steps _ _ _ (s₁.setTop (mkF m 84 #[iv q1, iv 1, iv 0, iv 0, iv 0] [(.int 1)])) _
    refine XS.ifNo X0.here hx rfl (hb hby d2_84) rfl (by decide) ?_
    show Steps _ _ _ (s₁.setTop (mkF m 87 #[iv q1, iv 1, iv 0, iv 0, iv 0] [])) _
    refine XS.iloadN X0.here hx rfl (hb hby d2_87) rfl ?_
    show Steps _ _ _ (s₁.setTop (mkF m 88 #[iv q1, iv 1, iv 0, iv 0, iv 0] [(.int 0)])) _
    refine XS.ifNo X0.here hx rfl (hb hby d2_88) rfl (by decide) ?_
    show Steps _ _ _ (s₁.setTop (mkF m 91 #[iv q1, iv 1, iv 0, iv 0, iv 0] [])) _
    refine XS.iloadN X0.here hx rfl (hb hby d2_91) rfl ?_
    show Steps _ _ _ (s₁.setTop (mkF m 92 #[iv q1, iv 1, iv 0, iv 0, iv 0] [(.int 0)])) _
    refine XS.ifNo X0.here hx rfl (hb hby d2_92) rfl (by decide) ?_
    show Steps _ _ _ (s₁.setTop (mkF m 95 #[iv q1, iv 1, iv 0, iv 0, iv 0] [])) _
    refine XS.iload X0.here hx rfl (hb hby d2_95) rfl ?_
    show Steps _ _ _ (s₁.setTop (mkF m 97 #[iv q1, iv 1, iv 0, iv 0, iv 0] [(.int 0)])) _
    refine XS.ifYes X0.here hx rfl (pc0 := 97) (pc' := 104) rfl (hb hby d2_97) rfl (by decide) (by decide) (by decide) ?_
    show Steps _ _ _ (s₁.setTop (mkF m 104 #[iv q1, iv 1, iv 0, iv 0, iv 0] [])) _
    refine XS.iconst X0.here hx rfl (hb hby d2_104) ?_
    show Steps _ _ _ (s₁.setTop (mkF m 105 #[iv q1, iv 1, iv 0, iv 0, iv 0] [(.int 0)])) _
    exact q
  obtain ⟨fs, hr, hrun, hended, hW, hsame⟩ := X0.leave (v := some (.int 0)) (fun h => by rw [Bd.returns] at h; cases h)
  refine ⟨_, _, k_4 _ ?_, hrun, hended, _, _, rfl, ?_, ⟨_, rfl⟩, hW, hsame.mono (by decide) (by decide)⟩
  · exact retN X0 hx (t := .boolean) Bd.returns (by simp) (hb hby d2_105) hr
  · show QV (some (.int 0)) h0 n0 _ s₁.heap _
    rw [e0]
    exact ⟨rfl, N0, rfl⟩
set_option maxRecDepth 65536 in
set_option maxHeartbeats 40000000 in
theorem ic_2 (l : Launch) (Z : State) (a0 : Array Value) (hw : ∀ d ∈ tables_1, d.before a0 Z = true) (ws : List Jvm.Cond) (q1 : Int32) (h0 : Heap) (n0 : Nat) (O0 : Old Z n0 h0) (hlo : (9 : Int) ≤ q1.toInt) (hhi : q1.toInt ≤ 9) :
    MetFree l y_0 (head1 (Jvm.Cond.code y_0 prog_154_method_29_code 1 (some .boolean) :: ws) ({ frames := 0, cells := 0, slots := 0, locals := 0 } : Room)) (fun a U => a = #[(.int q1)] ∧ Z.Warmed39 U.vm ∧ U.heap = h0) (fun _ _ _ _ _ => True) (fun _ U o U' => ∃ v L, o = .returned v ∧ QV (some (.int 1)) h0 n0 v U'.heap L ∧ FrameEnd U o U' L ({ frames := 0, cells := 0, slots := 0, locals := 0 } : Room).cells ({ frames := 0, cells := 0, slots := 0, locals := 0 } : Room).slots) := by
  refine MetFree.of_bodySF (plainFor_of_name pn_0) hisR ?_
  intro p e s m args below meth c s₁ Bd hml0 hP hK
  obtain ⟨rfl, hZ, hh⟩ := hP
  have hx := Bd.exec
  have hby := Bd.bytes
  have hml : c.maxLocals = 1 := hml0
  have hown : s.vm.findClass "com/example/befundweg/befundweg/XmlParser" = some m.cls := findClass_of_methodNamed Bd.named
  have hnm := (name_of_methodNamed Bd.named Bd.method).1
  have X0 : Stand p l e ({ frames := 0, cells := 0, slots := 0, locals := 0 } : Room) s m #[(.int q1)] below meth c s₁ [] 0 0 := Stand.of_body Bd
  have e0 : s₁.heap = h0 := by rw [← hh, Bd.state]; rfl
  have N0 := Fr.nil n0
  have K0 := Keep.refl h0 []
  have k0 : Go p.tables e below (s₁.setTop (entryFrame m #[(.int q1)] 1)) (s₁.setTop (mkF m 0 #[iv q1] [])) := fun t k => castTop (by first | rfl | (simp [entryFrame, mkF, argsToLocals, Value.category]; done)) k
  have k_5 : Go p.tables e below (s₁.setTop (entryFrame m #[(.int q1)] 1)) (s₁.setTop (mkF m 64 #[iv q1] [(.int 1)])) := fun t q => by
    refine k0 t ?_
    refine XS.iloadN X0.here hx rfl (hb hby d1_0) rfl ?_
    show Steps _ _ _ (s₁.setTop (mkF m 1 #[iv q1] [(.int q1)])) _
    refine XS.bipush X0.here hx rfl (hb hby d1_1) ?_
    show Steps _ _ _ (s₁.setTop (mkF m 3 #[iv q1] [(.int 9), (.int q1)])) _
    refine XS.icmpYes X0.here hx rfl (pc0 := 3) (pc' := 59) rfl (hb hby d1_3) rfl (teq (own_eq hlo hhi (by decide))).1 (by decide) (by decide) ?_
    show Steps _ _ _ (s₁.setTop (mkF m 59 #[iv q1] [])) _
    refine XS.iconst X0.here hx rfl (hb hby d1_59) ?_
    show Steps _ _ _ (s₁.setTop (mkF m 60 #[iv q1] [(.int 1)])) _
    refine XS.goto X0.here hx rfl (pc0 := 60) (pc' := 64) rfl (hb hby d1_60) (by decide) (by decide) ?_
    show Steps _ _ _ (s₁.setTop (mkF m 64 #[iv q1] [(.int 1)])) _
    exact q
  obtain ⟨fs, hr, hrun, hended, hW, hsame⟩ := X0.leave (v := some (.int 1)) (fun h => by rw [Bd.returns] at h; cases h)
  refine ⟨_, _, k_5 _ ?_, hrun, hended, _, _, rfl, ?_, ⟨_, rfl⟩, hW, hsame.mono (by decide) (by decide)⟩
  · exact retN X0 hx (t := .boolean) Bd.returns (by simp) (hb hby d1_64) hr
  · show QV (some (.int 1)) h0 n0 _ s₁.heap _
    rw [e0]
    exact ⟨rfl, N0, rfl⟩
set_option maxRecDepth 65536 in
set_option maxHeartbeats 40000000 in
theorem ex_2 (l : Launch) (Z : State) (a0 : Array Value) (hw : ∀ d ∈ tables_1, d.before a0 Z = true) (ws : List Jvm.Cond) (q1 : Int32) (h0 : Heap) (n0 : Nat) (O0 : Old Z n0 h0) (hlo : (9 : Int) ≤ q1.toInt) (hhi : q1.toInt ≤ 9) :
    MetFree l y_1 (head1 (Jvm.Cond.code y_1 method_3_code 5 (some .boolean) :: ws) ({ frames := 0, cells := 0, slots := 0, locals := 0 } : Room)) (fun a U => a = #[(.int q1)] ∧ Z.Warmed39 U.vm ∧ U.heap = h0) (fun _ _ _ _ _ => True) (fun _ U o U' => ∃ v L, o = .returned v ∧ QV (some (.int 1)) h0 n0 v U'.heap L ∧ FrameEnd U o U' L ({ frames := 0, cells := 0, slots := 0, locals := 0 } : Room).cells ({ frames := 0, cells := 0, slots := 0, locals := 0 } : Room).slots) := by
  refine MetFree.of_bodySF (plainFor_of_name pn_1) hisR ?_
  intro p e s m args below meth c s₁ Bd hml0 hP hK
  obtain ⟨rfl, hZ, hh⟩ := hP
  have hx := Bd.exec
  have hby := Bd.bytes
  have hml : c.maxLocals = 5 := hml0
  have hown : s.vm.findClass "com/example/befundweg/befundweg/XmlParserIsCharacterPinLaw" = some m.cls := findClass_of_methodNamed Bd.named
  have hnm := (name_of_methodNamed Bd.named Bd.method).1
  have X0 : Stand p l e ({ frames := 0, cells := 0, slots := 0, locals := 0 } : Room) s m #[(.int q1)] below meth c s₁ [] 0 0 := Stand.of_body Bd
  have e0 : s₁.heap = h0 := by rw [← hh, Bd.state]; rfl
  have N0 := Fr.nil n0
  have K0 := Keep.refl h0 []
  have k0 : Go p.tables e below (s₁.setTop (entryFrame m #[(.int q1)] 5)) (s₁.setTop (mkF m 0 #[iv q1, .unset, .unset, .unset, .unset] [])) := fun t k => castTop (by first | rfl | (simp [entryFrame, mkF, argsToLocals, Value.category]; done)) k
  have k_6 : Go p.tables e below (s₁.setTop (entryFrame m #[(.int q1)] 5)) (s₁.setTop (mkF m 105 #[iv q1, iv 1, iv 0, iv 0, iv 1] [(.int 1)])) := fun t q => by
    refine k0 t ?_
    refine XS.iloadN X0.here hx rfl (hb hby d2_0) rfl ?_
    show Steps _ _ _ (s₁.setTop (mkF m 1 #[iv q1, .unset, .unset, .unset, .unset] [(.int q1)])) _
    refine XS.ifNo X0.here hx rfl (hb hby d2_1) rfl ((if0 _ _).trans (flt (own_nlt hlo (by decide))).1) ?_
    show Steps _ _ _ (s₁.setTop (mkF m 4 #[iv q1, .unset, .unset, .unset, .unset] [])) _
    refine XS.iloadN X0.here hx rfl (hb hby d2_4) rfl ?_
    show Steps _ _ _ (s₁.setTop (mkF m 5 #[iv q1, .unset, .unset, .unset, .unset] [(.int q1)])) _
    refine X0.ldcInt hx hown (mvT hZ (hw _ (wd 5 rfl))) (g := (mkF m 5 #[iv q1, .unset, .unset, .unset, .unset] [(.int q1)])) rfl (hb hby d2_5) _ ?_
    show Steps _ _ _ (s₁.setTop (mkF m 7 #[iv q1, .unset, .unset, .unset, .unset] [(.int 1114111), (.int q1)])) _
    refine XS.icmpNo X0.here hx rfl (hb hby d2_7) rfl (flt (own_ngt hhi (by decide))).2.2.1 ?_
    show Steps _ _ _ (s₁.setTop (mkF m 10 #[iv q1, .unset, .unset, .unset, .unset] [])) _
    refine XS.iconst X0.here hx rfl (hb hby d2_10) ?_
    show Steps _ _ _ (s₁.setTop (mkF m 11 #[iv q1, .unset, .unset, .unset, .unset] [(.int 1)])) _
    refine XS.goto X0.here hx rfl (pc0 := 11) (pc' := 15) rfl (hb hby d2_11) (by decide) (by decide) ?_
    show Steps _ _ _ (s₁.setTop (mkF m 15 #[iv q1, .unset, .unset, .unset, .unset] [(.int 1)])) _
    refine XS.istoreN X0.here hx rfl (hb hby d2_15) rfl (l' := #[iv q1, iv 1, .unset, .unset, .unset]) rfl ?_
    show Steps _ _ _ (s₁.setTop (mkF m 16 #[iv q1, iv 1, .unset, .unset, .unset] [])) _
    refine XS.iloadN X0.here hx rfl (hb hby d2_16) rfl ?_
    show Steps _ _ _ (s₁.setTop (mkF m 17 #[iv q1, iv 1, .unset, .unset, .unset] [(.int q1)])) _
    refine X0.ldcInt hx hown (mvT hZ (hw _ (wd 6 rfl))) (g := (mkF m 17 #[iv q1, iv 1, .unset, .unset, .unset] [(.int q1)])) rfl (hb hby d2_17) _ ?_
    show Steps _ _ _ (s₁.setTop (mkF m 19 #[iv q1, iv 1, .unset, .unset, .unset] [(.int 55296), (.int q1)])) _
    refine XS.icmpYes X0.here hx rfl (pc0 := 19) (pc' := 32) rfl (hb hby d2_19) rfl (tlt (own_lt hhi (by decide))).1 (by decide) (by decide) ?_
    show Steps _ _ _ (s₁.setTop (mkF m 32 #[iv q1, iv 1, .unset, .unset, .unset] [])) _
    refine XS.iconst X0.here hx rfl (hb hby d2_32) ?_
    show Steps _ _ _ (s₁.setTop (mkF m 33 #[iv q1, iv 1, .unset, .unset, .unset] [(.int 0)])) _
    refine XS.istoreN X0.here hx rfl (hb hby d2_33) rfl (l' := #[iv q1, iv 1, iv 0, .unset, .unset]) rfl ?_
    show Steps _ _ _ (s₁.setTop (mkF m 34 #[iv q1, iv 1, iv 0, .unset, .unset] [])) _
    refine XS.iloadN X0.here hx rfl (hb hby d2_34) rfl ?_
    show Steps _ _ _ (s₁.setTop (mkF m 35 #[iv q1, iv 1, iv 0, .unset, .unset] [(.int q1)])) _
    refine X0.ldcInt hx hown (mvT hZ (hw _ (wd 8 rfl))) (g := (mkF m 35 #[iv q1, iv 1, iv 0, .unset, .unset] [(.int q1)])) rfl (hb hby d2_35) _ ?_
    show Steps _ _ _ (s₁.setTop (mkF m 37 #[iv q1, iv 1, iv 0, .unset, .unset] [(.int 65534), (.int q1)])) _
    refine XS.icmpNo X0.here hx rfl (hb hby d2_37) rfl (feq (own_neA hhi (by decide))).1 ?_
    show Steps _ _ _ (s₁.setTop (mkF m 40 #[iv q1, iv 1, iv 0, .unset, .unset] [])) _
    refine XS.iloadN X0.here hx rfl (hb hby d2_40) rfl ?_
    show Steps _ _ _ (s₁.setTop (mkF m 41 #[iv q1, iv 1, iv 0, .unset, .unset] [(.int q1)])) _
    refine X0.ldcInt hx hown (mvT hZ (hw _ (wd 20 rfl))) (g := (mkF m 41 #[iv q1, iv 1, iv 0, .unset, .unset] [(.int q1)])) rfl (hb hby d2_41) _ ?_
    show Steps _ _ _ (s₁.setTop (mkF m 43 #[iv q1, iv 1, iv 0, .unset, .unset] [(.int 65535), (.int q1)])) _
    refine XS.icmpYes X0.here hx rfl (pc0 := 43) (pc' := 50) rfl (hb hby d2_43) rfl (feq (own_neA hhi (by decide))).2 (by decide) (by decide) ?_
    show Steps _ _ _ (s₁.setTop (mkF m 50 #[iv q1, iv 1, iv 0, .unset, .unset] [])) _
    refine XS.iconst X0.here hx rfl (hb hby d2_50) ?_
    show Steps _ _ _ (s₁.setTop (mkF m 51 #[iv q1, iv 1, iv 0, .unset, .unset] [(.int 0)])) _
    refine XS.istoreN X0.here hx rfl (hb hby d2_51) rfl (l' := #[iv q1, iv 1, iv 0, iv 0, .unset]) rfl ?_
    show Steps _ _ _ (s₁.setTop (mkF m 52 #[iv q1, iv 1, iv 0, iv 0, .unset] [])) _
    refine XS.iloadN X0.here hx rfl (hb hby d2_52) rfl ?_
    show Steps _ _ _ (s₁.setTop (mkF m 53 #[iv q1, iv 1, iv 0, iv 0, .unset] [(.int q1)])) _
    refine XS.bipush X0.here hx rfl (hb hby d2_53) ?_
    show Steps _ _ _ (s₁.setTop (mkF m 55 #[iv q1, iv 1, iv 0, iv 0, .unset] [(.int 32), (.int q1)])) _
    refine XS.icmpNo X0.here hx rfl (hb hby d2_55) rfl (tlt (own_lt hhi (by decide))).2.1 ?_
    show Steps _ _ _ (s₁.setTop (mkF m 58 #[iv q1, iv 1, iv 0, iv 0, .unset] [])) _
    refine XS.iloadN X0.here hx rfl (hb hby d2_58) rfl ?_
    show Steps _ _ _ (s₁.setTop (mkF m 59 #[iv q1, iv 1, iv 0, iv 0, .unset] [(.int q1)])) _
    refine XS.bipush X0.here hx rfl (hb hby d2_59) ?_
    show Steps _ _ _ (s₁.setTop (mkF m 61 #[iv q1, iv 1, iv 0, iv 0, .unset] [(.int 9), (.int q1)])) _
    refine XS.icmpYes X0.here hx rfl (pc0 := 61) (pc' := 76) rfl (hb hby d2_61) rfl (teq (own_eq hlo hhi (by decide))).1 (by decide) (by decide) ?_
    show Steps _ _ _ (s₁.setTop (mkF m 76 #[iv q1, iv 1, iv 0, iv 0, .unset] [])) _
    refine XS.iconst X0.here hx rfl (hb hby d2_76) ?_
    show Steps _ _ _ (s₁.setTop (mkF m 77 #[iv q1, iv 1, iv 0, iv 0, .unset] [(.int 1)])) _
    refine XS.goto X0.here hx rfl (pc0 := 77) (pc' := 81) rfl (hb hby d2_77) (by decide) (by decide) ?_
    show Steps _ _ _ (s₁.setTop (mkF m 81 #[iv q1, iv 1, iv 0, iv 0, .unset] [(.int 1)])) _
    refine XS.istore X0.here hx rfl (hb hby d2_81) rfl (l' := #[iv q1, iv 1, iv 0, iv 0, iv 1]) rfl ?_
    show Steps _ _ _ (s₁.setTop (mkF m 83 #[iv q1, iv 1, iv 0, iv 0, iv 1] [])) _
    refine XS.iloadN X0.here hx rfl (hb hby d2_83) rfl ?_
    show Steps _ _ _ (s₁.setTop (mkF m 84 #[iv q1, iv 1, iv 0, iv 0, iv 1] [(.int 1)])) _
    refine XS.ifNo X0.here hx rfl (hb hby d2_84) rfl (by decide) ?_
    show Steps _ _ _ (s₁.setTop (mkF m 87 #[iv q1, iv 1, iv 0, iv 0, iv 1] [])) _
    refine XS.iloadN X0.here hx rfl (hb hby d2_87) rfl ?_
    show Steps _ _ _ (s₁.setTop (mkF m 88 #[iv q1, iv 1, iv 0, iv 0, iv 1] [(.int 0)])) _
    refine XS.ifNo X0.here hx rfl (hb hby d2_88) rfl (by decide) ?_
    show Steps _ _ _ (s₁.setTop (mkF m 91 #[iv q1, iv 1, iv 0, iv 0, iv 1] [])) _
    refine XS.iloadN X0.here hx rfl (hb hby d2_91) rfl ?_
    show Steps _ _ _ (s₁.setTop (mkF m 92 #[iv q1, iv 1, iv 0, iv 0, iv 1] [(.int 0)])) _
    refine XS.ifNo X0.here hx rfl (hb hby d2_92) rfl (by decide) ?_
    show Steps _ _ _ (s₁.setTop (mkF m 95 #[iv q1, iv 1, iv 0, iv 0, iv 1] [])) _
    refine XS.iload X0.here hx rfl (hb hby d2_95) rfl ?_
    show Steps _ _ _ (s₁.setTop (mkF m 97 #[iv q1, iv 1, iv 0, iv 0, iv 1] [(.int 1)])) _
    refine XS.ifNo X0.here hx rfl (hb hby d2_97) rfl (by decide) ?_
    show Steps _ _ _ (s₁.setTop (mkF m 100 #[iv q1, iv 1, iv 0, iv 0, iv 1] [])) _
    refine XS.iconst X0.here hx rfl (hb hby d2_100) ?_
    show Steps _ _ _ (s₁.setTop (mkF m 101 #[iv q1, iv 1, iv 0, iv 0, iv 1] [(.int 1)])) _
    refine XS.goto X0.here hx rfl (pc0 := 101) (pc' := 105) rfl (hb hby d2_101) (by decide) (by decide) ?_
    show Steps _ _ _ (s₁.setTop (mkF m 105 #[iv q1, iv 1, iv 0, iv 0, iv 1] [(.int 1)])) _
    exact q
  obtain ⟨fs, hr, hrun, hended, hW, hsame⟩ := X0.leave (v := some (.int 1)) (fun h => by rw [Bd.returns] at h; cases h)
  refine ⟨_, _, k_6 _ ?_, hrun, hended, _, _, rfl, ?_, ⟨_, rfl⟩, hW, hsame.mono (by decide) (by decide)⟩
  · exact retN X0 hx (t := .boolean) Bd.returns (by simp) (hb hby d2_105) hr
  · show QV (some (.int 1)) h0 n0 _ s₁.heap _
    rw [e0]
    exact ⟨rfl, N0, rfl⟩
set_option maxRecDepth 65536 in
set_option maxHeartbeats 40000000 in
theorem ic_3 (l : Launch) (Z : State) (a0 : Array Value) (hw : ∀ d ∈ tables_1, d.before a0 Z = true) (ws : List Jvm.Cond) (q1 : Int32) (h0 : Heap) (n0 : Nat) (O0 : Old Z n0 h0) (hlo : (10 : Int) ≤ q1.toInt) (hhi : q1.toInt ≤ 10) :
    MetFree l y_0 (head1 (Jvm.Cond.code y_0 prog_154_method_29_code 1 (some .boolean) :: ws) ({ frames := 0, cells := 0, slots := 0, locals := 0 } : Room)) (fun a U => a = #[(.int q1)] ∧ Z.Warmed39 U.vm ∧ U.heap = h0) (fun _ _ _ _ _ => True) (fun _ U o U' => ∃ v L, o = .returned v ∧ QV (some (.int 1)) h0 n0 v U'.heap L ∧ FrameEnd U o U' L ({ frames := 0, cells := 0, slots := 0, locals := 0 } : Room).cells ({ frames := 0, cells := 0, slots := 0, locals := 0 } : Room).slots) := by
  refine MetFree.of_bodySF (plainFor_of_name pn_0) hisR ?_
  intro p e s m args below meth c s₁ Bd hml0 hP hK
  obtain ⟨rfl, hZ, hh⟩ := hP
  have hx := Bd.exec
  have hby := Bd.bytes
  have hml : c.maxLocals = 1 := hml0
  have hown : s.vm.findClass "com/example/befundweg/befundweg/XmlParser" = some m.cls := findClass_of_methodNamed Bd.named
  have hnm := (name_of_methodNamed Bd.named Bd.method).1
  have X0 : Stand p l e ({ frames := 0, cells := 0, slots := 0, locals := 0 } : Room) s m #[(.int q1)] below meth c s₁ [] 0 0 := Stand.of_body Bd
  have e0 : s₁.heap = h0 := by rw [← hh, Bd.state]; rfl
  have N0 := Fr.nil n0
  have K0 := Keep.refl h0 []
  have k0 : Go p.tables e below (s₁.setTop (entryFrame m #[(.int q1)] 1)) (s₁.setTop (mkF m 0 #[iv q1] [])) := fun t k => castTop (by first | rfl | (simp [entryFrame, mkF, argsToLocals, Value.category]; done)) k
  have k_7 : Go p.tables e below (s₁.setTop (entryFrame m #[(.int q1)] 1)) (s₁.setTop (mkF m 64 #[iv q1] [(.int 1)])) := fun t q => by
    refine k0 t ?_
    refine XS.iloadN X0.here hx rfl (hb hby d1_0) rfl ?_
    show Steps _ _ _ (s₁.setTop (mkF m 1 #[iv q1] [(.int q1)])) _
    refine XS.bipush X0.here hx rfl (hb hby d1_1) ?_
    show Steps _ _ _ (s₁.setTop (mkF m 3 #[iv q1] [(.int 9), (.int q1)])) _
    refine XS.icmpNo X0.here hx rfl (hb hby d1_3) rfl (feq (own_neB hlo (by decide))).1 ?_
    show Steps _ _ _ (s₁.setTop (mkF m 6 #[iv q1] [])) _
    refine XS.iloadN X0.here hx rfl (hb hby d1_6) rfl ?_
    show Steps _ _ _ (s₁.setTop (mkF m 7 #[iv q1] [(.int q1)])) _
    refine XS.bipush X0.here hx rfl (hb hby d1_7) ?_
    show Steps _ _ _ (s₁.setTop (mkF m 9 #[iv q1] [(.int 10), (.int q1)])) _
    refine XS.icmpYes X0.here hx rfl (pc0 := 9) (pc' := 59) rfl (hb hby d1_9) rfl (teq (own_eq hlo hhi (by decide))).1 (by decide) (by decide) ?_
    show Steps _ _ _ (s₁.setTop (mkF m 59 #[iv q1] [])) _
    refine XS.iconst X0.here hx rfl (hb hby d1_59) ?_
    show Steps _ _ _ (s₁.setTop (mkF m 60 #[iv q1] [(.int 1)])) _
    refine XS.goto X0.here hx rfl (pc0 := 60) (pc' := 64) rfl (hb hby d1_60) (by decide) (by decide) ?_
    show Steps _ _ _ (s₁.setTop (mkF m 64 #[iv q1] [(.int 1)])) _
    exact q
  obtain ⟨fs, hr, hrun, hended, hW, hsame⟩ := X0.leave (v := some (.int 1)) (fun h => by rw [Bd.returns] at h; cases h)
  refine ⟨_, _, k_7 _ ?_, hrun, hended, _, _, rfl, ?_, ⟨_, rfl⟩, hW, hsame.mono (by decide) (by decide)⟩
  · exact retN X0 hx (t := .boolean) Bd.returns (by simp) (hb hby d1_64) hr
  · show QV (some (.int 1)) h0 n0 _ s₁.heap _
    rw [e0]
    exact ⟨rfl, N0, rfl⟩
set_option maxRecDepth 65536 in
set_option maxHeartbeats 40000000 in
theorem ex_3 (l : Launch) (Z : State) (a0 : Array Value) (hw : ∀ d ∈ tables_1, d.before a0 Z = true) (ws : List Jvm.Cond) (q1 : Int32) (h0 : Heap) (n0 : Nat) (O0 : Old Z n0 h0) (hlo : (10 : Int) ≤ q1.toInt) (hhi : q1.toInt ≤ 10) :
    MetFree l y_1 (head1 (Jvm.Cond.code y_1 method_3_code 5 (some .boolean) :: ws) ({ frames := 0, cells := 0, slots := 0, locals := 0 } : Room)) (fun a U => a = #[(.int q1)] ∧ Z.Warmed39 U.vm ∧ U.heap = h0) (fun _ _ _ _ _ => True) (fun _ U o U' => ∃ v L, o = .returned v ∧ QV (some (.int 1)) h0 n0 v U'.heap L ∧ FrameEnd U o U' L ({ frames := 0, cells := 0, slots := 0, locals := 0 } : Room).cells ({ frames := 0, cells := 0, slots := 0, locals := 0 } : Room).slots) := by
  refine MetFree.of_bodySF (plainFor_of_name pn_1) hisR ?_
  intro p e s m args below meth c s₁ Bd hml0 hP hK
  obtain ⟨rfl, hZ, hh⟩ := hP
  have hx := Bd.exec
  have hby := Bd.bytes
  have hml : c.maxLocals = 5 := hml0
  have hown : s.vm.findClass "com/example/befundweg/befundweg/XmlParserIsCharacterPinLaw" = some m.cls := findClass_of_methodNamed Bd.named
  have hnm := (name_of_methodNamed Bd.named Bd.method).1
  have X0 : Stand p l e ({ frames := 0, cells := 0, slots := 0, locals := 0 } : Room) s m #[(.int q1)] below meth c s₁ [] 0 0 := Stand.of_body Bd
  have e0 : s₁.heap = h0 := by rw [← hh, Bd.state]; rfl
  have N0 := Fr.nil n0
  have K0 := Keep.refl h0 []
  have k0 : Go p.tables e below (s₁.setTop (entryFrame m #[(.int q1)] 5)) (s₁.setTop (mkF m 0 #[iv q1, .unset, .unset, .unset, .unset] [])) := fun t k => castTop (by first | rfl | (simp [entryFrame, mkF, argsToLocals, Value.category]; done)) k
  have k_8 : Go p.tables e below (s₁.setTop (entryFrame m #[(.int q1)] 5)) (s₁.setTop (mkF m 105 #[iv q1, iv 1, iv 0, iv 0, iv 1] [(.int 1)])) := fun t q => by
    refine k0 t ?_
    refine XS.iloadN X0.here hx rfl (hb hby d2_0) rfl ?_
    show Steps _ _ _ (s₁.setTop (mkF m 1 #[iv q1, .unset, .unset, .unset, .unset] [(.int q1)])) _
    refine XS.ifNo X0.here hx rfl (hb hby d2_1) rfl ((if0 _ _).trans (flt (own_nlt hlo (by decide))).1) ?_
    show Steps _ _ _ (s₁.setTop (mkF m 4 #[iv q1, .unset, .unset, .unset, .unset] [])) _
    refine XS.iloadN X0.here hx rfl (hb hby d2_4) rfl ?_
    show Steps _ _ _ (s₁.setTop (mkF m 5 #[iv q1, .unset, .unset, .unset, .unset] [(.int q1)])) _
    refine X0.ldcInt hx hown (mvT hZ (hw _ (wd 5 rfl))) (g := (mkF m 5 #[iv q1, .unset, .unset, .unset, .unset] [(.int q1)])) rfl (hb hby d2_5) _ ?_
    show Steps _ _ _ (s₁.setTop (mkF m 7 #[iv q1, .unset, .unset, .unset, .unset] [(.int 1114111), (.int q1)])) _
    refine XS.icmpNo X0.here hx rfl (hb hby d2_7) rfl (flt (own_ngt hhi (by decide))).2.2.1 ?_
    show Steps _ _ _ (s₁.setTop (mkF m 10 #[iv q1, .unset, .unset, .unset, .unset] [])) _
    refine XS.iconst X0.here hx rfl (hb hby d2_10) ?_
    show Steps _ _ _ (s₁.setTop (mkF m 11 #[iv q1, .unset, .unset, .unset, .unset] [(.int 1)])) _
    refine XS.goto X0.here hx rfl (pc0 := 11) (pc' := 15) rfl (hb hby d2_11) (by decide) (by decide) ?_
    show Steps _ _ _ (s₁.setTop (mkF m 15 #[iv q1, .unset, .unset, .unset, .unset] [(.int 1)])) _
    refine XS.istoreN X0.here hx rfl (hb hby d2_15) rfl (l' := #[iv q1, iv 1, .unset, .unset, .unset]) rfl ?_
    show Steps _ _ _ (s₁.setTop (mkF m 16 #[iv q1, iv 1, .unset, .unset, .unset] [])) _
    refine XS.iloadN X0.here hx rfl (hb hby d2_16) rfl ?_
    show Steps _ _ _ (s₁.setTop (mkF m 17 #[iv q1, iv 1, .unset, .unset, .unset] [(.int q1)])) _
    refine X0.ldcInt hx hown (mvT hZ (hw _ (wd 6 rfl))) (g := (mkF m 17 #[iv q1, iv 1, .unset, .unset, .unset] [(.int q1)])) rfl (hb hby d2_17) _ ?_
    show Steps _ _ _ (s₁.setTop (mkF m 19 #[iv q1, iv 1, .unset, .unset, .unset] [(.int 55296), (.int q1)])) _
    refine XS.icmpYes X0.here hx rfl (pc0 := 19) (pc' := 32) rfl (hb hby d2_19) rfl (tlt (own_lt hhi (by decide))).1 (by decide) (by decide) ?_
    show Steps _ _ _ (s₁.setTop (mkF m 32 #[iv q1, iv 1, .unset, .unset, .unset] [])) _
    refine XS.iconst X0.here hx rfl (hb hby d2_32) ?_
    show Steps _ _ _ (s₁.setTop (mkF m 33 #[iv q1, iv 1, .unset, .unset, .unset] [(.int 0)])) _
    refine XS.istoreN X0.here hx rfl (hb hby d2_33) rfl (l' := #[iv q1, iv 1, iv 0, .unset, .unset]) rfl ?_
    show Steps _ _ _ (s₁.setTop (mkF m 34 #[iv q1, iv 1, iv 0, .unset, .unset] [])) _
    refine XS.iloadN X0.here hx rfl (hb hby d2_34) rfl ?_
    show Steps _ _ _ (s₁.setTop (mkF m 35 #[iv q1, iv 1, iv 0, .unset, .unset] [(.int q1)])) _
    refine X0.ldcInt hx hown (mvT hZ (hw _ (wd 8 rfl))) (g := (mkF m 35 #[iv q1, iv 1, iv 0, .unset, .unset] [(.int q1)])) rfl (hb hby d2_35) _ ?_
    show Steps _ _ _ (s₁.setTop (mkF m 37 #[iv q1, iv 1, iv 0, .unset, .unset] [(.int 65534), (.int q1)])) _
    refine XS.icmpNo X0.here hx rfl (hb hby d2_37) rfl (feq (own_neA hhi (by decide))).1 ?_
    show Steps _ _ _ (s₁.setTop (mkF m 40 #[iv q1, iv 1, iv 0, .unset, .unset] [])) _
    refine XS.iloadN X0.here hx rfl (hb hby d2_40) rfl ?_
    show Steps _ _ _ (s₁.setTop (mkF m 41 #[iv q1, iv 1, iv 0, .unset, .unset] [(.int q1)])) _
    refine X0.ldcInt hx hown (mvT hZ (hw _ (wd 20 rfl))) (g := (mkF m 41 #[iv q1, iv 1, iv 0, .unset, .unset] [(.int q1)])) rfl (hb hby d2_41) _ ?_
    show Steps _ _ _ (s₁.setTop (mkF m 43 #[iv q1, iv 1, iv 0, .unset, .unset] [(.int 65535), (.int q1)])) _
    refine XS.icmpYes X0.here hx rfl (pc0 := 43) (pc' := 50) rfl (hb hby d2_43) rfl (feq (own_neA hhi (by decide))).2 (by decide) (by decide) ?_
    show Steps _ _ _ (s₁.setTop (mkF m 50 #[iv q1, iv 1, iv 0, .unset, .unset] [])) _
    refine XS.iconst X0.here hx rfl (hb hby d2_50) ?_
    show Steps _ _ _ (s₁.setTop (mkF m 51 #[iv q1, iv 1, iv 0, .unset, .unset] [(.int 0)])) _
    refine XS.istoreN X0.here hx rfl (hb hby d2_51) rfl (l' := #[iv q1, iv 1, iv 0, iv 0, .unset]) rfl ?_
    show Steps _ _ _ (s₁.setTop (mkF m 52 #[iv q1, iv 1, iv 0, iv 0, .unset] [])) _
    refine XS.iloadN X0.here hx rfl (hb hby d2_52) rfl ?_
    show Steps _ _ _ (s₁.setTop (mkF m 53 #[iv q1, iv 1, iv 0, iv 0, .unset] [(.int q1)])) _
    refine XS.bipush X0.here hx rfl (hb hby d2_53) ?_
    show Steps _ _ _ (s₁.setTop (mkF m 55 #[iv q1, iv 1, iv 0, iv 0, .unset] [(.int 32), (.int q1)])) _
    refine XS.icmpNo X0.here hx rfl (hb hby d2_55) rfl (tlt (own_lt hhi (by decide))).2.1 ?_
    show Steps _ _ _ (s₁.setTop (mkF m 58 #[iv q1, iv 1, iv 0, iv 0, .unset] [])) _
    refine XS.iloadN X0.here hx rfl (hb hby d2_58) rfl ?_
    show Steps _ _ _ (s₁.setTop (mkF m 59 #[iv q1, iv 1, iv 0, iv 0, .unset] [(.int q1)])) _
    refine XS.bipush X0.here hx rfl (hb hby d2_59) ?_
    show Steps _ _ _ (s₁.setTop (mkF m 61 #[iv q1, iv 1, iv 0, iv 0, .unset] [(.int 9), (.int q1)])) _
    refine XS.icmpNo X0.here hx rfl (hb hby d2_61) rfl (feq (own_neB hlo (by decide))).1 ?_
    show Steps _ _ _ (s₁.setTop (mkF m 64 #[iv q1, iv 1, iv 0, iv 0, .unset] [])) _
    refine XS.iloadN X0.here hx rfl (hb hby d2_64) rfl ?_
    show Steps _ _ _ (s₁.setTop (mkF m 65 #[iv q1, iv 1, iv 0, iv 0, .unset] [(.int q1)])) _
    refine XS.bipush X0.here hx rfl (hb hby d2_65) ?_
    show Steps _ _ _ (s₁.setTop (mkF m 67 #[iv q1, iv 1, iv 0, iv 0, .unset] [(.int 10), (.int q1)])) _
    refine XS.icmpYes X0.here hx rfl (pc0 := 67) (pc' := 76) rfl (hb hby d2_67) rfl (teq (own_eq hlo hhi (by decide))).1 (by decide) (by decide) ?_
    show Steps _ _ _ (s₁.setTop (mkF m 76 #[iv q1, iv 1, iv 0, iv 0, .unset] [])) _
    refine XS.iconst X0.here hx rfl (hb hby d2_76) ?_
    show Steps _ _ _ (s₁.setTop (mkF m 77 #[iv q1, iv 1, iv 0, iv 0, .unset] [(.int 1)])) _
    refine XS.goto X0.here hx rfl (pc0 := 77) (pc' := 81) rfl (hb hby d2_77) (by decide) (by decide) ?_
    show Steps _ _ _ (s₁.setTop (mkF m 81 #[iv q1, iv 1, iv 0, iv 0, .unset] [(.int 1)])) _
    refine XS.istore X0.here hx rfl (hb hby d2_81) rfl (l' := #[iv q1, iv 1, iv 0, iv 0, iv 1]) rfl ?_
    show Steps _ _ _ (s₁.setTop (mkF m 83 #[iv q1, iv 1, iv 0, iv 0, iv 1] [])) _
    refine XS.iloadN X0.here hx rfl (hb hby d2_83) rfl ?_
    show Steps _ _ _ (s₁.setTop (mkF m 84 #[iv q1, iv 1, iv 0, iv 0, iv 1] [(.int 1)])) _
    refine XS.ifNo X0.here hx rfl (hb hby d2_84) rfl (by decide) ?_
    show Steps _ _ _ (s₁.setTop (mkF m 87 #[iv q1, iv 1, iv 0, iv 0, iv 1] [])) _
    refine XS.iloadN X0.here hx rfl (hb hby d2_87) rfl ?_
    show Steps _ _ _ (s₁.setTop (mkF m 88 #[iv q1, iv 1, iv 0, iv 0, iv 1] [(.int 0)])) _
    refine XS.ifNo X0.here hx rfl (hb hby d2_88) rfl (by decide) ?_
    show Steps _ _ _ (s₁.setTop (mkF m 91 #[iv q1, iv 1, iv 0, iv 0, iv 1] [])) _
    refine XS.iloadN X0.here hx rfl (hb hby d2_91) rfl ?_
    show Steps _ _ _ (s₁.setTop (mkF m 92 #[iv q1, iv 1, iv 0, iv 0, iv 1] [(.int 0)])) _
    refine XS.ifNo X0.here hx rfl (hb hby d2_92) rfl (by decide) ?_
    show Steps _ _ _ (s₁.setTop (mkF m 95 #[iv q1, iv 1, iv 0, iv 0, iv 1] [])) _
    refine XS.iload X0.here hx rfl (hb hby d2_95) rfl ?_
    show Steps _ _ _ (s₁.setTop (mkF m 97 #[iv q1, iv 1, iv 0, iv 0, iv 1] [(.int 1)])) _
    refine XS.ifNo X0.here hx rfl (hb hby d2_97) rfl (by decide) ?_
    show Steps _ _ _ (s₁.setTop (mkF m 100 #[iv q1, iv 1, iv 0, iv 0, iv 1] [])) _
    refine XS.iconst X0.here hx rfl (hb hby d2_100) ?_
    show Steps _ _ _ (s₁.setTop (mkF m 101 #[iv q1, iv 1, iv 0, iv 0, iv 1] [(.int 1)])) _
    refine XS.goto X0.here hx rfl (pc0 := 101) (pc' := 105) rfl (hb hby d2_101) (by decide) (by decide) ?_
    show Steps _ _ _ (s₁.setTop (mkF m 105 #[iv q1, iv 1, iv 0, iv 0, iv 1] [(.int 1)])) _
    exact q
  obtain ⟨fs, hr, hrun, hended, hW, hsame⟩ := X0.leave (v := some (.int 1)) (fun h => by rw [Bd.returns] at h; cases h)
  refine ⟨_, _, k_8 _ ?_, hrun, hended, _, _, rfl, ?_, ⟨_, rfl⟩, hW, hsame.mono (by decide) (by decide)⟩
  · exact retN X0 hx (t := .boolean) Bd.returns (by simp) (hb hby d2_105) hr
  · show QV (some (.int 1)) h0 n0 _ s₁.heap _
    rw [e0]
    exact ⟨rfl, N0, rfl⟩
set_option maxRecDepth 65536 in
set_option maxHeartbeats 40000000 in
theorem ic_4 (l : Launch) (Z : State) (a0 : Array Value) (hw : ∀ d ∈ tables_1, d.before a0 Z = true) (ws : List Jvm.Cond) (q1 : Int32) (h0 : Heap) (n0 : Nat) (O0 : Old Z n0 h0) (hlo : (11 : Int) ≤ q1.toInt) (hhi : q1.toInt ≤ 12) :
    MetFree l y_0 (head1 (Jvm.Cond.code y_0 prog_154_method_29_code 1 (some .boolean) :: ws) ({ frames := 0, cells := 0, slots := 0, locals := 0 } : Room)) (fun a U => a = #[(.int q1)] ∧ Z.Warmed39 U.vm ∧ U.heap = h0) (fun _ _ _ _ _ => True) (fun _ U o U' => ∃ v L, o = .returned v ∧ QV (some (.int 0)) h0 n0 v U'.heap L ∧ FrameEnd U o U' L ({ frames := 0, cells := 0, slots := 0, locals := 0 } : Room).cells ({ frames := 0, cells := 0, slots := 0, locals := 0 } : Room).slots) := by
  refine MetFree.of_bodySF (plainFor_of_name pn_0) hisR ?_
  intro p e s m args below meth c s₁ Bd hml0 hP hK
  obtain ⟨rfl, hZ, hh⟩ := hP
  have hx := Bd.exec
  have hby := Bd.bytes
  have hml : c.maxLocals = 1 := hml0
  have hown : s.vm.findClass "com/example/befundweg/befundweg/XmlParser" = some m.cls := findClass_of_methodNamed Bd.named
  have hnm := (name_of_methodNamed Bd.named Bd.method).1
  have X0 : Stand p l e ({ frames := 0, cells := 0, slots := 0, locals := 0 } : Room) s m #[(.int q1)] below meth c s₁ [] 0 0 := Stand.of_body Bd
  have e0 : s₁.heap = h0 := by rw [← hh, Bd.state]; rfl
  have N0 := Fr.nil n0
  have K0 := Keep.refl h0 []
  have k0 : Go p.tables e below (s₁.setTop (entryFrame m #[(.int q1)] 1)) (s₁.setTop (mkF m 0 #[iv q1] [])) := fun t k => castTop (by first | rfl | (simp [entryFrame, mkF, argsToLocals, Value.category]; done)) k
  have k_9 : Go p.tables e below (s₁.setTop (entryFrame m #[(.int q1)] 1)) (s₁.setTop (mkF m 64 #[iv q1] [(.int 0)])) := fun t q => by
    refine k0 t ?_
    refine XS.iloadN X0.here hx rfl (hb hby d1_0) rfl ?_
    show Steps _ _ _ (s₁.setTop (mkF m 1 #[iv q1] [(.int q1)])) _
    refine XS.bipush X0.here hx rfl (hb hby d1_1) ?_
    show Steps _ _ _ (s₁.setTop (mkF m 3 #[iv q1] [(.int 9), (.int q1)])) _
    refine XS.icmpNo X0.here hx rfl (hb hby d1_3) rfl (feq (own_neB hlo (by decide))).1 ?_
    show Steps _ _ _ (s₁.setTop (mkF m 6 #[iv q1] [])) _
    refine XS.iloadN X0.here hx rfl (hb hby d1_6) rfl ?_
    show Steps _ _ _ (s₁.setTop (mkF m 7 #[iv q1] [(.int q1)])) _
    refine XS.bipush X0.here hx rfl (hb hby d1_7) ?_
    show Steps _ _ _ (s₁.setTop (mkF m 9 #[iv q1] [(.int 10), (.int q1)])) _
    refine XS.icmpNo X0.here hx rfl (hb hby d1_9) rfl (feq (own_neB hlo (by decide))).1 ?_
    show Steps _ _ _ (s₁.setTop (mkF m 12 #[iv q1] [])) _
    refine XS.iloadN X0.here hx rfl (hb hby d1_12) rfl ?_
    show Steps _ _ _ (s₁.setTop (mkF m 13 #[iv q1] [(.int q1)])) _
    refine XS.bipush X0.here hx rfl (hb hby d1_13) ?_
    show Steps _ _ _ (s₁.setTop (mkF m 15 #[iv q1] [(.int 13), (.int q1)])) _
    refine XS.icmpNo X0.here hx rfl (hb hby d1_15) rfl (feq (own_neA hhi (by decide))).1 ?_
    show Steps _ _ _ (s₁.setTop (mkF m 18 #[iv q1] [])) _
    refine XS.iloadN X0.here hx rfl (hb hby d1_18) rfl ?_
    show Steps _ _ _ (s₁.setTop (mkF m 19 #[iv q1] [(.int q1)])) _
    refine XS.bipush X0.here hx rfl (hb hby d1_19) ?_
    show Steps _ _ _ (s₁.setTop (mkF m 21 #[iv q1] [(.int 32), (.int q1)])) _
    refine XS.icmpYes X0.here hx rfl (pc0 := 21) (pc' := 31) rfl (hb hby d1_21) rfl (tlt (own_lt hhi (by decide))).1 (by decide) (by decide) ?_
    show Steps _ _ _ (s₁.setTop (mkF m 31 #[iv q1] [])) _
    refine XS.iloadN X0.here hx rfl (hb hby d1_31) rfl ?_
    show Steps _ _ _ (s₁.setTop (mkF m 32 #[iv q1] [(.int q1)])) _
    refine X0.ldcwInt hx hown (mvT hZ (hw _ (wd 14 rfl))) (g := (mkF m 32 #[iv q1] [(.int q1)])) rfl (hb hby d1_32) _ ?_
    show Steps _ _ _ (s₁.setTop (mkF m 35 #[iv q1] [(.int 57344), (.int q1)])) _
    refine XS.icmpYes X0.here hx rfl (pc0 := 35) (pc' := 45) rfl (hb hby d1_35) rfl (tlt (own_lt hhi (by decide))).1 (by decide) (by decide) ?_
    show Steps _ _ _ (s₁.setTop (mkF m 45 #[iv q1] [])) _
    refine XS.iloadN X0.here hx rfl (hb hby d1_45) rfl ?_
    show Steps _ _ _ (s₁.setTop (mkF m 46 #[iv q1] [(.int q1)])) _
    refine X0.ldcwInt hx hown (mvT hZ (hw _ (wd 15 rfl))) (g := (mkF m 46 #[iv q1] [(.int q1)])) rfl (hb hby d1_46) _ ?_
    show Steps _ _ _ (s₁.setTop (mkF m 49 #[iv q1] [(.int 65536), (.int q1)])) _
    refine XS.icmpYes X0.here hx rfl (pc0 := 49) (pc' := 63) rfl (hb hby d1_49) rfl (tlt (own_lt hhi (by decide))).1 (by decide) (by decide) ?_
    show Steps _ _ _ (s₁.setTop (mkF m 63 #[iv q1] [])) _
    refine XS.iconst X0.here hx rfl (hb hby d1_63) ?_
    show Steps _ _ _ (s₁.setTop (mkF m 64 #[iv q1] [(.int 0)])) _
    exact q
  obtain ⟨fs, hr, hrun, hended, hW, hsame⟩ := X0.leave (v := some (.int 0)) (fun h => by rw [Bd.returns] at h; cases h)
  refine ⟨_, _, k_9 _ ?_, hrun, hended, _, _, rfl, ?_, ⟨_, rfl⟩, hW, hsame.mono (by decide) (by decide)⟩
  · exact retN X0 hx (t := .boolean) Bd.returns (by simp) (hb hby d1_64) hr
  · show QV (some (.int 0)) h0 n0 _ s₁.heap _
    rw [e0]
    exact ⟨rfl, N0, rfl⟩
set_option maxRecDepth 65536 in
set_option maxHeartbeats 40000000 in
theorem ex_4 (l : Launch) (Z : State) (a0 : Array Value) (hw : ∀ d ∈ tables_1, d.before a0 Z = true) (ws : List Jvm.Cond) (q1 : Int32) (h0 : Heap) (n0 : Nat) (O0 : Old Z n0 h0) (hlo : (11 : Int) ≤ q1.toInt) (hhi : q1.toInt ≤ 12) :
    MetFree l y_1 (head1 (Jvm.Cond.code y_1 method_3_code 5 (some .boolean) :: ws) ({ frames := 0, cells := 0, slots := 0, locals := 0 } : Room)) (fun a U => a = #[(.int q1)] ∧ Z.Warmed39 U.vm ∧ U.heap = h0) (fun _ _ _ _ _ => True) (fun _ U o U' => ∃ v L, o = .returned v ∧ QV (some (.int 0)) h0 n0 v U'.heap L ∧ FrameEnd U o U' L ({ frames := 0, cells := 0, slots := 0, locals := 0 } : Room).cells ({ frames := 0, cells := 0, slots := 0, locals := 0 } : Room).slots) := by
  refine MetFree.of_bodySF (plainFor_of_name pn_1) hisR ?_
  intro p e s m args below meth c s₁ Bd hml0 hP hK
  obtain ⟨rfl, hZ, hh⟩ := hP
  have hx := Bd.exec
  have hby := Bd.bytes
  have hml : c.maxLocals = 5 := hml0
  have hown : s.vm.findClass "com/example/befundweg/befundweg/XmlParserIsCharacterPinLaw" = some m.cls := findClass_of_methodNamed Bd.named
  have hnm := (name_of_methodNamed Bd.named Bd.method).1
  have X0 : Stand p l e ({ frames := 0, cells := 0, slots := 0, locals := 0 } : Room) s m #[(.int q1)] below meth c s₁ [] 0 0 := Stand.of_body Bd
  have e0 : s₁.heap = h0 := by rw [← hh, Bd.state]; rfl
  have N0 := Fr.nil n0
  have K0 := Keep.refl h0 []
  have k0 : Go p.tables e below (s₁.setTop (entryFrame m #[(.int q1)] 5)) (s₁.setTop (mkF m 0 #[iv q1, .unset, .unset, .unset, .unset] [])) := fun t k => castTop (by first | rfl | (simp [entryFrame, mkF, argsToLocals, Value.category]; done)) k
  have k_10 : Go p.tables e below (s₁.setTop (entryFrame m #[(.int q1)] 5)) (s₁.setTop (mkF m 105 #[iv q1, iv 1, iv 0, iv 0, iv 0] [(.int 0)])) := fun t q => by
    refine k0 t ?_
    refine XS.iloadN X0.here hx rfl (hb hby d2_0) rfl ?_
    show Steps _ _ _ (s₁.setTop (mkF m 1 #[iv q1, .unset, .unset, .unset, .unset] [(.int q1)])) _
    refine XS.ifNo X0.here hx rfl (hb hby d2_1) rfl ((if0 _ _).trans (flt (own_nlt hlo (by decide))).1) ?_
    show Steps _ _ _ (s₁.setTop (mkF m 4 #[iv q1, .unset, .unset, .unset, .unset] [])) _
    refine XS.iloadN X0.here hx rfl (hb hby d2_4) rfl ?_
    show Steps _ _ _ (s₁.setTop (mkF m 5 #[iv q1, .unset, .unset, .unset, .unset] [(.int q1)])) _
    refine X0.ldcInt hx hown (mvT hZ (hw _ (wd 5 rfl))) (g := (mkF m 5 #[iv q1, .unset, .unset, .unset, .unset] [(.int q1)])) rfl (hb hby d2_5) _ ?_
    show Steps _ _ _ (s₁.setTop (mkF m 7 #[iv q1, .unset, .unset, .unset, .unset] [(.int 1114111), (.int q1)])) _
    refine XS.icmpNo X0.here hx rfl (hb hby d2_7) rfl (flt (own_ngt hhi (by decide))).2.2.1 ?_
    show Steps _ _ _ (s₁.setTop (mkF m 10 #[iv q1, .unset, .unset, .unset, .unset] [])) _
    refine XS.iconst X0.here hx rfl (hb hby d2_10) ?_
    show Steps _ _ _ (s₁.setTop (mkF m 11 #[iv q1, .unset, .unset, .unset, .unset] [(.int 1)])) _
    refine XS.goto X0.here hx rfl (pc0 := 11) (pc' := 15) rfl (hb hby d2_11) (by decide) (by decide) ?_
    show Steps _ _ _ (s₁.setTop (mkF m 15 #[iv q1, .unset, .unset, .unset, .unset] [(.int 1)])) _
    refine XS.istoreN X0.here hx rfl (hb hby d2_15) rfl (l' := #[iv q1, iv 1, .unset, .unset, .unset]) rfl ?_
    show Steps _ _ _ (s₁.setTop (mkF m 16 #[iv q1, iv 1, .unset, .unset, .unset] [])) _
    refine XS.iloadN X0.here hx rfl (hb hby d2_16) rfl ?_
    show Steps _ _ _ (s₁.setTop (mkF m 17 #[iv q1, iv 1, .unset, .unset, .unset] [(.int q1)])) _
    refine X0.ldcInt hx hown (mvT hZ (hw _ (wd 6 rfl))) (g := (mkF m 17 #[iv q1, iv 1, .unset, .unset, .unset] [(.int q1)])) rfl (hb hby d2_17) _ ?_
    show Steps _ _ _ (s₁.setTop (mkF m 19 #[iv q1, iv 1, .unset, .unset, .unset] [(.int 55296), (.int q1)])) _
    refine XS.icmpYes X0.here hx rfl (pc0 := 19) (pc' := 32) rfl (hb hby d2_19) rfl (tlt (own_lt hhi (by decide))).1 (by decide) (by decide) ?_
    show Steps _ _ _ (s₁.setTop (mkF m 32 #[iv q1, iv 1, .unset, .unset, .unset] [])) _
    refine XS.iconst X0.here hx rfl (hb hby d2_32) ?_
    show Steps _ _ _ (s₁.setTop (mkF m 33 #[iv q1, iv 1, .unset, .unset, .unset] [(.int 0)])) _
    refine XS.istoreN X0.here hx rfl (hb hby d2_33) rfl (l' := #[iv q1, iv 1, iv 0, .unset, .unset]) rfl ?_
    show Steps _ _ _ (s₁.setTop (mkF m 34 #[iv q1, iv 1, iv 0, .unset, .unset] [])) _
    refine XS.iloadN X0.here hx rfl (hb hby d2_34) rfl ?_
    show Steps _ _ _ (s₁.setTop (mkF m 35 #[iv q1, iv 1, iv 0, .unset, .unset] [(.int q1)])) _
    refine X0.ldcInt hx hown (mvT hZ (hw _ (wd 8 rfl))) (g := (mkF m 35 #[iv q1, iv 1, iv 0, .unset, .unset] [(.int q1)])) rfl (hb hby d2_35) _ ?_
    show Steps _ _ _ (s₁.setTop (mkF m 37 #[iv q1, iv 1, iv 0, .unset, .unset] [(.int 65534), (.int q1)])) _
    refine XS.icmpNo X0.here hx rfl (hb hby d2_37) rfl (feq (own_neA hhi (by decide))).1 ?_
    show Steps _ _ _ (s₁.setTop (mkF m 40 #[iv q1, iv 1, iv 0, .unset, .unset] [])) _
    refine XS.iloadN X0.here hx rfl (hb hby d2_40) rfl ?_
    show Steps _ _ _ (s₁.setTop (mkF m 41 #[iv q1, iv 1, iv 0, .unset, .unset] [(.int q1)])) _
    refine X0.ldcInt hx hown (mvT hZ (hw _ (wd 20 rfl))) (g := (mkF m 41 #[iv q1, iv 1, iv 0, .unset, .unset] [(.int q1)])) rfl (hb hby d2_41) _ ?_
    show Steps _ _ _ (s₁.setTop (mkF m 43 #[iv q1, iv 1, iv 0, .unset, .unset] [(.int 65535), (.int q1)])) _
    refine XS.icmpYes X0.here hx rfl (pc0 := 43) (pc' := 50) rfl (hb hby d2_43) rfl (feq (own_neA hhi (by decide))).2 (by decide) (by decide) ?_
    show Steps _ _ _ (s₁.setTop (mkF m 50 #[iv q1, iv 1, iv 0, .unset, .unset] [])) _
    refine XS.iconst X0.here hx rfl (hb hby d2_50) ?_
    show Steps _ _ _ (s₁.setTop (mkF m 51 #[iv q1, iv 1, iv 0, .unset, .unset] [(.int 0)])) _
    refine XS.istoreN X0.here hx rfl (hb hby d2_51) rfl (l' := #[iv q1, iv 1, iv 0, iv 0, .unset]) rfl ?_
    show Steps _ _ _ (s₁.setTop (mkF m 52 #[iv q1, iv 1, iv 0, iv 0, .unset] [])) _
    refine XS.iloadN X0.here hx rfl (hb hby d2_52) rfl ?_
    show Steps _ _ _ (s₁.setTop (mkF m 53 #[iv q1, iv 1, iv 0, iv 0, .unset] [(.int q1)])) _
    refine XS.bipush X0.here hx rfl (hb hby d2_53) ?_
    show Steps _ _ _ (s₁.setTop (mkF m 55 #[iv q1, iv 1, iv 0, iv 0, .unset] [(.int 32), (.int q1)])) _
    refine XS.icmpNo X0.here hx rfl (hb hby d2_55) rfl (tlt (own_lt hhi (by decide))).2.1 ?_
    show Steps _ _ _ (s₁.setTop (mkF m 58 #[iv q1, iv 1, iv 0, iv 0, .unset] [])) _
    refine XS.iloadN X0.here hx rfl (hb hby d2_58) rfl ?_
    show Steps _ _ _ (s₁.setTop (mkF m 59 #[iv q1, iv 1, iv 0, iv 0, .unset] [(.int q1)])) _
    refine XS.bipush X0.here hx rfl (hb hby d2_59) ?_
    show Steps _ _ _ (s₁.setTop (mkF m 61 #[iv q1, iv 1, iv 0, iv 0, .unset] [(.int 9), (.int q1)])) _
    refine XS.icmpNo X0.here hx rfl (hb hby d2_61) rfl (feq (own_neB hlo (by decide))).1 ?_
    show Steps _ _ _ (s₁.setTop (mkF m 64 #[iv q1, iv 1, iv 0, iv 0, .unset] [])) _
    refine XS.iloadN X0.here hx rfl (hb hby d2_64) rfl ?_
    show Steps _ _ _ (s₁.setTop (mkF m 65 #[iv q1, iv 1, iv 0, iv 0, .unset] [(.int q1)])) _
    refine XS.bipush X0.here hx rfl (hb hby d2_65) ?_
    show Steps _ _ _ (s₁.setTop (mkF m 67 #[iv q1, iv 1, iv 0, iv 0, .unset] [(.int 10), (.int q1)])) _
    refine XS.icmpNo X0.here hx rfl (hb hby d2_67) rfl (feq (own_neB hlo (by decide))).1 ?_
    show Steps _ _ _ (s₁.setTop (mkF m 70 #[iv q1, iv 1, iv 0, iv 0, .unset] [])) _
    refine XS.iloadN X0.here hx rfl (hb hby d2_70) rfl ?_
    show Steps _ _ _ (s₁.setTop (mkF m 71 #[iv q1, iv 1, iv 0, iv 0, .unset] [(.int q1)])) _
    refine XS.bipush X0.here hx rfl (hb hby d2_71) ?_
    show Steps _ _ _ (s₁.setTop (mkF m 73 #[iv q1, iv 1, iv 0, iv 0, .unset] [(.int 13), (.int q1)])) _
    refine XS.icmpYes X0.here hx rfl (pc0 := 73) (pc' := 80) rfl (hb hby d2_73) rfl (feq (own_neA hhi (by decide))).2 (by decide) (by decide) ?_
    show Steps _ _ _ (s₁.setTop (mkF m 80 #[iv q1, iv 1, iv 0, iv 0, .unset] [])) _
    refine XS.iconst X0.here hx rfl (hb hby d2_80) ?_
    show Steps _ _ _ (s₁.setTop (mkF m 81 #[iv q1, iv 1, iv 0, iv 0, .unset] [(.int 0)])) _
    refine XS.istore X0.here hx rfl (hb hby d2_81) rfl (l' := #[iv q1, iv 1, iv 0, iv 0, iv 0]) rfl ?_
    show Steps _ _ _ (s₁.setTop (mkF m 83 #[iv q1, iv 1, iv 0, iv 0, iv 0] [])) _
    refine XS.iloadN X0.here hx rfl (hb hby d2_83) rfl ?_
    show Steps _ _ _ (s₁.setTop (mkF m 84 #[iv q1, iv 1, iv 0, iv 0, iv 0] [(.int 1)])) _
    refine XS.ifNo X0.here hx rfl (hb hby d2_84) rfl (by decide) ?_
    show Steps _ _ _ (s₁.setTop (mkF m 87 #[iv q1, iv 1, iv 0, iv 0, iv 0] [])) _
    refine XS.iloadN X0.here hx rfl (hb hby d2_87) rfl ?_
    show Steps _ _ _ (s₁.setTop (mkF m 88 #[iv q1, iv 1, iv 0, iv 0, iv 0] [(.int 0)])) _
    refine XS.ifNo X0.here hx rfl (hb hby d2_88) rfl (by decide) ?_
    show Steps _ _ _ (s₁.setTop (mkF m 91 #[iv q1, iv 1, iv 0, iv 0, iv 0] [])) _
    refine XS.iloadN X0.here hx rfl (hb hby d2_91) rfl ?_
    show Steps _ _ _ (s₁.setTop (mkF m 92 #[iv q1, iv 1, iv 0, iv 0, iv 0] [(.int 0)])) _
    refine XS.ifNo X0.here hx rfl (hb hby d2_92) rfl (by decide) ?_
    show Steps _ _ _ (s₁.setTop (mkF m 95 #[iv q1, iv 1, iv 0, iv 0, iv 0] [])) _
    refine XS.iload X0.here hx rfl (hb hby d2_95) rfl ?_
    show Steps _ _ _ (s₁.setTop (mkF m 97 #[iv q1, iv 1, iv 0, iv 0, iv 0] [(.int 0)])) _
    refine XS.ifYes X0.here hx rfl (pc0 := 97) (pc' := 104) rfl (hb hby d2_97) rfl (by decide) (by decide) (by decide) ?_
    show Steps _ _ _ (s₁.setTop (mkF m 104 #[iv q1, iv 1, iv 0, iv 0, iv 0] [])) _
    refine XS.iconst X0.here hx rfl (hb hby d2_104) ?_
    show Steps _ _ _ (s₁.setTop (mkF m 105 #[iv q1, iv 1, iv 0, iv 0, iv 0] [(.int 0)])) _
    exact q
  obtain ⟨fs, hr, hrun, hended, hW, hsame⟩ := X0.leave (v := some (.int 0)) (fun h => by rw [Bd.returns] at h; cases h)
  refine ⟨_, _, k_10 _ ?_, hrun, hended, _, _, rfl, ?_, ⟨_, rfl⟩, hW, hsame.mono (by decide) (by decide)⟩
  · exact retN X0 hx (t := .boolean) Bd.returns (by simp) (hb hby d2_105) hr
  · show QV (some (.int 0)) h0 n0 _ s₁.heap _
    rw [e0]
    exact ⟨rfl, N0, rfl⟩
set_option maxRecDepth 65536 in
set_option maxHeartbeats 40000000 in
theorem ic_5 (l : Launch) (Z : State) (a0 : Array Value) (hw : ∀ d ∈ tables_1, d.before a0 Z = true) (ws : List Jvm.Cond) (q1 : Int32) (h0 : Heap) (n0 : Nat) (O0 : Old Z n0 h0) (hlo : (13 : Int) ≤ q1.toInt) (hhi : q1.toInt ≤ 13) :
    MetFree l y_0 (head1 (Jvm.Cond.code y_0 prog_154_method_29_code 1 (some .boolean) :: ws) ({ frames := 0, cells := 0, slots := 0, locals := 0 } : Room)) (fun a U => a = #[(.int q1)] ∧ Z.Warmed39 U.vm ∧ U.heap = h0) (fun _ _ _ _ _ => True) (fun _ U o U' => ∃ v L, o = .returned v ∧ QV (some (.int 1)) h0 n0 v U'.heap L ∧ FrameEnd U o U' L ({ frames := 0, cells := 0, slots := 0, locals := 0 } : Room).cells ({ frames := 0, cells := 0, slots := 0, locals := 0 } : Room).slots) := by
  refine MetFree.of_bodySF (plainFor_of_name pn_0) hisR ?_
  intro p e s m args below meth c s₁ Bd hml0 hP hK
  obtain ⟨rfl, hZ, hh⟩ := hP
  have hx := Bd.exec
  have hby := Bd.bytes
  have hml : c.maxLocals = 1 := hml0
  have hown : s.vm.findClass "com/example/befundweg/befundweg/XmlParser" = some m.cls := findClass_of_methodNamed Bd.named
  have hnm := (name_of_methodNamed Bd.named Bd.method).1
  have X0 : Stand p l e ({ frames := 0, cells := 0, slots := 0, locals := 0 } : Room) s m #[(.int q1)] below meth c s₁ [] 0 0 := Stand.of_body Bd
  have e0 : s₁.heap = h0 := by rw [← hh, Bd.state]; rfl
  have N0 := Fr.nil n0
  have K0 := Keep.refl h0 []
  have k0 : Go p.tables e below (s₁.setTop (entryFrame m #[(.int q1)] 1)) (s₁.setTop (mkF m 0 #[iv q1] [])) := fun t k => castTop (by first | rfl | (simp [entryFrame, mkF, argsToLocals, Value.category]; done)) k
  have k_11 : Go p.tables e below (s₁.setTop (entryFrame m #[(.int q1)] 1)) (s₁.setTop (mkF m 64 #[iv q1] [(.int 1)])) := fun t q => by
    refine k0 t ?_
    refine XS.iloadN X0.here hx rfl (hb hby d1_0) rfl ?_
    show Steps _ _ _ (s₁.setTop (mkF m 1 #[iv q1] [(.int q1)])) _
    refine XS.bipush X0.here hx rfl (hb hby d1_1) ?_
    show Steps _ _ _ (s₁.setTop (mkF m 3 #[iv q1] [(.int 9), (.int q1)])) _
    refine XS.icmpNo X0.here hx rfl (hb hby d1_3) rfl (feq (own_neB hlo (by decide))).1 ?_
    show Steps _ _ _ (s₁.setTop (mkF m 6 #[iv q1] [])) _
    refine XS.iloadN X0.here hx rfl (hb hby d1_6) rfl ?_
    show Steps _ _ _ (s₁.setTop (mkF m 7 #[iv q1] [(.int q1)])) _
    refine XS.bipush X0.here hx rfl (hb hby d1_7) ?_
    show Steps _ _ _ (s₁.setTop (mkF m 9 #[iv q1] [(.int 10), (.int q1)])) _
    refine XS.icmpNo X0.here hx rfl (hb hby d1_9) rfl (feq (own_neB hlo (by decide))).1 ?_
    show Steps _ _ _ (s₁.setTop (mkF m 12 #[iv q1] [])) _
    refine XS.iloadN X0.here hx rfl (hb hby d1_12) rfl ?_
    show Steps _ _ _ (s₁.setTop (mkF m 13 #[iv q1] [(.int q1)])) _
    refine XS.bipush X0.here hx rfl (hb hby d1_13) ?_
    show Steps _ _ _ (s₁.setTop (mkF m 15 #[iv q1] [(.int 13), (.int q1)])) _
    refine XS.icmpYes X0.here hx rfl (pc0 := 15) (pc' := 59) rfl (hb hby d1_15) rfl (teq (own_eq hlo hhi (by decide))).1 (by decide) (by decide) ?_
    show Steps _ _ _ (s₁.setTop (mkF m 59 #[iv q1] [])) _
    refine XS.iconst X0.here hx rfl (hb hby d1_59) ?_
    show Steps _ _ _ (s₁.setTop (mkF m 60 #[iv q1] [(.int 1)])) _
    refine XS.goto X0.here hx rfl (pc0 := 60) (pc' := 64) rfl (hb hby d1_60) (by decide) (by decide) ?_
    show Steps _ _ _ (s₁.setTop (mkF m 64 #[iv q1] [(.int 1)])) _
    exact q
  obtain ⟨fs, hr, hrun, hended, hW, hsame⟩ := X0.leave (v := some (.int 1)) (fun h => by rw [Bd.returns] at h; cases h)
  refine ⟨_, _, k_11 _ ?_, hrun, hended, _, _, rfl, ?_, ⟨_, rfl⟩, hW, hsame.mono (by decide) (by decide)⟩
  · exact retN X0 hx (t := .boolean) Bd.returns (by simp) (hb hby d1_64) hr
  · show QV (some (.int 1)) h0 n0 _ s₁.heap _
    rw [e0]
    exact ⟨rfl, N0, rfl⟩
set_option maxRecDepth 65536 in
set_option maxHeartbeats 40000000 in
theorem ex_5 (l : Launch) (Z : State) (a0 : Array Value) (hw : ∀ d ∈ tables_1, d.before a0 Z = true) (ws : List Jvm.Cond) (q1 : Int32) (h0 : Heap) (n0 : Nat) (O0 : Old Z n0 h0) (hlo : (13 : Int) ≤ q1.toInt) (hhi : q1.toInt ≤ 13) :
    MetFree l y_1 (head1 (Jvm.Cond.code y_1 method_3_code 5 (some .boolean) :: ws) ({ frames := 0, cells := 0, slots := 0, locals := 0 } : Room)) (fun a U => a = #[(.int q1)] ∧ Z.Warmed39 U.vm ∧ U.heap = h0) (fun _ _ _ _ _ => True) (fun _ U o U' => ∃ v L, o = .returned v ∧ QV (some (.int 1)) h0 n0 v U'.heap L ∧ FrameEnd U o U' L ({ frames := 0, cells := 0, slots := 0, locals := 0 } : Room).cells ({ frames := 0, cells := 0, slots := 0, locals := 0 } : Room).slots) := by
  refine MetFree.of_bodySF (plainFor_of_name pn_1) hisR ?_
  intro p e s m args below meth c s₁ Bd hml0 hP hK
  obtain ⟨rfl, hZ, hh⟩ := hP
  have hx := Bd.exec
  have hby := Bd.bytes
  have hml : c.maxLocals = 5 := hml0
  have hown : s.vm.findClass "com/example/befundweg/befundweg/XmlParserIsCharacterPinLaw" = some m.cls := findClass_of_methodNamed Bd.named
  have hnm := (name_of_methodNamed Bd.named Bd.method).1
  have X0 : Stand p l e ({ frames := 0, cells := 0, slots := 0, locals := 0 } : Room) s m #[(.int q1)] below meth c s₁ [] 0 0 := Stand.of_body Bd
  have e0 : s₁.heap = h0 := by rw [← hh, Bd.state]; rfl
  have N0 := Fr.nil n0
  have K0 := Keep.refl h0 []
  have k0 : Go p.tables e below (s₁.setTop (entryFrame m #[(.int q1)] 5)) (s₁.setTop (mkF m 0 #[iv q1, .unset, .unset, .unset, .unset] [])) := fun t k => castTop (by first | rfl | (simp [entryFrame, mkF, argsToLocals, Value.category]; done)) k
  have k_12 : Go p.tables e below (s₁.setTop (entryFrame m #[(.int q1)] 5)) (s₁.setTop (mkF m 105 #[iv q1, iv 1, iv 0, iv 0, iv 1] [(.int 1)])) := fun t q => by
    refine k0 t ?_
    refine XS.iloadN X0.here hx rfl (hb hby d2_0) rfl ?_
    show Steps _ _ _ (s₁.setTop (mkF m 1 #[iv q1, .unset, .unset, .unset, .unset] [(.int q1)])) _
    refine XS.ifNo X0.here hx rfl (hb hby d2_1) rfl ((if0 _ _).trans (flt (own_nlt hlo (by decide))).1) ?_
    show Steps _ _ _ (s₁.setTop (mkF m 4 #[iv q1, .unset, .unset, .unset, .unset] [])) _
    refine XS.iloadN X0.here hx rfl (hb hby d2_4) rfl ?_
    show Steps _ _ _ (s₁.setTop (mkF m 5 #[iv q1, .unset, .unset, .unset, .unset] [(.int q1)])) _
    refine X0.ldcInt hx hown (mvT hZ (hw _ (wd 5 rfl))) (g := (mkF m 5 #[iv q1, .unset, .unset, .unset, .unset] [(.int q1)])) rfl (hb hby d2_5) _ ?_
    show Steps _ _ _ (s₁.setTop (mkF m 7 #[iv q1, .unset, .unset, .unset, .unset] [(.int 1114111), (.int q1)])) _
    refine XS.icmpNo X0.here hx rfl (hb hby d2_7) rfl (flt (own_ngt hhi (by decide))).2.2.1 ?_
    show Steps _ _ _ (s₁.setTop (mkF m 10 #[iv q1, .unset, .unset, .unset, .unset] [])) _
    refine XS.iconst X0.here hx rfl (hb hby d2_10) ?_
    show Steps _ _ _ (s₁.setTop (mkF m 11 #[iv q1, .unset, .unset, .unset, .unset] [(.int 1)])) _
    refine XS.goto X0.here hx rfl (pc0 := 11) (pc' := 15) rfl (hb hby d2_11) (by decide) (by decide) ?_
    show Steps _ _ _ (s₁.setTop (mkF m 15 #[iv q1, .unset, .unset, .unset, .unset] [(.int 1)])) _
    refine XS.istoreN X0.here hx rfl (hb hby d2_15) rfl (l' := #[iv q1, iv 1, .unset, .unset, .unset]) rfl ?_
    show Steps _ _ _ (s₁.setTop (mkF m 16 #[iv q1, iv 1, .unset, .unset, .unset] [])) _
    refine XS.iloadN X0.here hx rfl (hb hby d2_16) rfl ?_
    show Steps _ _ _ (s₁.setTop (mkF m 17 #[iv q1, iv 1, .unset, .unset, .unset] [(.int q1)])) _
    refine X0.ldcInt hx hown (mvT hZ (hw _ (wd 6 rfl))) (g := (mkF m 17 #[iv q1, iv 1, .unset, .unset, .unset] [(.int q1)])) rfl (hb hby d2_17) _ ?_
    show Steps _ _ _ (s₁.setTop (mkF m 19 #[iv q1, iv 1, .unset, .unset, .unset] [(.int 55296), (.int q1)])) _
    refine XS.icmpYes X0.here hx rfl (pc0 := 19) (pc' := 32) rfl (hb hby d2_19) rfl (tlt (own_lt hhi (by decide))).1 (by decide) (by decide) ?_
    show Steps _ _ _ (s₁.setTop (mkF m 32 #[iv q1, iv 1, .unset, .unset, .unset] [])) _
    refine XS.iconst X0.here hx rfl (hb hby d2_32) ?_
    show Steps _ _ _ (s₁.setTop (mkF m 33 #[iv q1, iv 1, .unset, .unset, .unset] [(.int 0)])) _
    refine XS.istoreN X0.here hx rfl (hb hby d2_33) rfl (l' := #[iv q1, iv 1, iv 0, .unset, .unset]) rfl ?_
    show Steps _ _ _ (s₁.setTop (mkF m 34 #[iv q1, iv 1, iv 0, .unset, .unset] [])) _
    refine XS.iloadN X0.here hx rfl (hb hby d2_34) rfl ?_
    show Steps _ _ _ (s₁.setTop (mkF m 35 #[iv q1, iv 1, iv 0, .unset, .unset] [(.int q1)])) _
    refine X0.ldcInt hx hown (mvT hZ (hw _ (wd 8 rfl))) (g := (mkF m 35 #[iv q1, iv 1, iv 0, .unset, .unset] [(.int q1)])) rfl (hb hby d2_35) _ ?_
    show Steps _ _ _ (s₁.setTop (mkF m 37 #[iv q1, iv 1, iv 0, .unset, .unset] [(.int 65534), (.int q1)])) _
    refine XS.icmpNo X0.here hx rfl (hb hby d2_37) rfl (feq (own_neA hhi (by decide))).1 ?_
    show Steps _ _ _ (s₁.setTop (mkF m 40 #[iv q1, iv 1, iv 0, .unset, .unset] [])) _
    refine XS.iloadN X0.here hx rfl (hb hby d2_40) rfl ?_
    show Steps _ _ _ (s₁.setTop (mkF m 41 #[iv q1, iv 1, iv 0, .unset, .unset] [(.int q1)])) _
    refine X0.ldcInt hx hown (mvT hZ (hw _ (wd 20 rfl))) (g := (mkF m 41 #[iv q1, iv 1, iv 0, .unset, .unset] [(.int q1)])) rfl (hb hby d2_41) _ ?_
    show Steps _ _ _ (s₁.setTop (mkF m 43 #[iv q1, iv 1, iv 0, .unset, .unset] [(.int 65535), (.int q1)])) _
    refine XS.icmpYes X0.here hx rfl (pc0 := 43) (pc' := 50) rfl (hb hby d2_43) rfl (feq (own_neA hhi (by decide))).2 (by decide) (by decide) ?_
    show Steps _ _ _ (s₁.setTop (mkF m 50 #[iv q1, iv 1, iv 0, .unset, .unset] [])) _
    refine XS.iconst X0.here hx rfl (hb hby d2_50) ?_
    show Steps _ _ _ (s₁.setTop (mkF m 51 #[iv q1, iv 1, iv 0, .unset, .unset] [(.int 0)])) _
    refine XS.istoreN X0.here hx rfl (hb hby d2_51) rfl (l' := #[iv q1, iv 1, iv 0, iv 0, .unset]) rfl ?_
    show Steps _ _ _ (s₁.setTop (mkF m 52 #[iv q1, iv 1, iv 0, iv 0, .unset] [])) _
    refine XS.iloadN X0.here hx rfl (hb hby d2_52) rfl ?_
    show Steps _ _ _ (s₁.setTop (mkF m 53 #[iv q1, iv 1, iv 0, iv 0, .unset] [(.int q1)])) _
    refine XS.bipush X0.here hx rfl (hb hby d2_53) ?_
    show Steps _ _ _ (s₁.setTop (mkF m 55 #[iv q1, iv 1, iv 0, iv 0, .unset] [(.int 32), (.int q1)])) _
    refine XS.icmpNo X0.here hx rfl (hb hby d2_55) rfl (tlt (own_lt hhi (by decide))).2.1 ?_
    show Steps _ _ _ (s₁.setTop (mkF m 58 #[iv q1, iv 1, iv 0, iv 0, .unset] [])) _
    refine XS.iloadN X0.here hx rfl (hb hby d2_58) rfl ?_
    show Steps _ _ _ (s₁.setTop (mkF m 59 #[iv q1, iv 1, iv 0, iv 0, .unset] [(.int q1)])) _
    refine XS.bipush X0.here hx rfl (hb hby d2_59) ?_
    show Steps _ _ _ (s₁.setTop (mkF m 61 #[iv q1, iv 1, iv 0, iv 0, .unset] [(.int 9), (.int q1)])) _
    refine XS.icmpNo X0.here hx rfl (hb hby d2_61) rfl (feq (own_neB hlo (by decide))).1 ?_
    show Steps _ _ _ (s₁.setTop (mkF m 64 #[iv q1, iv 1, iv 0, iv 0, .unset] [])) _
    refine XS.iloadN X0.here hx rfl (hb hby d2_64) rfl ?_
    show Steps _ _ _ (s₁.setTop (mkF m 65 #[iv q1, iv 1, iv 0, iv 0, .unset] [(.int q1)])) _
    refine XS.bipush X0.here hx rfl (hb hby d2_65) ?_
    show Steps _ _ _ (s₁.setTop (mkF m 67 #[iv q1, iv 1, iv 0, iv 0, .unset] [(.int 10), (.int q1)])) _
    refine XS.icmpNo X0.here hx rfl (hb hby d2_67) rfl (feq (own_neB hlo (by decide))).1 ?_
    show Steps _ _ _ (s₁.setTop (mkF m 70 #[iv q1, iv 1, iv 0, iv 0, .unset] [])) _
    refine XS.iloadN X0.here hx rfl (hb hby d2_70) rfl ?_
    show Steps _ _ _ (s₁.setTop (mkF m 71 #[iv q1, iv 1, iv 0, iv 0, .unset] [(.int q1)])) _
    refine XS.bipush X0.here hx rfl (hb hby d2_71) ?_
    show Steps _ _ _ (s₁.setTop (mkF m 73 #[iv q1, iv 1, iv 0, iv 0, .unset] [(.int 13), (.int q1)])) _
    refine XS.icmpNo X0.here hx rfl (hb hby d2_73) rfl (teq (own_eq hlo hhi (by decide))).2 ?_
    show Steps _ _ _ (s₁.setTop (mkF m 76 #[iv q1, iv 1, iv 0, iv 0, .unset] [])) _
    refine XS.iconst X0.here hx rfl (hb hby d2_76) ?_
    show Steps _ _ _ (s₁.setTop (mkF m 77 #[iv q1, iv 1, iv 0, iv 0, .unset] [(.int 1)])) _
    refine XS.goto X0.here hx rfl (pc0 := 77) (pc' := 81) rfl (hb hby d2_77) (by decide) (by decide) ?_
    show Steps _ _ _ (s₁.setTop (mkF m 81 #[iv q1, iv 1, iv 0, iv 0, .unset] [(.int 1)])) _
    refine XS.istore X0.here hx rfl (hb hby d2_81) rfl (l' := #[iv q1, iv 1, iv 0, iv 0, iv 1]) rfl ?_
    show Steps _ _ _ (s₁.setTop (mkF m 83 #[iv q1, iv 1, iv 0, iv 0, iv 1] [])) _
    refine XS.iloadN X0.here hx rfl (hb hby d2_83) rfl ?_
    show Steps _ _ _ (s₁.setTop (mkF m 84 #[iv q1, iv 1, iv 0, iv 0, iv 1] [(.int 1)])) _
    refine XS.ifNo X0.here hx rfl (hb hby d2_84) rfl (by decide) ?_
    show Steps _ _ _ (s₁.setTop (mkF m 87 #[iv q1, iv 1, iv 0, iv 0, iv 1] [])) _
    refine XS.iloadN X0.here hx rfl (hb hby d2_87) rfl ?_
    show Steps _ _ _ (s₁.setTop (mkF m 88 #[iv q1, iv 1, iv 0, iv 0, iv 1] [(.int 0)])) _
    refine XS.ifNo X0.here hx rfl (hb hby d2_88) rfl (by decide) ?_
    show Steps _ _ _ (s₁.setTop (mkF m 91 #[iv q1, iv 1, iv 0, iv 0, iv 1] [])) _
    refine XS.iloadN X0.here hx rfl (hb hby d2_91) rfl ?_
    show Steps _ _ _ (s₁.setTop (mkF m 92 #[iv q1, iv 1, iv 0, iv 0, iv 1] [(.int 0)])) _
    refine XS.ifNo X0.here hx rfl (hb hby d2_92) rfl (by decide) ?_
    show Steps _ _ _ (s₁.setTop (mkF m 95 #[iv q1, iv 1, iv 0, iv 0, iv 1] [])) _
    refine XS.iload X0.here hx rfl (hb hby d2_95) rfl ?_
    show Steps _ _ _ (s₁.setTop (mkF m 97 #[iv q1, iv 1, iv 0, iv 0, iv 1] [(.int 1)])) _
    refine XS.ifNo X0.here hx rfl (hb hby d2_97) rfl (by decide) ?_
    show Steps _ _ _ (s₁.setTop (mkF m 100 #[iv q1, iv 1, iv 0, iv 0, iv 1] [])) _
    refine XS.iconst X0.here hx rfl (hb hby d2_100) ?_
    show Steps _ _ _ (s₁.setTop (mkF m 101 #[iv q1, iv 1, iv 0, iv 0, iv 1] [(.int 1)])) _
    refine XS.goto X0.here hx rfl (pc0 := 101) (pc' := 105) rfl (hb hby d2_101) (by decide) (by decide) ?_
    show Steps _ _ _ (s₁.setTop (mkF m 105 #[iv q1, iv 1, iv 0, iv 0, iv 1] [(.int 1)])) _
    exact q
  obtain ⟨fs, hr, hrun, hended, hW, hsame⟩ := X0.leave (v := some (.int 1)) (fun h => by rw [Bd.returns] at h; cases h)
  refine ⟨_, _, k_12 _ ?_, hrun, hended, _, _, rfl, ?_, ⟨_, rfl⟩, hW, hsame.mono (by decide) (by decide)⟩
  · exact retN X0 hx (t := .boolean) Bd.returns (by simp) (hb hby d2_105) hr
  · show QV (some (.int 1)) h0 n0 _ s₁.heap _
    rw [e0]
    exact ⟨rfl, N0, rfl⟩
set_option maxRecDepth 65536 in
set_option maxHeartbeats 40000000 in
theorem ic_6 (l : Launch) (Z : State) (a0 : Array Value) (hw : ∀ d ∈ tables_1, d.before a0 Z = true) (ws : List Jvm.Cond) (q1 : Int32) (h0 : Heap) (n0 : Nat) (O0 : Old Z n0 h0) (hlo : (14 : Int) ≤ q1.toInt) (hhi : q1.toInt ≤ 31) :
    MetFree l y_0 (head1 (Jvm.Cond.code y_0 prog_154_method_29_code 1 (some .boolean) :: ws) ({ frames := 0, cells := 0, slots := 0, locals := 0 } : Room)) (fun a U => a = #[(.int q1)] ∧ Z.Warmed39 U.vm ∧ U.heap = h0) (fun _ _ _ _ _ => True) (fun _ U o U' => ∃ v L, o = .returned v ∧ QV (some (.int 0)) h0 n0 v U'.heap L ∧ FrameEnd U o U' L ({ frames := 0, cells := 0, slots := 0, locals := 0 } : Room).cells ({ frames := 0, cells := 0, slots := 0, locals := 0 } : Room).slots) := by
  refine MetFree.of_bodySF (plainFor_of_name pn_0) hisR ?_
  intro p e s m args below meth c s₁ Bd hml0 hP hK
  obtain ⟨rfl, hZ, hh⟩ := hP
  have hx := Bd.exec
  have hby := Bd.bytes
  have hml : c.maxLocals = 1 := hml0
  have hown : s.vm.findClass "com/example/befundweg/befundweg/XmlParser" = some m.cls := findClass_of_methodNamed Bd.named
  have hnm := (name_of_methodNamed Bd.named Bd.method).1
  have X0 : Stand p l e ({ frames := 0, cells := 0, slots := 0, locals := 0 } : Room) s m #[(.int q1)] below meth c s₁ [] 0 0 := Stand.of_body Bd
  have e0 : s₁.heap = h0 := by rw [← hh, Bd.state]; rfl
  have N0 := Fr.nil n0
  have K0 := Keep.refl h0 []
  have k0 : Go p.tables e below (s₁.setTop (entryFrame m #[(.int q1)] 1)) (s₁.setTop (mkF m 0 #[iv q1] [])) := fun t k => castTop (by first | rfl | (simp [entryFrame, mkF, argsToLocals, Value.category]; done)) k
  have k_13 : Go p.tables e below (s₁.setTop (entryFrame m #[(.int q1)] 1)) (s₁.setTop (mkF m 64 #[iv q1] [(.int 0)])) := fun t q => by
    refine k0 t ?_
    refine XS.iloadN X0.here hx rfl (hb hby d1_0) rfl ?_
    show Steps _ _ _ (s₁.setTop (mkF m 1 #[iv q1] [(.int q1)])) _
    refine XS.bipush X0.here hx rfl (hb hby d1_1) ?_
    show Steps _ _ _ (s₁.setTop (mkF m 3 #[iv q1] [(.int 9), (.int q1)])) _
    refine XS.icmpNo X0.here hx rfl (hb hby d1_3) rfl (feq (own_neB hlo (by decide))).1 ?_
    show Steps _ _ _ (s₁.setTop (mkF m 6 #[iv q1] [])) _
    refine XS.iloadN X0.here hx rfl (hb hby d1_6) rfl ?_
    show Steps _ _ _ (s₁.setTop (mkF m 7 #[iv q1] [(.int q1)])) _
    refine XS.bipush X0.here hx rfl (hb hby d1_7) ?_
    show Steps _ _ _ (s₁.setTop (mkF m 9 #[iv q1] [(.int 10), (.int q1)])) _
    refine XS.icmpNo X0.here hx rfl (hb hby d1_9) rfl (feq (own_neB hlo (by decide))).1 ?_
    show Steps _ _ _ (s₁.setTop (mkF m 12 #[iv q1] [])) _
    refine XS.iloadN X0.here hx rfl (hb hby d1_12) rfl ?_
    show Steps _ _ _ (s₁.setTop (mkF m 13 #[iv q1] [(.int q1)])) _
    refine XS.bipush X0.here hx rfl (hb hby d1_13) ?_
    show Steps _ _ _ (s₁.setTop (mkF m 15 #[iv q1] [(.int 13), (.int q1)])) _
    refine XS.icmpNo X0.here hx rfl (hb hby d1_15) rfl (feq (own_neB hlo (by decide))).1 ?_
    show Steps _ _ _ (s₁.setTop (mkF m 18 #[iv q1] [])) _
    refine XS.iloadN X0.here hx rfl (hb hby d1_18) rfl ?_
    show Steps _ _ _ (s₁.setTop (mkF m 19 #[iv q1] [(.int q1)])) _
    refine XS.bipush X0.here hx rfl (hb hby d1_19) ?_
    show Steps _ _ _ (s₁.setTop (mkF m 21 #[iv q1] [(.int 32), (.int q1)])) _
    refine XS.icmpYes X0.here hx rfl (pc0 := 21) (pc' := 31) rfl (hb hby d1_21) rfl (tlt (own_lt hhi (by decide))).1 (by decide) (by decide) ?_
    show Steps _ _ _ (s₁.setTop (mkF m 31 #[iv q1] [])) _
    refine XS.iloadN X0.here hx rfl (hb hby d1_31) rfl ?_
    show Steps _ _ _ (s₁.setTop (mkF m 32 #[iv q1] [(.int q1)])) _
    refine X0.ldcwInt hx hown (mvT hZ (hw _ (wd 14 rfl))) (g := (mkF m 32 #[iv q1] [(.int q1)])) rfl (hb hby d1_32) _ ?_
    show Steps _ _ _ (s₁.setTop (mkF m 35 #[iv q1] [(.int 57344), (.int q1)])) _
    refine XS.icmpYes X0.here hx rfl (pc0 := 35) (pc' := 45) rfl (hb hby d1_35) rfl (tlt (own_lt hhi (by decide))).1 (by decide) (by decide) ?_
    show Steps _ _ _ (s₁.setTop (mkF m 45 #[iv q1] [])) _
    refine XS.iloadN X0.here hx rfl (hb hby d1_45) rfl ?_
    show Steps _ _ _ (s₁.setTop (mkF m 46 #[iv q1] [(.int q1)])) _
    refine X0.ldcwInt hx hown (mvT hZ (hw _ (wd 15 rfl))) (g := (mkF m 46 #[iv q1] [(.int q1)])) rfl (hb hby d1_46) _ ?_
    show Steps _ _ _ (s₁.setTop (mkF m 49 #[iv q1] [(.int 65536), (.int q1)])) _
    refine XS.icmpYes X0.here hx rfl (pc0 := 49) (pc' := 63) rfl (hb hby d1_49) rfl (tlt (own_lt hhi (by decide))).1 (by decide) (by decide) ?_
    show Steps _ _ _ (s₁.setTop (mkF m 63 #[iv q1] [])) _
    refine XS.iconst X0.here hx rfl (hb hby d1_63) ?_
    show Steps _ _ _ (s₁.setTop (mkF m 64 #[iv q1] [(.int 0)])) _
    exact q
  obtain ⟨fs, hr, hrun, hended, hW, hsame⟩ := X0.leave (v := some (.int 0)) (fun h => by rw [Bd.returns] at h; cases h)
  refine ⟨_, _, k_13 _ ?_, hrun, hended, _, _, rfl, ?_, ⟨_, rfl⟩, hW, hsame.mono (by decide) (by decide)⟩
  · exact retN X0 hx (t := .boolean) Bd.returns (by simp) (hb hby d1_64) hr
  · show QV (some (.int 0)) h0 n0 _ s₁.heap _
    rw [e0]
    exact ⟨rfl, N0, rfl⟩
set_option maxRecDepth 65536 in
set_option maxHeartbeats 40000000 in
theorem ex_6 (l : Launch) (Z : State) (a0 : Array Value) (hw : ∀ d ∈ tables_1, d.before a0 Z = true) (ws : List Jvm.Cond) (q1 : Int32) (h0 : Heap) (n0 : Nat) (O0 : Old Z n0 h0) (hlo : (14 : Int) ≤ q1.toInt) (hhi : q1.toInt ≤ 31) :
    MetFree l y_1 (head1 (Jvm.Cond.code y_1 method_3_code 5 (some .boolean) :: ws) ({ frames := 0, cells := 0, slots := 0, locals := 0 } : Room)) (fun a U => a = #[(.int q1)] ∧ Z.Warmed39 U.vm ∧ U.heap = h0) (fun _ _ _ _ _ => True) (fun _ U o U' => ∃ v L, o = .returned v ∧ QV (some (.int 0)) h0 n0 v U'.heap L ∧ FrameEnd U o U' L ({ frames := 0, cells := 0, slots := 0, locals := 0 } : Room).cells ({ frames := 0, cells := 0, slots := 0, locals := 0 } : Room).slots) := by
  refine MetFree.of_bodySF (plainFor_of_name pn_1) hisR ?_
  intro p e s m args below meth c s₁ Bd hml0 hP hK
  obtain ⟨rfl, hZ, hh⟩ := hP
  have hx := Bd.exec
  have hby := Bd.bytes
  have hml : c.maxLocals = 5 := hml0
  have hown : s.vm.findClass "com/example/befundweg/befundweg/XmlParserIsCharacterPinLaw" = some m.cls := findClass_of_methodNamed Bd.named
  have hnm := (name_of_methodNamed Bd.named Bd.method).1
  have X0 : Stand p l e ({ frames := 0, cells := 0, slots := 0, locals := 0 } : Room) s m #[(.int q1)] below meth c s₁ [] 0 0 := Stand.of_body Bd
  have e0 : s₁.heap = h0 := by rw [← hh, Bd.state]; rfl
  have N0 := Fr.nil n0
  have K0 := Keep.refl h0 []
  have k0 : Go p.tables e below (s₁.setTop (entryFrame m #[(.int q1)] 5)) (s₁.setTop (mkF m 0 #[iv q1, .unset, .unset, .unset, .unset] [])) := fun t k => castTop (by first | rfl | (simp [entryFrame, mkF, argsToLocals, Value.category]; done)) k
  have k_14 : Go p.tables e below (s₁.setTop (entryFrame m #[(.int q1)] 5)) (s₁.setTop (mkF m 105 #[iv q1, iv 1, iv 0, iv 0, iv 0] [(.int 0)])) := fun t q => by
    refine k0 t ?_
    refine XS.iloadN X0.here hx rfl (hb hby d2_0) rfl ?_
    show Steps _ _ _ (s₁.setTop (mkF m 1 #[iv q1, .unset, .unset, .unset, .unset] [(.int q1)])) _
    refine XS.ifNo X0.here hx rfl (hb hby d2_1) rfl ((if0 _ _).trans (flt (own_nlt hlo (by decide))).1) ?_
    show Steps _ _ _ (s₁.setTop (mkF m 4 #[iv q1, .unset, .unset, .unset, .unset] [])) _
    refine XS.iloadN X0.here hx rfl (hb hby d2_4) rfl ?_
    show Steps _ _ _ (s₁.setTop (mkF m 5 #[iv q1, .unset, .unset, .unset, .unset] [(.int q1)])) _
    refine X0.ldcInt hx hown (mvT hZ (hw _ (wd 5 rfl))) (g := (mkF m 5 #[iv q1, .unset, .unset, .unset, .unset] [(.int q1)])) rfl (hb hby d2_5) _ ?_
    show Steps _ _ _ (s₁.setTop (mkF m 7 #[iv q1, .unset, .unset, .unset, .unset] [(.int 1114111), (.int q1)])) _
    refine XS.icmpNo X0.here hx rfl (hb hby d2_7) rfl (flt (own_ngt hhi (by decide))).2.2.1 ?_
    show Steps _ _ _ (s₁.setTop (mkF m 10 #[iv q1, .unset, .unset, .unset, .unset] [])) _
    refine XS.iconst X0.here hx rfl (hb hby d2_10) ?_
    show Steps _ _ _ (s₁.setTop (mkF m 11 #[iv q1, .unset, .unset, .unset, .unset] [(.int 1)])) _
    refine XS.goto X0.here hx rfl (pc0 := 11) (pc' := 15) rfl (hb hby d2_11) (by decide) (by decide) ?_
    show Steps _ _ _ (s₁.setTop (mkF m 15 #[iv q1, .unset, .unset, .unset, .unset] [(.int 1)])) _
    refine XS.istoreN X0.here hx rfl (hb hby d2_15) rfl (l' := #[iv q1, iv 1, .unset, .unset, .unset]) rfl ?_
    show Steps _ _ _ (s₁.setTop (mkF m 16 #[iv q1, iv 1, .unset, .unset, .unset] [])) _
    refine XS.iloadN X0.here hx rfl (hb hby d2_16) rfl ?_
    show Steps _ _ _ (s₁.setTop (mkF m 17 #[iv q1, iv 1, .unset, .unset, .unset] [(.int q1)])) _
    refine X0.ldcInt hx hown (mvT hZ (hw _ (wd 6 rfl))) (g := (mkF m 17 #[iv q1, iv 1, .unset, .unset, .unset] [(.int q1)])) rfl (hb hby d2_17) _ ?_
    show Steps _ _ _ (s₁.setTop (mkF m 19 #[iv q1, iv 1, .unset, .unset, .unset] [(.int 55296), (.int q1)])) _
    refine XS.icmpYes X0.here hx rfl (pc0 := 19) (pc' := 32) rfl (hb hby d2_19) rfl (tlt (own_lt hhi (by decide))).1 (by decide) (by decide) ?_
    show Steps _ _ _ (s₁.setTop (mkF m 32 #[iv q1, iv 1, .unset, .unset, .unset] [])) _
    refine XS.iconst X0.here hx rfl (hb hby d2_32) ?_
    show Steps _ _ _ (s₁.setTop (mkF m 33 #[iv q1, iv 1, .unset, .unset, .unset] [(.int 0)])) _
    refine XS.istoreN X0.here hx rfl (hb hby d2_33) rfl (l' := #[iv q1, iv 1, iv 0, .unset, .unset]) rfl ?_
    show Steps _ _ _ (s₁.setTop (mkF m 34 #[iv q1, iv 1, iv 0, .unset, .unset] [])) _
    refine XS.iloadN X0.here hx rfl (hb hby d2_34) rfl ?_
    show Steps _ _ _ (s₁.setTop (mkF m 35 #[iv q1, iv 1, iv 0, .unset, .unset] [(.int q1)])) _
    refine X0.ldcInt hx hown (mvT hZ (hw _ (wd 8 rfl))) (g := (mkF m 35 #[iv q1, iv 1, iv 0, .unset, .unset] [(.int q1)])) rfl (hb hby d2_35) _ ?_
    show Steps _ _ _ (s₁.setTop (mkF m 37 #[iv q1, iv 1, iv 0, .unset, .unset] [(.int 65534), (.int q1)])) _
    refine XS.icmpNo X0.here hx rfl (hb hby d2_37) rfl (feq (own_neA hhi (by decide))).1 ?_
    show Steps _ _ _ (s₁.setTop (mkF m 40 #[iv q1, iv 1, iv 0, .unset, .unset] [])) _
    refine XS.iloadN X0.here hx rfl (hb hby d2_40) rfl ?_
    show Steps _ _ _ (s₁.setTop (mkF m 41 #[iv q1, iv 1, iv 0, .unset, .unset] [(.int q1)])) _
    refine X0.ldcInt hx hown (mvT hZ (hw _ (wd 20 rfl))) (g := (mkF m 41 #[iv q1, iv 1, iv 0, .unset, .unset] [(.int q1)])) rfl (hb hby d2_41) _ ?_
    show Steps _ _ _ (s₁.setTop (mkF m 43 #[iv q1, iv 1, iv 0, .unset, .unset] [(.int 65535), (.int q1)])) _
    refine XS.icmpYes X0.here hx rfl (pc0 := 43) (pc' := 50) rfl (hb hby d2_43) rfl (feq (own_neA hhi (by decide))).2 (by decide) (by decide) ?_
    show Steps _ _ _ (s₁.setTop (mkF m 50 #[iv q1, iv 1, iv 0, .unset, .unset] [])) _
    refine XS.iconst X0.here hx rfl (hb hby d2_50) ?_
    show Steps _ _ _ (s₁.setTop (mkF m 51 #[iv q1, iv 1, iv 0, .unset, .unset] [(.int 0)])) _
    refine XS.istoreN X0.here hx rfl (hb hby d2_51) rfl (l' := #[iv q1, iv 1, iv 0, iv 0, .unset]) rfl ?_
    show Steps _ _ _ (s₁.setTop (mkF m 52 #[iv q1, iv 1, iv 0, iv 0, .unset] [])) _
    refine XS.iloadN X0.here hx rfl (hb hby d2_52) rfl ?_
    show Steps _ _ _ (s₁.setTop (mkF m 53 #[iv q1, iv 1, iv 0, iv 0, .unset] [(.int q1)])) _
    refine XS.bipush X0.here hx rfl (hb hby d2_53) ?_
    show Steps _ _ _ (s₁.setTop (mkF m 55 #[iv q1, iv 1, iv 0, iv 0, .unset] [(.int 32), (.int q1)])) _
    refine XS.icmpNo X0.here hx rfl (hb hby d2_55) rfl (tlt (own_lt hhi (by decide))).2.1 ?_
    show Steps _ _ _ (s₁.setTop (mkF m 58 #[iv q1, iv 1, iv 0, iv 0, .unset] [])) _
    refine XS.iloadN X0.here hx rfl (hb hby d2_58) rfl ?_
    show Steps _ _ _ (s₁.setTop (mkF m 59 #[iv q1, iv 1, iv 0, iv 0, .unset] [(.int q1)])) _
    refine XS.bipush X0.here hx rfl (hb hby d2_59) ?_
    show Steps _ _ _ (s₁.setTop (mkF m 61 #[iv q1, iv 1, iv 0, iv 0, .unset] [(.int 9), (.int q1)])) _
    refine XS.icmpNo X0.here hx rfl (hb hby d2_61) rfl (feq (own_neB hlo (by decide))).1 ?_
    show Steps _ _ _ (s₁.setTop (mkF m 64 #[iv q1, iv 1, iv 0, iv 0, .unset] [])) _
    refine XS.iloadN X0.here hx rfl (hb hby d2_64) rfl ?_
    show Steps _ _ _ (s₁.setTop (mkF m 65 #[iv q1, iv 1, iv 0, iv 0, .unset] [(.int q1)])) _
    refine XS.bipush X0.here hx rfl (hb hby d2_65) ?_
    show Steps _ _ _ (s₁.setTop (mkF m 67 #[iv q1, iv 1, iv 0, iv 0, .unset] [(.int 10), (.int q1)])) _
    refine XS.icmpNo X0.here hx rfl (hb hby d2_67) rfl (feq (own_neB hlo (by decide))).1 ?_
    show Steps _ _ _ (s₁.setTop (mkF m 70 #[iv q1, iv 1, iv 0, iv 0, .unset] [])) _
    refine XS.iloadN X0.here hx rfl (hb hby d2_70) rfl ?_
    show Steps _ _ _ (s₁.setTop (mkF m 71 #[iv q1, iv 1, iv 0, iv 0, .unset] [(.int q1)])) _
    refine XS.bipush X0.here hx rfl (hb hby d2_71) ?_
    show Steps _ _ _ (s₁.setTop (mkF m 73 #[iv q1, iv 1, iv 0, iv 0, .unset] [(.int 13), (.int q1)])) _
    refine XS.icmpYes X0.here hx rfl (pc0 := 73) (pc' := 80) rfl (hb hby d2_73) rfl (feq (own_neB hlo (by decide))).2 (by decide) (by decide) ?_
    show Steps _ _ _ (s₁.setTop (mkF m 80 #[iv q1, iv 1, iv 0, iv 0, .unset] [])) _
    refine XS.iconst X0.here hx rfl (hb hby d2_80) ?_
    show Steps _ _ _ (s₁.setTop (mkF m 81 #[iv q1, iv 1, iv 0, iv 0, .unset] [(.int 0)])) _
    refine XS.istore X0.here hx rfl (hb hby d2_81) rfl (l' := #[iv q1, iv 1, iv 0, iv 0, iv 0]) rfl ?_
    show Steps _ _ _ (s₁.setTop (mkF m 83 #[iv q1, iv 1, iv 0, iv 0, iv 0] [])) _
    refine XS.iloadN X0.here hx rfl (hb hby d2_83) rfl ?_
    show Steps _ _ _ (s₁.setTop (mkF m 84 #[iv q1, iv 1, iv 0, iv 0, iv 0] [(.int 1)])) _
    refine XS.ifNo X0.here hx rfl (hb hby d2_84) rfl (by decide) ?_
    show Steps _ _ _ (s₁.setTop (mkF m 87 #[iv q1, iv 1, iv 0, iv 0, iv 0] [])) _
    refine XS.iloadN X0.here hx rfl (hb hby d2_87) rfl ?_
    show Steps _ _ _ (s₁.setTop (mkF m 88 #[iv q1, iv 1, iv 0, iv 0, iv 0] [(.int 0)])) _
    refine XS.ifNo X0.here hx rfl (hb hby d2_88) rfl (by decide) ?_
    show Steps _ _ _ (s₁.setTop (mkF m 91 #[iv q1, iv 1, iv 0, iv 0, iv 0] [])) _
    refine XS.iloadN X0.here hx rfl (hb hby d2_91) rfl ?_
    show Steps _ _ _ (s₁.setTop (mkF m 92 #[iv q1, iv 1, iv 0, iv 0, iv 0] [(.int 0)])) _
    refine XS.ifNo X0.here hx rfl (hb hby d2_92) rfl (by decide) ?_
    show Steps _ _ _ (s₁.setTop (mkF m 95 #[iv q1, iv 1, iv 0, iv 0, iv 0] [])) _
    refine XS.iload X0.here hx rfl (hb hby d2_95) rfl ?_
    show Steps _ _ _ (s₁.setTop (mkF m 97 #[iv q1, iv 1, iv 0, iv 0, iv 0] [(.int 0)])) _
    refine XS.ifYes X0.here hx rfl (pc0 := 97) (pc' := 104) rfl (hb hby d2_97) rfl (by decide) (by decide) (by decide) ?_
    show Steps _ _ _ (s₁.setTop (mkF m 104 #[iv q1, iv 1, iv 0, iv 0, iv 0] [])) _
    refine XS.iconst X0.here hx rfl (hb hby d2_104) ?_
    show Steps _ _ _ (s₁.setTop (mkF m 105 #[iv q1, iv 1, iv 0, iv 0, iv 0] [(.int 0)])) _
    exact q
  obtain ⟨fs, hr, hrun, hended, hW, hsame⟩ := X0.leave (v := some (.int 0)) (fun h => by rw [Bd.returns] at h; cases h)
  refine ⟨_, _, k_14 _ ?_, hrun, hended, _, _, rfl, ?_, ⟨_, rfl⟩, hW, hsame.mono (by decide) (by decide)⟩
  · exact retN X0 hx (t := .boolean) Bd.returns (by simp) (hb hby d2_105) hr
  · show QV (some (.int 0)) h0 n0 _ s₁.heap _
    rw [e0]
    exact ⟨rfl, N0, rfl⟩
set_option maxRecDepth 65536 in
set_option maxHeartbeats 40000000 in
theorem ic_7 (l : Launch) (Z : State) (a0 : Array Value) (hw : ∀ d ∈ tables_1, d.before a0 Z = true) (ws : List Jvm.Cond) (q1 : Int32) (h0 : Heap) (n0 : Nat) (O0 : Old Z n0 h0) (hlo : (32 : Int) ≤ q1.toInt) (hhi : q1.toInt ≤ 55295) :
    MetFree l y_0 (head1 (Jvm.Cond.code y_0 prog_154_method_29_code 1 (some .boolean) :: ws) ({ frames := 0, cells := 0, slots := 0, locals := 0 } : Room)) (fun a U => a = #[(.int q1)] ∧ Z.Warmed39 U.vm ∧ U.heap = h0) (fun _ _ _ _ _ => True) (fun _ U o U' => ∃ v L, o = .returned v ∧ QV (some (.int 1)) h0 n0 v U'.heap L ∧ FrameEnd U o U' L ({ frames := 0, cells := 0, slots := 0, locals := 0 } : Room).cells ({ frames := 0, cells := 0, slots := 0, locals := 0 } : Room).slots) := by
  refine MetFree.of_bodySF (plainFor_of_name pn_0) hisR ?_
  intro p e s m args below meth c s₁ Bd hml0 hP hK
  obtain ⟨rfl, hZ, hh⟩ := hP
  have hx := Bd.exec
  have hby := Bd.bytes
  have hml : c.maxLocals = 1 := hml0
  have hown : s.vm.findClass "com/example/befundweg/befundweg/XmlParser" = some m.cls := findClass_of_methodNamed Bd.named
  have hnm := (name_of_methodNamed Bd.named Bd.method).1
  have X0 : Stand p l e ({ frames := 0, cells := 0, slots := 0, locals := 0 } : Room) s m #[(.int q1)] below meth c s₁ [] 0 0 := Stand.of_body Bd
  have e0 : s₁.heap = h0 := by rw [← hh, Bd.state]; rfl
  have N0 := Fr.nil n0
  have K0 := Keep.refl h0 []
  have k0 : Go p.tables e below (s₁.setTop (entryFrame m #[(.int q1)] 1)) (s₁.setTop (mkF m 0 #[iv q1] [])) := fun t k => castTop (by first | rfl | (simp [entryFrame, mkF, argsToLocals, Value.category]; done)) k
  have k_15 : Go p.tables e below (s₁.setTop (entryFrame m #[(.int q1)] 1)) (s₁.setTop (mkF m 64 #[iv q1] [(.int 1)])) := fun t q => by
    refine k0 t ?_
    refine XS.iloadN X0.here hx rfl (hb hby d1_0) rfl ?_
    show Steps _ _ _ (s₁.setTop (mkF m 1 #[iv q1] [(.int q1)])) _
    refine XS.bipush X0.here hx rfl (hb hby d1_1) ?_
    show Steps _ _ _ (s₁.setTop (mkF m 3 #[iv q1] [(.int 9), (.int q1)])) _
    refine XS.icmpNo X0.here hx rfl (hb hby d1_3) rfl (feq (own_neB hlo (by decide))).1 ?_
    show Steps _ _ _ (s₁.setTop (mkF m 6 #[iv q1] [])) _
    refine XS.iloadN X0.here hx rfl (hb hby d1_6) rfl ?_
    show Steps _ _ _ (s₁.setTop (mkF m 7 #[iv q1] [(.int q1)])) _
    refine XS.bipush X0.here hx rfl (hb hby d1_7) ?_
    show Steps _ _ _ (s₁.setTop (mkF m 9 #[iv q1] [(.int 10), (.int q1)])) _
    refine XS.icmpNo X0.here hx rfl (hb hby d1_9) rfl (feq (own_neB hlo (by decide))).1 ?_
    show Steps _ _ _ (s₁.setTop (mkF m 12 #[iv q1] [])) _
    refine XS.iloadN X0.here hx rfl (hb hby d1_12) rfl ?_
    show Steps _ _ _ (s₁.setTop (mkF m 13 #[iv q1] [(.int q1)])) _
    refine XS.bipush X0.here hx rfl (hb hby d1_13) ?_
    show Steps _ _ _ (s₁.setTop (mkF m 15 #[iv q1] [(.int 13), (.int q1)])) _
    refine XS.icmpNo X0.here hx rfl (hb hby d1_15) rfl (feq (own_neB hlo (by decide))).1 ?_
    show Steps _ _ _ (s₁.setTop (mkF m 18 #[iv q1] [])) _
    refine XS.iloadN X0.here hx rfl (hb hby d1_18) rfl ?_
    show Steps _ _ _ (s₁.setTop (mkF m 19 #[iv q1] [(.int q1)])) _
    refine XS.bipush X0.here hx rfl (hb hby d1_19) ?_
    show Steps _ _ _ (s₁.setTop (mkF m 21 #[iv q1] [(.int 32), (.int q1)])) _
    refine XS.icmpNo X0.here hx rfl (hb hby d1_21) rfl (flt (own_nlt hlo (by decide))).1 ?_
    show Steps _ _ _ (s₁.setTop (mkF m 24 #[iv q1] [])) _
    refine XS.iloadN X0.here hx rfl (hb hby d1_24) rfl ?_
    show Steps _ _ _ (s₁.setTop (mkF m 25 #[iv q1] [(.int q1)])) _
    refine X0.ldcwInt hx hown (mvT hZ (hw _ (wd 21 rfl))) (g := (mkF m 25 #[iv q1] [(.int q1)])) rfl (hb hby d1_25) _ ?_
    show Steps _ _ _ (s₁.setTop (mkF m 28 #[iv q1] [(.int 55295), (.int q1)])) _
    refine XS.icmpYes X0.here hx rfl (pc0 := 28) (pc' := 59) rfl (hb hby d1_28) rfl (flt (own_ngt hhi (by decide))).2.2.2 (by decide) (by decide) ?_
    show Steps _ _ _ (s₁.setTop (mkF m 59 #[iv q1] [])) _
    refine XS.iconst X0.here hx rfl (hb hby d1_59) ?_
    show Steps _ _ _ (s₁.setTop (mkF m 60 #[iv q1] [(.int 1)])) _
    refine XS.goto X0.here hx rfl (pc0 := 60) (pc' := 64) rfl (hb hby d1_60) (by decide) (by decide) ?_
    show Steps _ _ _ (s₁.setTop (mkF m 64 #[iv q1] [(.int 1)])) _
    exact q
  obtain ⟨fs, hr, hrun, hended, hW, hsame⟩ := X0.leave (v := some (.int 1)) (fun h => by rw [Bd.returns] at h; cases h)
  refine ⟨_, _, k_15 _ ?_, hrun, hended, _, _, rfl, ?_, ⟨_, rfl⟩, hW, hsame.mono (by decide) (by decide)⟩
  · exact retN X0 hx (t := .boolean) Bd.returns (by simp) (hb hby d1_64) hr
  · show QV (some (.int 1)) h0 n0 _ s₁.heap _
    rw [e0]
    exact ⟨rfl, N0, rfl⟩
set_option maxRecDepth 65536 in
set_option maxHeartbeats 40000000 in
theorem ex_7 (l : Launch) (Z : State) (a0 : Array Value) (hw : ∀ d ∈ tables_1, d.before a0 Z = true) (ws : List Jvm.Cond) (q1 : Int32) (h0 : Heap) (n0 : Nat) (O0 : Old Z n0 h0) (hlo : (32 : Int) ≤ q1.toInt) (hhi : q1.toInt ≤ 55295) :
    MetFree l y_1 (head1 (Jvm.Cond.code y_1 method_3_code 5 (some .boolean) :: ws) ({ frames := 0, cells := 0, slots := 0, locals := 0 } : Room)) (fun a U => a = #[(.int q1)] ∧ Z.Warmed39 U.vm ∧ U.heap = h0) (fun _ _ _ _ _ => True) (fun _ U o U' => ∃ v L, o = .returned v ∧ QV (some (.int 1)) h0 n0 v U'.heap L ∧ FrameEnd U o U' L ({ frames := 0, cells := 0, slots := 0, locals := 0 } : Room).cells ({ frames := 0, cells := 0, slots := 0, locals := 0 } : Room).slots) := by
  refine MetFree.of_bodySF (plainFor_of_name pn_1) hisR ?_
  intro p e s m args below meth c s₁ Bd hml0 hP hK
  obtain ⟨rfl, hZ, hh⟩ := hP
  have hx := Bd.exec
  have hby := Bd.bytes
  have hml : c.maxLocals = 5 := hml0
  have hown : s.vm.findClass "com/example/befundweg/befundweg/XmlParserIsCharacterPinLaw" = some m.cls := findClass_of_methodNamed Bd.named
  have hnm := (name_of_methodNamed Bd.named Bd.method).1
  have X0 : Stand p l e ({ frames := 0, cells := 0, slots := 0, locals := 0 } : Room) s m #[(.int q1)] below meth c s₁ [] 0 0 := Stand.of_body Bd
  have e0 : s₁.heap = h0 := by rw [← hh, Bd.state]; rfl
  have N0 := Fr.nil n0
  have K0 := Keep.refl h0 []
  have k0 : Go p.tables e below (s₁.setTop (entryFrame m #[(.int q1)] 5)) (s₁.setTop (mkF m 0 #[iv q1, .unset, .unset, .unset, .unset] [])) := fun t k => castTop (by first | rfl | (simp [entryFrame, mkF, argsToLocals, Value.category]; done)) k
  have k_16 : Go p.tables e below (s₁.setTop (entryFrame m #[(.int q1)] 5)) (s₁.setTop (mkF m 105 #[iv q1, iv 1, iv 0, iv 0, iv 1] [(.int 1)])) := fun t q => by
    refine k0 t ?_
    refine XS.iloadN X0.here hx rfl (hb hby d2_0) rfl ?_
    show Steps _ _ _ (s₁.setTop (mkF m 1 #[iv q1, .unset, .unset, .unset, .unset] [(.int q1)])) _
    refine XS.ifNo X0.here hx rfl (hb hby d2_1) rfl ((if0 _ _).trans (flt (own_nlt hlo (by decide))).1) ?_
    show Steps _ _ _ (s₁.setTop (mkF m 4 #[iv q1, .unset, .unset, .unset, .unset] [])) _
    refine XS.iloadN X0.here hx rfl (hb hby d2_4) rfl ?_
    show Steps _ _ _ (s₁.setTop (mkF m 5 #[iv q1, .unset, .unset, .unset, .unset] [(.int q1)])) _
    refine X0.ldcInt hx hown (mvT hZ (hw _ (wd 5 rfl))) (g := (mkF m 5 #[iv q1, .unset, .unset, .unset, .unset] [(.int q1)])) rfl (hb hby d2_5) _ ?_
    show Steps _ _ _ (s₁.setTop (mkF m 7 #[iv q1, .unset, .unset, .unset, .unset] [(.int 1114111), (.int q1)])) _
    refine XS.icmpNo X0.here hx rfl (hb hby d2_7) rfl (flt (own_ngt hhi (by decide))).2.2.1 ?_
    show Steps _ _ _ (s₁.setTop (mkF m 10 #[iv q1, .unset, .unset, .unset, .unset] [])) _
    refine XS.iconst X0.here hx rfl (hb hby d2_10) ?_
    show Steps _ _ _ (s₁.setTop (mkF m 11 #[iv q1, .unset, .unset, .unset, .unset] [(.int 1)])) _
    refine XS.goto X0.here hx rfl (pc0 := 11) (pc' := 15) rfl (hb hby d2_11) (by decide) (by decide) ?_
    show Steps _ _ _ (s₁.setTop (mkF m 15 #[iv q1, .unset, .unset, .unset, .unset] [(.int 1)])) _
    refine XS.istoreN X0.here hx rfl (hb hby d2_15) rfl (l' := #[iv q1, iv 1, .unset, .unset, .unset]) rfl ?_
    show Steps _ _ _ (s₁.setTop (mkF m 16 #[iv q1, iv 1, .unset, .unset, .unset] [])) _
    refine XS.iloadN X0.here hx rfl (hb hby d2_16) rfl ?_
    show Steps _ _ _ (s₁.setTop (mkF m 17 #[iv q1, iv 1, .unset, .unset, .unset] [(.int q1)])) _
    refine X0.ldcInt hx hown (mvT hZ (hw _ (wd 6 rfl))) (g := (mkF m 17 #[iv q1, iv 1, .unset, .unset, .unset] [(.int q1)])) rfl (hb hby d2_17) _ ?_
    show Steps _ _ _ (s₁.setTop (mkF m 19 #[iv q1, iv 1, .unset, .unset, .unset] [(.int 55296), (.int q1)])) _
    refine XS.icmpYes X0.here hx rfl (pc0 := 19) (pc' := 32) rfl (hb hby d2_19) rfl (tlt (own_lt hhi (by decide))).1 (by decide) (by decide) ?_
    show Steps _ _ _ (s₁.setTop (mkF m 32 #[iv q1, iv 1, .unset, .unset, .unset] [])) _
    refine XS.iconst X0.here hx rfl (hb hby d2_32) ?_
    show Steps _ _ _ (s₁.setTop (mkF m 33 #[iv q1, iv 1, .unset, .unset, .unset] [(.int 0)])) _
    refine XS.istoreN X0.here hx rfl (hb hby d2_33) rfl (l' := #[iv q1, iv 1, iv 0, .unset, .unset]) rfl ?_
    show Steps _ _ _ (s₁.setTop (mkF m 34 #[iv q1, iv 1, iv 0, .unset, .unset] [])) _
    refine XS.iloadN X0.here hx rfl (hb hby d2_34) rfl ?_
    show Steps _ _ _ (s₁.setTop (mkF m 35 #[iv q1, iv 1, iv 0, .unset, .unset] [(.int q1)])) _
    refine X0.ldcInt hx hown (mvT hZ (hw _ (wd 8 rfl))) (g := (mkF m 35 #[iv q1, iv 1, iv 0, .unset, .unset] [(.int q1)])) rfl (hb hby d2_35) _ ?_
    show Steps _ _ _ (s₁.setTop (mkF m 37 #[iv q1, iv 1, iv 0, .unset, .unset] [(.int 65534), (.int q1)])) _
    refine XS.icmpNo X0.here hx rfl (hb hby d2_37) rfl (feq (own_neA hhi (by decide))).1 ?_
    show Steps _ _ _ (s₁.setTop (mkF m 40 #[iv q1, iv 1, iv 0, .unset, .unset] [])) _
    refine XS.iloadN X0.here hx rfl (hb hby d2_40) rfl ?_
    show Steps _ _ _ (s₁.setTop (mkF m 41 #[iv q1, iv 1, iv 0, .unset, .unset] [(.int q1)])) _
    refine X0.ldcInt hx hown (mvT hZ (hw _ (wd 20 rfl))) (g := (mkF m 41 #[iv q1, iv 1, iv 0, .unset, .unset] [(.int q1)])) rfl (hb hby d2_41) _ ?_
    show Steps _ _ _ (s₁.setTop (mkF m 43 #[iv q1, iv 1, iv 0, .unset, .unset] [(.int 65535), (.int q1)])) _
    refine XS.icmpYes X0.here hx rfl (pc0 := 43) (pc' := 50) rfl (hb hby d2_43) rfl (feq (own_neA hhi (by decide))).2 (by decide) (by decide) ?_
    show Steps _ _ _ (s₁.setTop (mkF m 50 #[iv q1, iv 1, iv 0, .unset, .unset] [])) _
    refine XS.iconst X0.here hx rfl (hb hby d2_50) ?_
    show Steps _ _ _ (s₁.setTop (mkF m 51 #[iv q1, iv 1, iv 0, .unset, .unset] [(.int 0)])) _
    refine XS.istoreN X0.here hx rfl (hb hby d2_51) rfl (l' := #[iv q1, iv 1, iv 0, iv 0, .unset]) rfl ?_
    show Steps _ _ _ (s₁.setTop (mkF m 52 #[iv q1, iv 1, iv 0, iv 0, .unset] [])) _
    refine XS.iloadN X0.here hx rfl (hb hby d2_52) rfl ?_
    show Steps _ _ _ (s₁.setTop (mkF m 53 #[iv q1, iv 1, iv 0, iv 0, .unset] [(.int q1)])) _
    refine XS.bipush X0.here hx rfl (hb hby d2_53) ?_
    show Steps _ _ _ (s₁.setTop (mkF m 55 #[iv q1, iv 1, iv 0, iv 0, .unset] [(.int 32), (.int q1)])) _
    refine XS.icmpYes X0.here hx rfl (pc0 := 55) (pc' := 76) rfl (hb hby d2_55) rfl (flt (own_nlt hlo (by decide))).2.1 (by decide) (by decide) ?_
    show Steps _ _ _ (s₁.setTop (mkF m 76 #[iv q1, iv 1, iv 0, iv 0, .unset] [])) _
    refine XS.iconst X0.here hx rfl (hb hby d2_76) ?_
    show Steps _ _ _ (s₁.setTop (mkF m 77 #[iv q1, iv 1, iv 0, iv 0, .unset] [(.int 1)])) _
    refine XS.goto X0.here hx rfl (pc0 := 77) (pc' := 81) rfl (hb hby d2_77) (by decide) (by decide) ?_
    show Steps _ _ _ (s₁.setTop (mkF m 81 #[iv q1, iv 1, iv 0, iv 0, .unset] [(.int 1)])) _
    refine XS.istore X0.here hx rfl (hb hby d2_81) rfl (l' := #[iv q1, iv 1, iv 0, iv 0, iv 1]) rfl ?_
    show Steps _ _ _ (s₁.setTop (mkF m 83 #[iv q1, iv 1, iv 0, iv 0, iv 1] [])) _
    refine XS.iloadN X0.here hx rfl (hb hby d2_83) rfl ?_
    show Steps _ _ _ (s₁.setTop (mkF m 84 #[iv q1, iv 1, iv 0, iv 0, iv 1] [(.int 1)])) _
    refine XS.ifNo X0.here hx rfl (hb hby d2_84) rfl (by decide) ?_
    show Steps _ _ _ (s₁.setTop (mkF m 87 #[iv q1, iv 1, iv 0, iv 0, iv 1] [])) _
    refine XS.iloadN X0.here hx rfl (hb hby d2_87) rfl ?_
    show Steps _ _ _ (s₁.setTop (mkF m 88 #[iv q1, iv 1, iv 0, iv 0, iv 1] [(.int 0)])) _
    refine XS.ifNo X0.here hx rfl (hb hby d2_88) rfl (by decide) ?_
    show Steps _ _ _ (s₁.setTop (mkF m 91 #[iv q1, iv 1, iv 0, iv 0, iv 1] [])) _
    refine XS.iloadN X0.here hx rfl (hb hby d2_91) rfl ?_
    show Steps _ _ _ (s₁.setTop (mkF m 92 #[iv q1, iv 1, iv 0, iv 0, iv 1] [(.int 0)])) _
    refine XS.ifNo X0.here hx rfl (hb hby d2_92) rfl (by decide) ?_
    show Steps _ _ _ (s₁.setTop (mkF m 95 #[iv q1, iv 1, iv 0, iv 0, iv 1] [])) _
    refine XS.iload X0.here hx rfl (hb hby d2_95) rfl ?_
    show Steps _ _ _ (s₁.setTop (mkF m 97 #[iv q1, iv 1, iv 0, iv 0, iv 1] [(.int 1)])) _
    refine XS.ifNo X0.here hx rfl (hb hby d2_97) rfl (by decide) ?_
    show Steps _ _ _ (s₁.setTop (mkF m 100 #[iv q1, iv 1, iv 0, iv 0, iv 1] [])) _
    refine XS.iconst X0.here hx rfl (hb hby d2_100) ?_
    show Steps _ _ _ (s₁.setTop (mkF m 101 #[iv q1, iv 1, iv 0, iv 0, iv 1] [(.int 1)])) _
    refine XS.goto X0.here hx rfl (pc0 := 101) (pc' := 105) rfl (hb hby d2_101) (by decide) (by decide) ?_
    show Steps _ _ _ (s₁.setTop (mkF m 105 #[iv q1, iv 1, iv 0, iv 0, iv 1] [(.int 1)])) _
    exact q
  obtain ⟨fs, hr, hrun, hended, hW, hsame⟩ := X0.leave (v := some (.int 1)) (fun h => by rw [Bd.returns] at h; cases h)
  refine ⟨_, _, k_16 _ ?_, hrun, hended, _, _, rfl, ?_, ⟨_, rfl⟩, hW, hsame.mono (by decide) (by decide)⟩
  · exact retN X0 hx (t := .boolean) Bd.returns (by simp) (hb hby d2_105) hr
  · show QV (some (.int 1)) h0 n0 _ s₁.heap _
    rw [e0]
    exact ⟨rfl, N0, rfl⟩
set_option maxRecDepth 65536 in
set_option maxHeartbeats 40000000 in
theorem ic_8 (l : Launch) (Z : State) (a0 : Array Value) (hw : ∀ d ∈ tables_1, d.before a0 Z = true) (ws : List Jvm.Cond) (q1 : Int32) (h0 : Heap) (n0 : Nat) (O0 : Old Z n0 h0) (hlo : (55296 : Int) ≤ q1.toInt) (hhi : q1.toInt ≤ 57343) :
    MetFree l y_0 (head1 (Jvm.Cond.code y_0 prog_154_method_29_code 1 (some .boolean) :: ws) ({ frames := 0, cells := 0, slots := 0, locals := 0 } : Room)) (fun a U => a = #[(.int q1)] ∧ Z.Warmed39 U.vm ∧ U.heap = h0) (fun _ _ _ _ _ => True) (fun _ U o U' => ∃ v L, o = .returned v ∧ QV (some (.int 0)) h0 n0 v U'.heap L ∧ FrameEnd U o U' L ({ frames := 0, cells := 0, slots := 0, locals := 0 } : Room).cells ({ frames := 0, cells := 0, slots := 0, locals := 0 } : Room).slots) := by
  refine MetFree.of_bodySF (plainFor_of_name pn_0) hisR ?_
  intro p e s m args below meth c s₁ Bd hml0 hP hK
  obtain ⟨rfl, hZ, hh⟩ := hP
  have hx := Bd.exec
  have hby := Bd.bytes
  have hml : c.maxLocals = 1 := hml0
  have hown : s.vm.findClass "com/example/befundweg/befundweg/XmlParser" = some m.cls := findClass_of_methodNamed Bd.named
  have hnm := (name_of_methodNamed Bd.named Bd.method).1
  have X0 : Stand p l e ({ frames := 0, cells := 0, slots := 0, locals := 0 } : Room) s m #[(.int q1)] below meth c s₁ [] 0 0 := Stand.of_body Bd
  have e0 : s₁.heap = h0 := by rw [← hh, Bd.state]; rfl
  have N0 := Fr.nil n0
  have K0 := Keep.refl h0 []
  have k0 : Go p.tables e below (s₁.setTop (entryFrame m #[(.int q1)] 1)) (s₁.setTop (mkF m 0 #[iv q1] [])) := fun t k => castTop (by first | rfl | (simp [entryFrame, mkF, argsToLocals, Value.category]; done)) k
  have k_17 : Go p.tables e below (s₁.setTop (entryFrame m #[(.int q1)] 1)) (s₁.setTop (mkF m 64 #[iv q1] [(.int 0)])) := fun t q => by
    refine k0 t ?_
    refine XS.iloadN X0.here hx rfl (hb hby d1_0) rfl ?_
    show Steps _ _ _ (s₁.setTop (mkF m 1 #[iv q1] [(.int q1)])) _
    refine XS.bipush X0.here hx rfl (hb hby d1_1) ?_
    show Steps _ _ _ (s₁.setTop (mkF m 3 #[iv q1] [(.int 9), (.int q1)])) _
    refine XS.icmpNo X0.here hx rfl (hb hby d1_3) rfl (feq (own_neB hlo (by decide))).1 ?_
    show Steps _ _ _ (s₁.setTop (mkF m 6 #[iv q1] [])) _
    refine XS.iloadN X0.here hx rfl (hb hby d1_6) rfl ?_
    show Steps _ _ _ (s₁.setTop (mkF m 7 #[iv q1] [(.int q1)])) _
    refine XS.bipush X0.here hx rfl (hb hby d1_7) ?_
    show Steps _ _ _ (s₁.setTop (mkF m 9 #[iv q1] [(.int 10), (.int q1)])) _
    refine XS.icmpNo X0.here hx rfl (hb hby d1_9) rfl (feq (own_neB hlo (by decide))).1 ?_
    show Steps _ _ _ (s₁.setTop (mkF m 12 #[iv q1] [])) _
    refine XS.iloadN X0.here hx rfl (hb hby d1_12) rfl ?_
    show Steps _ _ _ (s₁.setTop (mkF m 13 #[iv q1] [(.int q1)])) _
    refine XS.bipush X0.here hx rfl (hb hby d1_13) ?_
    show Steps _ _ _ (s₁.setTop (mkF m 15 #[iv q1] [(.int 13), (.int q1)])) _
    refine XS.icmpNo X0.here hx rfl (hb hby d1_15) rfl (feq (own_neB hlo (by decide))).1 ?_
    show Steps _ _ _ (s₁.setTop (mkF m 18 #[iv q1] [])) _
    refine XS.iloadN X0.here hx rfl (hb hby d1_18) rfl ?_
    show Steps _ _ _ (s₁.setTop (mkF m 19 #[iv q1] [(.int q1)])) _
    refine XS.bipush X0.here hx rfl (hb hby d1_19) ?_
    show Steps _ _ _ (s₁.setTop (mkF m 21 #[iv q1] [(.int 32), (.int q1)])) _
    refine XS.icmpNo X0.here hx rfl (hb hby d1_21) rfl (flt (own_nlt hlo (by decide))).1 ?_
    show Steps _ _ _ (s₁.setTop (mkF m 24 #[iv q1] [])) _
    refine XS.iloadN X0.here hx rfl (hb hby d1_24) rfl ?_
    show Steps _ _ _ (s₁.setTop (mkF m 25 #[iv q1] [(.int q1)])) _
    refine X0.ldcwInt hx hown (mvT hZ (hw _ (wd 21 rfl))) (g := (mkF m 25 #[iv q1] [(.int q1)])) rfl (hb hby d1_25) _ ?_
    show Steps _ _ _ (s₁.setTop (mkF m 28 #[iv q1] [(.int 55295), (.int q1)])) _
    refine XS.icmpNo X0.here hx rfl (hb hby d1_28) rfl (tlt (own_gt hlo (by decide))).2.2.2 ?_
    show Steps _ _ _ (s₁.setTop (mkF m 31 #[iv q1] [])) _
    refine XS.iloadN X0.here hx rfl (hb hby d1_31) rfl ?_
    show Steps _ _ _ (s₁.setTop (mkF m 32 #[iv q1] [(.int q1)])) _
    refine X0.ldcwInt hx hown (mvT hZ (hw _ (wd 14 rfl))) (g := (mkF m 32 #[iv q1] [(.int q1)])) rfl (hb hby d1_32) _ ?_
    show Steps _ _ _ (s₁.setTop (mkF m 35 #[iv q1] [(.int 57344), (.int q1)])) _
    refine XS.icmpYes X0.here hx rfl (pc0 := 35) (pc' := 45) rfl (hb hby d1_35) rfl (tlt (own_lt hhi (by decide))).1 (by decide) (by decide) ?_
    show Steps _ _ _ (s₁.setTop (mkF m 45 #[iv q1] [])) _
    refine XS.iloadN X0.here hx rfl (hb hby d1_45) rfl ?_
    show Steps _ _ _ (s₁.setTop (mkF m 46 #[iv q1] [(.int q1)])) _
    refine X0.ldcwInt hx hown (mvT hZ (hw _ (wd 15 rfl))) (g := (mkF m 46 #[iv q1] [(.int q1)])) rfl (hb hby d1_46) _ ?_
    show Steps _ _ _ (s₁.setTop (mkF m 49 #[iv q1] [(.int 65536), (.int q1)])) _
    refine XS.icmpYes X0.here hx rfl (pc0 := 49) (pc' := 63) rfl (hb hby d1_49) rfl (tlt (own_lt hhi (by decide))).1 (by decide) (by decide) ?_
    show Steps _ _ _ (s₁.setTop (mkF m 63 #[iv q1] [])) _
    refine XS.iconst X0.here hx rfl (hb hby d1_63) ?_
    show Steps _ _ _ (s₁.setTop (mkF m 64 #[iv q1] [(.int 0)])) _
    exact q
  obtain ⟨fs, hr, hrun, hended, hW, hsame⟩ := X0.leave (v := some (.int 0)) (fun h => by rw [Bd.returns] at h; cases h)
  refine ⟨_, _, k_17 _ ?_, hrun, hended, _, _, rfl, ?_, ⟨_, rfl⟩, hW, hsame.mono (by decide) (by decide)⟩
  · exact retN X0 hx (t := .boolean) Bd.returns (by simp) (hb hby d1_64) hr
  · show QV (some (.int 0)) h0 n0 _ s₁.heap _
    rw [e0]
    exact ⟨rfl, N0, rfl⟩
set_option maxRecDepth 65536 in
set_option maxHeartbeats 40000000 in
theorem ex_8 (l : Launch) (Z : State) (a0 : Array Value) (hw : ∀ d ∈ tables_1, d.before a0 Z = true) (ws : List Jvm.Cond) (q1 : Int32) (h0 : Heap) (n0 : Nat) (O0 : Old Z n0 h0) (hlo : (55296 : Int) ≤ q1.toInt) (hhi : q1.toInt ≤ 57343) :
    MetFree l y_1 (head1 (Jvm.Cond.code y_1 method_3_code 5 (some .boolean) :: ws) ({ frames := 0, cells := 0, slots := 0, locals := 0 } : Room)) (fun a U => a = #[(.int q1)] ∧ Z.Warmed39 U.vm ∧ U.heap = h0) (fun _ _ _ _ _ => True) (fun _ U o U' => ∃ v L, o = .returned v ∧ QV (some (.int 0)) h0 n0 v U'.heap L ∧ FrameEnd U o U' L ({ frames := 0, cells := 0, slots := 0, locals := 0 } : Room).cells ({ frames := 0, cells := 0, slots := 0, locals := 0 } : Room).slots) := by
  refine MetFree.of_bodySF (plainFor_of_name pn_1) hisR ?_
  intro p e s m args below meth c s₁ Bd hml0 hP hK
  obtain ⟨rfl, hZ, hh⟩ := hP
  have hx := Bd.exec
  have hby := Bd.bytes
  have hml : c.maxLocals = 5 := hml0
  have hown : s.vm.findClass "com/example/befundweg/befundweg/XmlParserIsCharacterPinLaw" = some m.cls := findClass_of_methodNamed Bd.named
  have hnm := (name_of_methodNamed Bd.named Bd.method).1
  have X0 : Stand p l e ({ frames := 0, cells := 0, slots := 0, locals := 0 } : Room) s m #[(.int q1)] below meth c s₁ [] 0 0 := Stand.of_body Bd
  have e0 : s₁.heap = h0 := by rw [← hh, Bd.state]; rfl
  have N0 := Fr.nil n0
  have K0 := Keep.refl h0 []
  have k0 : Go p.tables e below (s₁.setTop (entryFrame m #[(.int q1)] 5)) (s₁.setTop (mkF m 0 #[iv q1, .unset, .unset, .unset, .unset] [])) := fun t k => castTop (by first | rfl | (simp [entryFrame, mkF, argsToLocals, Value.category]; done)) k
  have k_18 : Go p.tables e below (s₁.setTop (entryFrame m #[(.int q1)] 5)) (s₁.setTop (mkF m 105 #[iv q1, iv 1, iv 1, iv 0, iv 1] [(.int 0)])) := fun t q => by
    refine k0 t ?_
    refine XS.iloadN X0.here hx rfl (hb hby d2_0) rfl ?_
    show Steps _ _ _ (s₁.setTop (mkF m 1 #[iv q1, .unset, .unset, .unset, .unset] [(.int q1)])) _
    refine XS.ifNo X0.here hx rfl (hb hby d2_1) rfl ((if0 _ _).trans (flt (own_nlt hlo (by decide))).1) ?_
    show Steps _ _ _ (s₁.setTop (mkF m 4 #[iv q1, .unset, .unset, .unset, .unset] [])) _
    refine XS.iloadN X0.here hx rfl (hb hby d2_4) rfl ?_
    show Steps _ _ _ (s₁.setTop (mkF m 5 #[iv q1, .unset, .unset, .unset, .unset] [(.int q1)])) _
    refine X0.ldcInt hx hown (mvT hZ (hw _ (wd 5 rfl))) (g := (mkF m 5 #[iv q1, .unset, .unset, .unset, .unset] [(.int q1)])) rfl (hb hby d2_5) _ ?_
    show Steps _ _ _ (s₁.setTop (mkF m 7 #[iv q1, .unset, .unset, .unset, .unset] [(.int 1114111), (.int q1)])) _
    refine XS.icmpNo X0.here hx rfl (hb hby d2_7) rfl (flt (own_ngt hhi (by decide))).2.2.1 ?_
    show Steps _ _ _ (s₁.setTop (mkF m 10 #[iv q1, .unset, .unset, .unset, .unset] [])) _
    refine XS.iconst X0.here hx rfl (hb hby d2_10) ?_
    show Steps _ _ _ (s₁.setTop (mkF m 11 #[iv q1, .unset, .unset, .unset, .unset] [(.int 1)])) _
    refine XS.goto X0.here hx rfl (pc0 := 11) (pc' := 15) rfl (hb hby d2_11) (by decide) (by decide) ?_
    show Steps _ _ _ (s₁.setTop (mkF m 15 #[iv q1, .unset, .unset, .unset, .unset] [(.int 1)])) _
    refine XS.istoreN X0.here hx rfl (hb hby d2_15) rfl (l' := #[iv q1, iv 1, .unset, .unset, .unset]) rfl ?_
    show Steps _ _ _ (s₁.setTop (mkF m 16 #[iv q1, iv 1, .unset, .unset, .unset] [])) _
    refine XS.iloadN X0.here hx rfl (hb hby d2_16) rfl ?_
    show Steps _ _ _ (s₁.setTop (mkF m 17 #[iv q1, iv 1, .unset, .unset, .unset] [(.int q1)])) _
    refine X0.ldcInt hx hown (mvT hZ (hw _ (wd 6 rfl))) (g := (mkF m 17 #[iv q1, iv 1, .unset, .unset, .unset] [(.int q1)])) rfl (hb hby d2_17) _ ?_
    show Steps _ _ _ (s₁.setTop (mkF m 19 #[iv q1, iv 1, .unset, .unset, .unset] [(.int 55296), (.int q1)])) _
    refine XS.icmpNo X0.here hx rfl (hb hby d2_19) rfl (flt (own_nlt hlo (by decide))).1 ?_
    show Steps _ _ _ (s₁.setTop (mkF m 22 #[iv q1, iv 1, .unset, .unset, .unset] [])) _
    refine XS.iloadN X0.here hx rfl (hb hby d2_22) rfl ?_
    show Steps _ _ _ (s₁.setTop (mkF m 23 #[iv q1, iv 1, .unset, .unset, .unset] [(.int q1)])) _
    refine X0.ldcInt hx hown (mvT hZ (hw _ (wd 7 rfl))) (g := (mkF m 23 #[iv q1, iv 1, .unset, .unset, .unset] [(.int q1)])) rfl (hb hby d2_23) _ ?_
    show Steps _ _ _ (s₁.setTop (mkF m 25 #[iv q1, iv 1, .unset, .unset, .unset] [(.int 57343), (.int q1)])) _
    refine XS.icmpNo X0.here hx rfl (hb hby d2_25) rfl (flt (own_ngt hhi (by decide))).2.2.1 ?_
    show Steps _ _ _ (s₁.setTop (mkF m 28 #[iv q1, iv 1, .unset, .unset, .unset] [])) _
    refine XS.iconst X0.here hx rfl (hb hby d2_28) ?_
    show Steps _ _ _ (s₁.setTop (mkF m 29 #[iv q1, iv 1, .unset, .unset, .unset] [(.int 1)])) _
    refine XS.goto X0.here hx rfl (pc0 := 29) (pc' := 33) rfl (hb hby d2_29) (by decide) (by decide) ?_
    show Steps _ _ _ (s₁.setTop (mkF m 33 #[iv q1, iv 1, .unset, .unset, .unset] [(.int 1)])) _
    refine XS.istoreN X0.here hx rfl (hb hby d2_33) rfl (l' := #[iv q1, iv 1, iv 1, .unset, .unset]) rfl ?_
    show Steps _ _ _ (s₁.setTop (mkF m 34 #[iv q1, iv 1, iv 1, .unset, .unset] [])) _
    refine XS.iloadN X0.here hx rfl (hb hby d2_34) rfl ?_
    show Steps _ _ _ (s₁.setTop (mkF m 35 #[iv q1, iv 1, iv 1, .unset, .unset] [(.int q1)])) _
    refine X0.ldcInt hx hown (mvT hZ (hw _ (wd 8 rfl))) (g := (mkF m 35 #[iv q1, iv 1, iv 1, .unset, .unset] [(.int q1)])) rfl (hb hby d2_35) _ ?_
    show Steps _ _ _ (s₁.setTop (mkF m 37 #[iv q1, iv 1, iv 1, .unset, .unset] [(.int 65534), (.int q1)])) _
    refine XS.icmpNo X0.here hx rfl (hb hby d2_37) rfl (feq (own_neA hhi (by decide))).1 ?_
    show Steps _ _ _ (s₁.setTop (mkF m 40 #[iv q1, iv 1, iv 1, .unset, .unset] [])) _
    refine XS.iloadN X0.here hx rfl (hb hby d2_40) rfl ?_
    show Steps _ _ _ (s₁.setTop (mkF m 41 #[iv q1, iv 1, iv 1, .unset, .unset] [(.int q1)])) _
    refine X0.ldcInt hx hown (mvT hZ (hw _ (wd 20 rfl))) (g := (mkF m 41 #[iv q1, iv 1, iv 1, .unset, .unset] [(.int q1)])) rfl (hb hby d2_41) _ ?_
    show Steps _ _ _ (s₁.setTop (mkF m 43 #[iv q1, iv 1, iv 1, .unset, .unset] [(.int 65535), (.int q1)])) _
    refine XS.icmpYes X0.here hx rfl (pc0 := 43) (pc' := 50) rfl (hb hby d2_43) rfl (feq (own_neA hhi (by decide))).2 (by decide) (by decide) ?_
    show Steps _ _ _ (s₁.setTop (mkF m 50 #[iv q1, iv 1, iv 1, .unset, .unset] [])) _
    refine XS.iconst X0.here hx rfl (hb hby d2_50) ?_
    show Steps _ _ _ (s₁.setTop (mkF m 51 #[iv q1, iv 1, iv 1, .unset, .unset] [(.int 0)])) _
    refine XS.istoreN X0.here hx rfl (hb hby d2_51) rfl (l' := #[iv q1, iv 1, iv 1, iv 0, .unset]) rfl ?_
    show Steps _ _ _ (s₁.setTop (mkF m 52 #[iv q1, iv 1, iv 1, iv 0, .unset] [])) _
    refine XS.iloadN X0.here hx rfl (hb hby d2_52) rfl ?_
    show Steps _ _ _ (s₁.setTop (mkF m 53 #[iv q1, iv 1, iv 1, iv 0, .unset] [(.int q1)])) _
    refine XS.bipush X0.here hx rfl (hb hby d2_53) ?_
    show Steps _ _ _ (s₁.setTop (mkF m 55 #[iv q1, iv 1, iv 1, iv 0, .unset] [(.int 32), (.int q1)])) _
    refine XS.icmpYes X0.here hx rfl (pc0 := 55) (pc' := 76) rfl (hb hby d2_55) rfl (flt (own_nlt hlo (by decide))).2.1 (by decide) (by decide) ?_
    show Steps _ _ _ (s₁.setTop (mkF m 76 #[iv q1, iv 1, iv 1, iv 0, .unset] [])) _
    refine XS.iconst X0.here hx rfl (hb hby d2_76) ?_
    show Steps _ _ _ (s₁.setTop (mkF m 77 #[iv q1, iv 1, iv 1, iv 0, .unset] [(.int 1)])) _
    refine XS.goto X0.here hx rfl (pc0 := 77) (pc' := 81) rfl (hb hby d2_77) (by decide) (by decide) ?_
    show Steps _ _ _ (s₁.setTop (mkF m 81 #[iv q1, iv 1, iv 1, iv 0, .unset] [(.int 1)])) _
    refine XS.istore X0.here hx rfl (hb hby d2_81) rfl (l' := #[iv q1, iv 1, iv 1, iv 0, iv 1]) rfl ?_
    show Steps _ _ _ (s₁.setTop (mkF m 83 #[iv q1, iv 1, iv 1, iv 0, iv 1] [])) _
    refine XS.iloadN X0.here hx rfl (hb hby d2_83) rfl ?_
    show Steps _ _ _ (s₁.setTop (mkF m 84 #[iv q1, iv 1, iv 1, iv 0, iv 1] [(.int 1)])) _
    refine XS.ifNo X0.here hx rfl (hb hby d2_84) rfl (by decide) ?_
    show Steps _ _ _ (s₁.setTop (mkF m 87 #[iv q1, iv 1, iv 1, iv 0, iv 1] [])) _
    refine XS.iloadN X0.here hx rfl (hb hby d2_87) rfl ?_
    show Steps _ _ _ (s₁.setTop (mkF m 88 #[iv q1, iv 1, iv 1, iv 0, iv 1] [(.int 1)])) _
    refine XS.ifYes X0.here hx rfl (pc0 := 88) (pc' := 104) rfl (hb hby d2_88) rfl (by decide) (by decide) (by decide) ?_
    show Steps _ _ _ (s₁.setTop (mkF m 104 #[iv q1, iv 1, iv 1, iv 0, iv 1] [])) _
    refine XS.iconst X0.here hx rfl (hb hby d2_104) ?_
    show Steps _ _ _ (s₁.setTop (mkF m 105 #[iv q1, iv 1, iv 1, iv 0, iv 1] [(.int 0)])) _
    exact q
  obtain ⟨fs, hr, hrun, hended, hW, hsame⟩ := X0.leave (v := some (.int 0)) (fun h => by rw [Bd.returns] at h; cases h)
  refine ⟨_, _, k_18 _ ?_, hrun, hended, _, _, rfl, ?_, ⟨_, rfl⟩, hW, hsame.mono (by decide) (by decide)⟩
  · exact retN X0 hx (t := .boolean) Bd.returns (by simp) (hb hby d2_105) hr
  · show QV (some (.int 0)) h0 n0 _ s₁.heap _
    rw [e0]
    exact ⟨rfl, N0, rfl⟩
set_option maxRecDepth 65536 in
set_option maxHeartbeats 40000000 in
theorem ic_9 (l : Launch) (Z : State) (a0 : Array Value) (hw : ∀ d ∈ tables_1, d.before a0 Z = true) (ws : List Jvm.Cond) (q1 : Int32) (h0 : Heap) (n0 : Nat) (O0 : Old Z n0 h0) (hlo : (57344 : Int) ≤ q1.toInt) (hhi : q1.toInt ≤ 65533) :
    MetFree l y_0 (head1 (Jvm.Cond.code y_0 prog_154_method_29_code 1 (some .boolean) :: ws) ({ frames := 0, cells := 0, slots := 0, locals := 0 } : Room)) (fun a U => a = #[(.int q1)] ∧ Z.Warmed39 U.vm ∧ U.heap = h0) (fun _ _ _ _ _ => True) (fun _ U o U' => ∃ v L, o = .returned v ∧ QV (some (.int 1)) h0 n0 v U'.heap L ∧ FrameEnd U o U' L ({ frames := 0, cells := 0, slots := 0, locals := 0 } : Room).cells ({ frames := 0, cells := 0, slots := 0, locals := 0 } : Room).slots) := by
  refine MetFree.of_bodySF (plainFor_of_name pn_0) hisR ?_
  intro p e s m args below meth c s₁ Bd hml0 hP hK
  obtain ⟨rfl, hZ, hh⟩ := hP
  have hx := Bd.exec
  have hby := Bd.bytes
  have hml : c.maxLocals = 1 := hml0
  have hown : s.vm.findClass "com/example/befundweg/befundweg/XmlParser" = some m.cls := findClass_of_methodNamed Bd.named
  have hnm := (name_of_methodNamed Bd.named Bd.method).1
  have X0 : Stand p l e ({ frames := 0, cells := 0, slots := 0, locals := 0 } : Room) s m #[(.int q1)] below meth c s₁ [] 0 0 := Stand.of_body Bd
  have e0 : s₁.heap = h0 := by rw [← hh, Bd.state]; rfl
  have N0 := Fr.nil n0
  have K0 := Keep.refl h0 []
  have k0 : Go p.tables e below (s₁.setTop (entryFrame m #[(.int q1)] 1)) (s₁.setTop (mkF m 0 #[iv q1] [])) := fun t k => castTop (by first | rfl | (simp [entryFrame, mkF, argsToLocals, Value.category]; done)) k
  have k_19 : Go p.tables e below (s₁.setTop (entryFrame m #[(.int q1)] 1)) (s₁.setTop (mkF m 64 #[iv q1] [(.int 1)])) := fun t q => by
    refine k0 t ?_
    refine XS.iloadN X0.here hx rfl (hb hby d1_0) rfl ?_
    show Steps _ _ _ (s₁.setTop (mkF m 1 #[iv q1] [(.int q1)])) _
    refine XS.bipush X0.here hx rfl (hb hby d1_1) ?_
    show Steps _ _ _ (s₁.setTop (mkF m 3 #[iv q1] [(.int 9), (.int q1)])) _
    refine XS.icmpNo X0.here hx rfl (hb hby d1_3) rfl (feq (own_neB hlo (by decide))).1 ?_
    show Steps _ _ _ (s₁.setTop (mkF m 6 #[iv q1] [])) _
    refine XS.iloadN X0.here hx rfl (hb hby d1_6) rfl ?_
    show Steps _ _ _ (s₁.setTop (mkF m 7 #[iv q1] [(.int q1)])) _
    refine XS.bipush X0.here hx rfl (hb hby d1_7) ?_
    show Steps _ _ _ (s₁.setTop (mkF m 9 #[iv q1] [(.int 10), (.int q1)])) _
    refine XS.icmpNo X0.here hx rfl (hb hby d1_9) rfl (feq (own_neB hlo (by decide))).1 ?_
    show Steps _ _ _ (s₁.setTop (mkF m 12 #[iv q1] [])) _
    refine XS.iloadN X0.here hx rfl (hb hby d1_12) rfl ?_
    show Steps _ _ _ (s₁.setTop (mkF m 13 #[iv q1] [(.int q1)])) _
    refine XS.bipush X0.here hx rfl (hb hby d1_13) ?_
    show Steps _ _ _ (s₁.setTop (mkF m 15 #[iv q1] [(.int 13), (.int q1)])) _
    refine XS.icmpNo X0.here hx rfl (hb hby d1_15) rfl (feq (own_neB hlo (by decide))).1 ?_
    show Steps _ _ _ (s₁.setTop (mkF m 18 #[iv q1] [])) _
    refine XS.iloadN X0.here hx rfl (hb hby d1_18) rfl ?_
    show Steps _ _ _ (s₁.setTop (mkF m 19 #[iv q1] [(.int q1)])) _
    refine XS.bipush X0.here hx rfl (hb hby d1_19) ?_
    show Steps _ _ _ (s₁.setTop (mkF m 21 #[iv q1] [(.int 32), (.int q1)])) _
    refine XS.icmpNo X0.here hx rfl (hb hby d1_21) rfl (flt (own_nlt hlo (by decide))).1 ?_
    show Steps _ _ _ (s₁.setTop (mkF m 24 #[iv q1] [])) _
    refine XS.iloadN X0.here hx rfl (hb hby d1_24) rfl ?_
    show Steps _ _ _ (s₁.setTop (mkF m 25 #[iv q1] [(.int q1)])) _
    refine X0.ldcwInt hx hown (mvT hZ (hw _ (wd 21 rfl))) (g := (mkF m 25 #[iv q1] [(.int q1)])) rfl (hb hby d1_25) _ ?_
    show Steps _ _ _ (s₁.setTop (mkF m 28 #[iv q1] [(.int 55295), (.int q1)])) _
    refine XS.icmpNo X0.here hx rfl (hb hby d1_28) rfl (tlt (own_gt hlo (by decide))).2.2.2 ?_
    show Steps _ _ _ (s₁.setTop (mkF m 31 #[iv q1] [])) _
    refine XS.iloadN X0.here hx rfl (hb hby d1_31) rfl ?_
    show Steps _ _ _ (s₁.setTop (mkF m 32 #[iv q1] [(.int q1)])) _
    refine X0.ldcwInt hx hown (mvT hZ (hw _ (wd 14 rfl))) (g := (mkF m 32 #[iv q1] [(.int q1)])) rfl (hb hby d1_32) _ ?_
    show Steps _ _ _ (s₁.setTop (mkF m 35 #[iv q1] [(.int 57344), (.int q1)])) _
    refine XS.icmpNo X0.here hx rfl (hb hby d1_35) rfl (flt (own_nlt hlo (by decide))).1 ?_
    show Steps _ _ _ (s₁.setTop (mkF m 38 #[iv q1] [])) _
    refine XS.iloadN X0.here hx rfl (hb hby d1_38) rfl ?_
    show Steps _ _ _ (s₁.setTop (mkF m 39 #[iv q1] [(.int q1)])) _
    refine X0.ldcwInt hx hown (mvT hZ (hw _ (wd 22 rfl))) (g := (mkF m 39 #[iv q1] [(.int q1)])) rfl (hb hby d1_39) _ ?_
    show Steps _ _ _ (s₁.setTop (mkF m 42 #[iv q1] [(.int 65533), (.int q1)])) _
    refine XS.icmpYes X0.here hx rfl (pc0 := 42) (pc' := 59) rfl (hb hby d1_42) rfl (flt (own_ngt hhi (by decide))).2.2.2 (by decide) (by decide) ?_
    show Steps _ _ _ (s₁.setTop (mkF m 59 #[iv q1] [])) _
    refine XS.iconst X0.here hx rfl (hb hby d1_59) ?_
    show Steps _ _ _ (s₁.setTop (mkF m 60 #[iv q1] [(.int 1)])) _
    refine XS.goto X0.here hx rfl (pc0 := 60) (pc' := 64) rfl (hb hby d1_60) (by decide) (by decide) ?_
    show Steps _ _ _ (s₁.setTop (mkF m 64 #[iv q1] [(.int 1)])) _
    exact q
  obtain ⟨fs, hr, hrun, hended, hW, hsame⟩ := X0.leave (v := some (.int 1)) (fun h => by rw [Bd.returns] at h; cases h)
  refine ⟨_, _, k_19 _ ?_, hrun, hended, _, _, rfl, ?_, ⟨_, rfl⟩, hW, hsame.mono (by decide) (by decide)⟩
  · exact retN X0 hx (t := .boolean) Bd.returns (by simp) (hb hby d1_64) hr
  · show QV (some (.int 1)) h0 n0 _ s₁.heap _
    rw [e0]
    exact ⟨rfl, N0, rfl⟩
set_option maxRecDepth 65536 in
set_option maxHeartbeats 40000000 in
theorem ex_9 (l : Launch) (Z : State) (a0 : Array Value) (hw : ∀ d ∈ tables_1, d.before a0 Z = true) (ws : List Jvm.Cond) (q1 : Int32) (h0 : Heap) (n0 : Nat) (O0 : Old Z n0 h0) (hlo : (57344 : Int) ≤ q1.toInt) (hhi : q1.toInt ≤ 65533) :
    MetFree l y_1 (head1 (Jvm.Cond.code y_1 method_3_code 5 (some .boolean) :: ws) ({ frames := 0, cells := 0, slots := 0, locals := 0 } : Room)) (fun a U => a = #[(.int q1)] ∧ Z.Warmed39 U.vm ∧ U.heap = h0) (fun _ _ _ _ _ => True) (fun _ U o U' => ∃ v L, o = .returned v ∧ QV (some (.int 1)) h0 n0 v U'.heap L ∧ FrameEnd U o U' L ({ frames := 0, cells := 0, slots := 0, locals := 0 } : Room).cells ({ frames := 0, cells := 0, slots := 0, locals := 0 } : Room).slots) := by
  refine MetFree.of_bodySF (plainFor_of_name pn_1) hisR ?_
  intro p e s m args below meth c s₁ Bd hml0 hP hK
  obtain ⟨rfl, hZ, hh⟩ := hP
  have hx := Bd.exec
  have hby := Bd.bytes
  have hml : c.maxLocals = 5 := hml0
  have hown : s.vm.findClass "com/example/befundweg/befundweg/XmlParserIsCharacterPinLaw" = some m.cls := findClass_of_methodNamed Bd.named
  have hnm := (name_of_methodNamed Bd.named Bd.method).1
  have X0 : Stand p l e ({ frames := 0, cells := 0, slots := 0, locals := 0 } : Room) s m #[(.int q1)] below meth c s₁ [] 0 0 := Stand.of_body Bd
  have e0 : s₁.heap = h0 := by rw [← hh, Bd.state]; rfl
  have N0 := Fr.nil n0
  have K0 := Keep.refl h0 []
  have k0 : Go p.tables e below (s₁.setTop (entryFrame m #[(.int q1)] 5)) (s₁.setTop (mkF m 0 #[iv q1, .unset, .unset, .unset, .unset] [])) := fun t k => castTop (by first | rfl | (simp [entryFrame, mkF, argsToLocals, Value.category]; done)) k
  have k_20 : Go p.tables e below (s₁.setTop (entryFrame m #[(.int q1)] 5)) (s₁.setTop (mkF m 105 #[iv q1, iv 1, iv 0, iv 0, iv 1] [(.int 1)])) := fun t q => by
    refine k0 t ?_
    refine XS.iloadN X0.here hx rfl (hb hby d2_0) rfl ?_
    show Steps _ _ _ (s₁.setTop (mkF m 1 #[iv q1, .unset, .unset, .unset, .unset] [(.int q1)])) _
    refine XS.ifNo X0.here hx rfl (hb hby d2_1) rfl ((if0 _ _).trans (flt (own_nlt hlo (by decide))).1) ?_
    show Steps _ _ _ (s₁.setTop (mkF m 4 #[iv q1, .unset, .unset, .unset, .unset] [])) _
    refine XS.iloadN X0.here hx rfl (hb hby d2_4) rfl ?_
    show Steps _ _ _ (s₁.setTop (mkF m 5 #[iv q1, .unset, .unset, .unset, .unset] [(.int q1)])) _
    refine X0.ldcInt hx hown (mvT hZ (hw _ (wd 5 rfl))) (g := (mkF m 5 #[iv q1, .unset, .unset, .unset, .unset] [(.int q1)])) rfl (hb hby d2_5) _ ?_
    show Steps _ _ _ (s₁.setTop (mkF m 7 #[iv q1, .unset, .unset, .unset, .unset] [(.int 1114111), (.int q1)])) _
    refine XS.icmpNo X0.here hx rfl (hb hby d2_7) rfl (flt (own_ngt hhi (by decide))).2.2.1 ?_
    show Steps _ _ _ (s₁.setTop (mkF m 10 #[iv q1, .unset, .unset, .unset, .unset] [])) _
    refine XS.iconst X0.here hx rfl (hb hby d2_10) ?_
    show Steps _ _ _ (s₁.setTop (mkF m 11 #[iv q1, .unset, .unset, .unset, .unset] [(.int 1)])) _
    refine XS.goto X0.here hx rfl (pc0 := 11) (pc' := 15) rfl (hb hby d2_11) (by decide) (by decide) ?_
    show Steps _ _ _ (s₁.setTop (mkF m 15 #[iv q1, .unset, .unset, .unset, .unset] [(.int 1)])) _
    refine XS.istoreN X0.here hx rfl (hb hby d2_15) rfl (l' := #[iv q1, iv 1, .unset, .unset, .unset]) rfl ?_
    show Steps _ _ _ (s₁.setTop (mkF m 16 #[iv q1, iv 1, .unset, .unset, .unset] [])) _
    refine XS.iloadN X0.here hx rfl (hb hby d2_16) rfl ?_
    show Steps _ _ _ (s₁.setTop (mkF m 17 #[iv q1, iv 1, .unset, .unset, .unset] [(.int q1)])) _
    refine X0.ldcInt hx hown (mvT hZ (hw _ (wd 6 rfl))) (g := (mkF m 17 #[iv q1, iv 1, .unset, .unset, .unset] [(.int q1)])) rfl (hb hby d2_17) _ ?_
    show Steps _ _ _ (s₁.setTop (mkF m 19 #[iv q1, iv 1, .unset, .unset, .unset] [(.int 55296), (.int q1)])) _
    refine XS.icmpNo X0.here hx rfl (hb hby d2_19) rfl (flt (own_nlt hlo (by decide))).1 ?_
    show Steps _ _ _ (s₁.setTop (mkF m 22 #[iv q1, iv 1, .unset, .unset, .unset] [])) _
    refine XS.iloadN X0.here hx rfl (hb hby d2_22) rfl ?_
    show Steps _ _ _ (s₁.setTop (mkF m 23 #[iv q1, iv 1, .unset, .unset, .unset] [(.int q1)])) _
    refine X0.ldcInt hx hown (mvT hZ (hw _ (wd 7 rfl))) (g := (mkF m 23 #[iv q1, iv 1, .unset, .unset, .unset] [(.int q1)])) rfl (hb hby d2_23) _ ?_
    show Steps _ _ _ (s₁.setTop (mkF m 25 #[iv q1, iv 1, .unset, .unset, .unset] [(.int 57343), (.int q1)])) _
    refine XS.icmpYes X0.here hx rfl (pc0 := 25) (pc' := 32) rfl (hb hby d2_25) rfl (tlt (own_gt hlo (by decide))).2.2.1 (by decide) (by decide) ?_
    show Steps _ _ _ (s₁.setTop (mkF m 32 #[iv q1, iv 1, .unset, .unset, .unset] [])) _
    refine XS.iconst X0.here hx rfl (hb hby d2_32) ?_
    show Steps _ _ _ (s₁.setTop (mkF m 33 #[iv q1, iv 1, .unset, .unset, .unset] [(.int 0)])) _
    refine XS.istoreN X0.here hx rfl (hb hby d2_33) rfl (l' := #[iv q1, iv 1, iv 0, .unset, .unset]) rfl ?_
    show Steps _ _ _ (s₁.setTop (mkF m 34 #[iv q1, iv 1, iv 0, .unset, .unset] [])) _
    refine XS.iloadN X0.here hx rfl (hb hby d2_34) rfl ?_
    show Steps _ _ _ (s₁.setTop (mkF m 35 #[iv q1, iv 1, iv 0, .unset, .unset] [(.int q1)])) _
    refine X0.ldcInt hx hown (mvT hZ (hw _ (wd 8 rfl))) (g := (mkF m 35 #[iv q1, iv 1, iv 0, .unset, .unset] [(.int q1)])) rfl (hb hby d2_35) _ ?_
    show Steps _ _ _ (s₁.setTop (mkF m 37 #[iv q1, iv 1, iv 0, .unset, .unset] [(.int 65534), (.int q1)])) _
    refine XS.icmpNo X0.here hx rfl (hb hby d2_37) rfl (feq (own_neA hhi (by decide))).1 ?_
    show Steps _ _ _ (s₁.setTop (mkF m 40 #[iv q1, iv 1, iv 0, .unset, .unset] [])) _
    refine XS.iloadN X0.here hx rfl (hb hby d2_40) rfl ?_
    show Steps _ _ _ (s₁.setTop (mkF m 41 #[iv q1, iv 1, iv 0, .unset, .unset] [(.int q1)])) _
    refine X0.ldcInt hx hown (mvT hZ (hw _ (wd 20 rfl))) (g := (mkF m 41 #[iv q1, iv 1, iv 0, .unset, .unset] [(.int q1)])) rfl (hb hby d2_41) _ ?_
    show Steps _ _ _ (s₁.setTop (mkF m 43 #[iv q1, iv 1, iv 0, .unset, .unset] [(.int 65535), (.int q1)])) _
    refine XS.icmpYes X0.here hx rfl (pc0 := 43) (pc' := 50) rfl (hb hby d2_43) rfl (feq (own_neA hhi (by decide))).2 (by decide) (by decide) ?_
    show Steps _ _ _ (s₁.setTop (mkF m 50 #[iv q1, iv 1, iv 0, .unset, .unset] [])) _
    refine XS.iconst X0.here hx rfl (hb hby d2_50) ?_
    show Steps _ _ _ (s₁.setTop (mkF m 51 #[iv q1, iv 1, iv 0, .unset, .unset] [(.int 0)])) _
    refine XS.istoreN X0.here hx rfl (hb hby d2_51) rfl (l' := #[iv q1, iv 1, iv 0, iv 0, .unset]) rfl ?_
    show Steps _ _ _ (s₁.setTop (mkF m 52 #[iv q1, iv 1, iv 0, iv 0, .unset] [])) _
    refine XS.iloadN X0.here hx rfl (hb hby d2_52) rfl ?_
    show Steps _ _ _ (s₁.setTop (mkF m 53 #[iv q1, iv 1, iv 0, iv 0, .unset] [(.int q1)])) _
    refine XS.bipush X0.here hx rfl (hb hby d2_53) ?_
    show Steps _ _ _ (s₁.setTop (mkF m 55 #[iv q1, iv 1, iv 0, iv 0, .unset] [(.int 32), (.int q1)])) _
    refine XS.icmpYes X0.here hx rfl (pc0 := 55) (pc' := 76) rfl (hb hby d2_55) rfl (flt (own_nlt hlo (by decide))).2.1 (by decide) (by decide) ?_
    show Steps _ _ _ (s₁.setTop (mkF m 76 #[iv q1, iv 1, iv 0, iv 0, .unset] [])) _
    refine XS.iconst X0.here hx rfl (hb hby d2_76) ?_
    show Steps _ _ _ (s₁.setTop (mkF m 77 #[iv q1, iv 1, iv 0, iv 0, .unset] [(.int 1)])) _
    refine XS.goto X0.here hx rfl (pc0 := 77) (pc' := 81) rfl (hb hby d2_77) (by decide) (by decide) ?_
    show Steps _ _ _ (s₁.setTop (mkF m 81 #[iv q1, iv 1, iv 0, iv 0, .unset] [(.int 1)])) _
    refine XS.istore X0.here hx rfl (hb hby d2_81) rfl (l' := #[iv q1, iv 1, iv 0, iv 0, iv 1]) rfl ?_
    show Steps _ _ _ (s₁.setTop (mkF m 83 #[iv q1, iv 1, iv 0, iv 0, iv 1] [])) _
    refine XS.iloadN X0.here hx rfl (hb hby d2_83) rfl ?_
    show Steps _ _ _ (s₁.setTop (mkF m 84 #[iv q1, iv 1, iv 0, iv 0, iv 1] [(.int 1)])) _
    refine XS.ifNo X0.here hx rfl (hb hby d2_84) rfl (by decide) ?_
    show Steps _ _ _ (s₁.setTop (mkF m 87 #[iv q1, iv 1, iv 0, iv 0, iv 1] [])) _
    refine XS.iloadN X0.here hx rfl (hb hby d2_87) rfl ?_
    show Steps _ _ _ (s₁.setTop (mkF m 88 #[iv q1, iv 1, iv 0, iv 0, iv 1] [(.int 0)])) _
    refine XS.ifNo X0.here hx rfl (hb hby d2_88) rfl (by decide) ?_
    show Steps _ _ _ (s₁.setTop (mkF m 91 #[iv q1, iv 1, iv 0, iv 0, iv 1] [])) _
    refine XS.iloadN X0.here hx rfl (hb hby d2_91) rfl ?_
    show Steps _ _ _ (s₁.setTop (mkF m 92 #[iv q1, iv 1, iv 0, iv 0, iv 1] [(.int 0)])) _
    refine XS.ifNo X0.here hx rfl (hb hby d2_92) rfl (by decide) ?_
    show Steps _ _ _ (s₁.setTop (mkF m 95 #[iv q1, iv 1, iv 0, iv 0, iv 1] [])) _
    refine XS.iload X0.here hx rfl (hb hby d2_95) rfl ?_
    show Steps _ _ _ (s₁.setTop (mkF m 97 #[iv q1, iv 1, iv 0, iv 0, iv 1] [(.int 1)])) _
    refine XS.ifNo X0.here hx rfl (hb hby d2_97) rfl (by decide) ?_
    show Steps _ _ _ (s₁.setTop (mkF m 100 #[iv q1, iv 1, iv 0, iv 0, iv 1] [])) _
    refine XS.iconst X0.here hx rfl (hb hby d2_100) ?_
    show Steps _ _ _ (s₁.setTop (mkF m 101 #[iv q1, iv 1, iv 0, iv 0, iv 1] [(.int 1)])) _
    refine XS.goto X0.here hx rfl (pc0 := 101) (pc' := 105) rfl (hb hby d2_101) (by decide) (by decide) ?_
    show Steps _ _ _ (s₁.setTop (mkF m 105 #[iv q1, iv 1, iv 0, iv 0, iv 1] [(.int 1)])) _
    exact q
  obtain ⟨fs, hr, hrun, hended, hW, hsame⟩ := X0.leave (v := some (.int 1)) (fun h => by rw [Bd.returns] at h; cases h)
  refine ⟨_, _, k_20 _ ?_, hrun, hended, _, _, rfl, ?_, ⟨_, rfl⟩, hW, hsame.mono (by decide) (by decide)⟩
  · exact retN X0 hx (t := .boolean) Bd.returns (by simp) (hb hby d2_105) hr
  · show QV (some (.int 1)) h0 n0 _ s₁.heap _
    rw [e0]
    exact ⟨rfl, N0, rfl⟩
set_option maxRecDepth 65536 in
set_option maxHeartbeats 40000000 in
theorem ic_10 (l : Launch) (Z : State) (a0 : Array Value) (hw : ∀ d ∈ tables_1, d.before a0 Z = true) (ws : List Jvm.Cond) (q1 : Int32) (h0 : Heap) (n0 : Nat) (O0 : Old Z n0 h0) (hlo : (65534 : Int) ≤ q1.toInt) (hhi : q1.toInt ≤ 65534) :
    MetFree l y_0 (head1 (Jvm.Cond.code y_0 prog_154_method_29_code 1 (some .boolean) :: ws) ({ frames := 0, cells := 0, slots := 0, locals := 0 } : Room)) (fun a U => a = #[(.int q1)] ∧ Z.Warmed39 U.vm ∧ U.heap = h0) (fun _ _ _ _ _ => True) (fun _ U o U' => ∃ v L, o = .returned v ∧ QV (some (.int 0)) h0 n0 v U'.heap L ∧ FrameEnd U o U' L ({ frames := 0, cells := 0, slots := 0, locals := 0 } : Room).cells ({ frames := 0, cells := 0, slots := 0, locals := 0 } : Room).slots) := by
  refine MetFree.of_bodySF (plainFor_of_name pn_0) hisR ?_
  intro p e s m args below meth c s₁ Bd hml0 hP hK
  obtain ⟨rfl, hZ, hh⟩ := hP
  have hx := Bd.exec
  have hby := Bd.bytes
  have hml : c.maxLocals = 1 := hml0
  have hown : s.vm.findClass "com/example/befundweg/befundweg/XmlParser" = some m.cls := findClass_of_methodNamed Bd.named
  have hnm := (name_of_methodNamed Bd.named Bd.method).1
  have X0 : Stand p l e ({ frames := 0, cells := 0, slots := 0, locals := 0 } : Room) s m #[(.int q1)] below meth c s₁ [] 0 0 := Stand.of_body Bd
  have e0 : s₁.heap = h0 := by rw [← hh, Bd.state]; rfl
  have N0 := Fr.nil n0
  have K0 := Keep.refl h0 []
  have k0 : Go p.tables e below (s₁.setTop (entryFrame m #[(.int q1)] 1)) (s₁.setTop (mkF m 0 #[iv q1] [])) := fun t k => castTop (by first | rfl | (simp [entryFrame, mkF, argsToLocals, Value.category]; done)) k
  have k_21 : Go p.tables e below (s₁.setTop (entryFrame m #[(.int q1)] 1)) (s₁.setTop (mkF m 64 #[iv q1] [(.int 0)])) := fun t q => by
    refine k0 t ?_
    refine XS.iloadN X0.here hx rfl (hb hby d1_0) rfl ?_
    show Steps _ _ _ (s₁.setTop (mkF m 1 #[iv q1] [(.int q1)])) _
    refine XS.bipush X0.here hx rfl (hb hby d1_1) ?_
    show Steps _ _ _ (s₁.setTop (mkF m 3 #[iv q1] [(.int 9), (.int q1)])) _
    refine XS.icmpNo X0.here hx rfl (hb hby d1_3) rfl (feq (own_neB hlo (by decide))).1 ?_
    show Steps _ _ _ (s₁.setTop (mkF m 6 #[iv q1] [])) _
    refine XS.iloadN X0.here hx rfl (hb hby d1_6) rfl ?_
    show Steps _ _ _ (s₁.setTop (mkF m 7 #[iv q1] [(.int q1)])) _
    refine XS.bipush X0.here hx rfl (hb hby d1_7) ?_
    show Steps _ _ _ (s₁.setTop (mkF m 9 #[iv q1] [(.int 10), (.int q1)])) _
    refine XS.icmpNo X0.here hx rfl (hb hby d1_9) rfl (feq (own_neB hlo (by decide))).1 ?_
    show Steps _ _ _ (s₁.setTop (mkF m 12 #[iv q1] [])) _
    refine XS.iloadN X0.here hx rfl (hb hby d1_12) rfl ?_
    show Steps _ _ _ (s₁.setTop (mkF m 13 #[iv q1] [(.int q1)])) _
    refine XS.bipush X0.here hx rfl (hb hby d1_13) ?_
    show Steps _ _ _ (s₁.setTop (mkF m 15 #[iv q1] [(.int 13), (.int q1)])) _
    refine XS.icmpNo X0.here hx rfl (hb hby d1_15) rfl (feq (own_neB hlo (by decide))).1 ?_
    show Steps _ _ _ (s₁.setTop (mkF m 18 #[iv q1] [])) _
    refine XS.iloadN X0.here hx rfl (hb hby d1_18) rfl ?_
    show Steps _ _ _ (s₁.setTop (mkF m 19 #[iv q1] [(.int q1)])) _
    refine XS.bipush X0.here hx rfl (hb hby d1_19) ?_
    show Steps _ _ _ (s₁.setTop (mkF m 21 #[iv q1] [(.int 32), (.int q1)])) _
    refine XS.icmpNo X0.here hx rfl (hb hby d1_21) rfl (flt (own_nlt hlo (by decide))).1 ?_
    show Steps _ _ _ (s₁.setTop (mkF m 24 #[iv q1] [])) _
    refine XS.iloadN X0.here hx rfl (hb hby d1_24) rfl ?_
    show Steps _ _ _ (s₁.setTop (mkF m 25 #[iv q1] [(.int q1)])) _
    refine X0.ldcwInt hx hown (mvT hZ (hw _ (wd 21 rfl))) (g := (mkF m 25 #[iv q1] [(.int q1)])) rfl (hb hby d1_25) _ ?_
    show Steps _ _ _ (s₁.setTop (mkF m 28 #[iv q1] [(.int 55295), (.int q1)])) _
    refine XS.icmpNo X0.here hx rfl (hb hby d1_28) rfl (tlt (own_gt hlo (by decide))).2.2.2 ?_
    show Steps _ _ _ (s₁.setTop (mkF m 31 #[iv q1] [])) _
    refine XS.iloadN X0.here hx rfl (hb hby d1_31) rfl ?_
    show Steps _ _ _ (s₁.setTop (mkF m 32 #[iv q1] [(.int q1)])) _
    refine X0.ldcwInt hx hown (mvT hZ (hw _ (wd 14 rfl))) (g := (mkF m 32 #[iv q1] [(.int q1)])) rfl (hb hby d1_32) _ ?_
    show Steps _ _ _ (s₁.setTop (mkF m 35 #[iv q1] [(.int 57344), (.int q1)])) _
    refine XS.icmpNo X0.here hx rfl (hb hby d1_35) rfl (flt (own_nlt hlo (by decide))).1 ?_
    show Steps _ _ _ (s₁.setTop (mkF m 38 #[iv q1] [])) _
    refine XS.iloadN X0.here hx rfl (hb hby d1_38) rfl ?_
    show Steps _ _ _ (s₁.setTop (mkF m 39 #[iv q1] [(.int q1)])) _
    refine X0.ldcwInt hx hown (mvT hZ (hw _ (wd 22 rfl))) (g := (mkF m 39 #[iv q1] [(.int q1)])) rfl (hb hby d1_39) _ ?_
    show Steps _ _ _ (s₁.setTop (mkF m 42 #[iv q1] [(.int 65533), (.int q1)])) _
    refine XS.icmpNo X0.here hx rfl (hb hby d1_42) rfl (tlt (own_gt hlo (by decide))).2.2.2 ?_
    show Steps _ _ _ (s₁.setTop (mkF m 45 #[iv q1] [])) _
    refine XS.iloadN X0.here hx rfl (hb hby d1_45) rfl ?_
    show Steps _ _ _ (s₁.setTop (mkF m 46 #[iv q1] [(.int q1)])) _
    refine X0.ldcwInt hx hown (mvT hZ (hw _ (wd 15 rfl))) (g := (mkF m 46 #[iv q1] [(.int q1)])) rfl (hb hby d1_46) _ ?_
    show Steps _ _ _ (s₁.setTop (mkF m 49 #[iv q1] [(.int 65536), (.int q1)])) _
    refine XS.icmpYes X0.here hx rfl (pc0 := 49) (pc' := 63) rfl (hb hby d1_49) rfl (tlt (own_lt hhi (by decide))).1 (by decide) (by decide) ?_
    show Steps _ _ _ (s₁.setTop (mkF m 63 #[iv q1] [])) _
    refine XS.iconst X0.here hx rfl (hb hby d1_63) ?_
    show Steps _ _ _ (s₁.setTop (mkF m 64 #[iv q1] [(.int 0)])) _
    exact q
  obtain ⟨fs, hr, hrun, hended, hW, hsame⟩ := X0.leave (v := some (.int 0)) (fun h => by rw [Bd.returns] at h; cases h)
  refine ⟨_, _, k_21 _ ?_, hrun, hended, _, _, rfl, ?_, ⟨_, rfl⟩, hW, hsame.mono (by decide) (by decide)⟩
  · exact retN X0 hx (t := .boolean) Bd.returns (by simp) (hb hby d1_64) hr
  · show QV (some (.int 0)) h0 n0 _ s₁.heap _
    rw [e0]
    exact ⟨rfl, N0, rfl⟩
set_option maxRecDepth 65536 in
set_option maxHeartbeats 40000000 in
theorem ex_10 (l : Launch) (Z : State) (a0 : Array Value) (hw : ∀ d ∈ tables_1, d.before a0 Z = true) (ws : List Jvm.Cond) (q1 : Int32) (h0 : Heap) (n0 : Nat) (O0 : Old Z n0 h0) (hlo : (65534 : Int) ≤ q1.toInt) (hhi : q1.toInt ≤ 65534) :
    MetFree l y_1 (head1 (Jvm.Cond.code y_1 method_3_code 5 (some .boolean) :: ws) ({ frames := 0, cells := 0, slots := 0, locals := 0 } : Room)) (fun a U => a = #[(.int q1)] ∧ Z.Warmed39 U.vm ∧ U.heap = h0) (fun _ _ _ _ _ => True) (fun _ U o U' => ∃ v L, o = .returned v ∧ QV (some (.int 0)) h0 n0 v U'.heap L ∧ FrameEnd U o U' L ({ frames := 0, cells := 0, slots := 0, locals := 0 } : Room).cells ({ frames := 0, cells := 0, slots := 0, locals := 0 } : Room).slots) := by
  refine MetFree.of_bodySF (plainFor_of_name pn_1) hisR ?_
  intro p e s m args below meth c s₁ Bd hml0 hP hK
  obtain ⟨rfl, hZ, hh⟩ := hP
  have hx := Bd.exec
  have hby := Bd.bytes
  have hml : c.maxLocals = 5 := hml0
  have hown : s.vm.findClass "com/example/befundweg/befundweg/XmlParserIsCharacterPinLaw" = some m.cls := findClass_of_methodNamed Bd.named
  have hnm := (name_of_methodNamed Bd.named Bd.method).1
  have X0 : Stand p l e ({ frames := 0, cells := 0, slots := 0, locals := 0 } : Room) s m #[(.int q1)] below meth c s₁ [] 0 0 := Stand.of_body Bd
  have e0 : s₁.heap = h0 := by rw [← hh, Bd.state]; rfl
  have N0 := Fr.nil n0
  have K0 := Keep.refl h0 []
  have k0 : Go p.tables e below (s₁.setTop (entryFrame m #[(.int q1)] 5)) (s₁.setTop (mkF m 0 #[iv q1, .unset, .unset, .unset, .unset] [])) := fun t k => castTop (by first | rfl | (simp [entryFrame, mkF, argsToLocals, Value.category]; done)) k
  have k_22 : Go p.tables e below (s₁.setTop (entryFrame m #[(.int q1)] 5)) (s₁.setTop (mkF m 105 #[iv q1, iv 1, iv 0, iv 1, iv 1] [(.int 0)])) := fun t q => by
    refine k0 t ?_
    refine XS.iloadN X0.here hx rfl (hb hby d2_0) rfl ?_
    show Steps _ _ _ (s₁.setTop (mkF m 1 #[iv q1, .unset, .unset, .unset, .unset] [(.int q1)])) _
    refine XS.ifNo X0.here hx rfl (hb hby d2_1) rfl ((if0 _ _).trans (flt (own_nlt hlo (by decide))).1) ?_
    show Steps _ _ _ (s₁.setTop (mkF m 4 #[iv q1, .unset, .unset, .unset, .unset] [])) _
    refine XS.iloadN X0.here hx rfl (hb hby d2_4) rfl ?_
    show Steps _ _ _ (s₁.setTop (mkF m 5 #[iv q1, .unset, .unset, .unset, .unset] [(.int q1)])) _
    refine X0.ldcInt hx hown (mvT hZ (hw _ (wd 5 rfl))) (g := (mkF m 5 #[iv q1, .unset, .unset, .unset, .unset] [(.int q1)])) rfl (hb hby d2_5) _ ?_
    show Steps _ _ _ (s₁.setTop (mkF m 7 #[iv q1, .unset, .unset, .unset, .unset] [(.int 1114111), (.int q1)])) _
    refine XS.icmpNo X0.here hx rfl (hb hby d2_7) rfl (flt (own_ngt hhi (by decide))).2.2.1 ?_
    show Steps _ _ _ (s₁.setTop (mkF m 10 #[iv q1, .unset, .unset, .unset, .unset] [])) _
    refine XS.iconst X0.here hx rfl (hb hby d2_10) ?_
    show Steps _ _ _ (s₁.setTop (mkF m 11 #[iv q1, .unset, .unset, .unset, .unset] [(.int 1)])) _
    refine XS.goto X0.here hx rfl (pc0 := 11) (pc' := 15) rfl (hb hby d2_11) (by decide) (by decide) ?_
    show Steps _ _ _ (s₁.setTop (mkF m 15 #[iv q1, .unset, .unset, .unset, .unset] [(.int 1)])) _
    refine XS.istoreN X0.here hx rfl (hb hby d2_15) rfl (l' := #[iv q1, iv 1, .unset, .unset, .unset]) rfl ?_
    show Steps _ _ _ (s₁.setTop (mkF m 16 #[iv q1, iv 1, .unset, .unset, .unset] [])) _
    refine XS.iloadN X0.here hx rfl (hb hby d2_16) rfl ?_
    show Steps _ _ _ (s₁.setTop (mkF m 17 #[iv q1, iv 1, .unset, .unset, .unset] [(.int q1)])) _
    refine X0.ldcInt hx hown (mvT hZ (hw _ (wd 6 rfl))) (g := (mkF m 17 #[iv q1, iv 1, .unset, .unset, .unset] [(.int q1)])) rfl (hb hby d2_17) _ ?_
    show Steps _ _ _ (s₁.setTop (mkF m 19 #[iv q1, iv 1, .unset, .unset, .unset] [(.int 55296), (.int q1)])) _
    refine XS.icmpNo X0.here hx rfl (hb hby d2_19) rfl (flt (own_nlt hlo (by decide))).1 ?_
    show Steps _ _ _ (s₁.setTop (mkF m 22 #[iv q1, iv 1, .unset, .unset, .unset] [])) _
    refine XS.iloadN X0.here hx rfl (hb hby d2_22) rfl ?_
    show Steps _ _ _ (s₁.setTop (mkF m 23 #[iv q1, iv 1, .unset, .unset, .unset] [(.int q1)])) _
    refine X0.ldcInt hx hown (mvT hZ (hw _ (wd 7 rfl))) (g := (mkF m 23 #[iv q1, iv 1, .unset, .unset, .unset] [(.int q1)])) rfl (hb hby d2_23) _ ?_
    show Steps _ _ _ (s₁.setTop (mkF m 25 #[iv q1, iv 1, .unset, .unset, .unset] [(.int 57343), (.int q1)])) _
    refine XS.icmpYes X0.here hx rfl (pc0 := 25) (pc' := 32) rfl (hb hby d2_25) rfl (tlt (own_gt hlo (by decide))).2.2.1 (by decide) (by decide) ?_
    show Steps _ _ _ (s₁.setTop (mkF m 32 #[iv q1, iv 1, .unset, .unset, .unset] [])) _
    refine XS.iconst X0.here hx rfl (hb hby d2_32) ?_
    show Steps _ _ _ (s₁.setTop (mkF m 33 #[iv q1, iv 1, .unset, .unset, .unset] [(.int 0)])) _
    refine XS.istoreN X0.here hx rfl (hb hby d2_33) rfl (l' := #[iv q1, iv 1, iv 0, .unset, .unset]) rfl ?_
    show Steps _ _ _ (s₁.setTop (mkF m 34 #[iv q1, iv 1, iv 0, .unset, .unset] [])) _
    refine XS.iloadN X0.here hx rfl (hb hby d2_34) rfl ?_
    show Steps _ _ _ (s₁.setTop (mkF m 35 #[iv q1, iv 1, iv 0, .unset, .unset] [(.int q1)])) _
    refine X0.ldcInt hx hown (mvT hZ (hw _ (wd 8 rfl))) (g := (mkF m 35 #[iv q1, iv 1, iv 0, .unset, .unset] [(.int q1)])) rfl (hb hby d2_35) _ ?_
    show Steps _ _ _ (s₁.setTop (mkF m 37 #[iv q1, iv 1, iv 0, .unset, .unset] [(.int 65534), (.int q1)])) _
    refine XS.icmpYes X0.here hx rfl (pc0 := 37) (pc' := 46) rfl (hb hby d2_37) rfl (teq (own_eq hlo hhi (by decide))).1 (by decide) (by decide) ?_
    show Steps _ _ _ (s₁.setTop (mkF m 46 #[iv q1, iv 1, iv 0, .unset, .unset] [])) _
    refine XS.iconst X0.here hx rfl (hb hby d2_46) ?_
    show Steps _ _ _ (s₁.setTop (mkF m 47 #[iv q1, iv 1, iv 0, .unset, .unset] [(.int 1)])) _
    refine XS.goto X0.here hx rfl (pc0 := 47) (pc' := 51) rfl (hb hby d2_47) (by decide) (by decide) ?_
    show Steps _ _ _ (s₁.setTop (mkF m 51 #[iv q1, iv 1, iv 0, .unset, .unset] [(.int 1)])) _
    refine XS.istoreN X0.here hx rfl (hb hby d2_51) rfl (l' := #[iv q1, iv 1, iv 0, iv 1, .unset]) rfl ?_
    show Steps _ _ _ (s₁.setTop (mkF m 52 #[iv q1, iv 1, iv 0, iv 1, .unset] [])) _
    refine XS.iloadN X0.here hx rfl (hb hby d2_52) rfl ?_
    show Steps _ _ _ (s₁.setTop (mkF m 53 #[iv q1, iv 1, iv 0, iv 1, .unset] [(.int q1)])) _
    refine XS.bipush X0.here hx rfl (hb hby d2_53) ?_
    show Steps _ _ _ (s₁.setTop (mkF m 55 #[iv q1, iv 1, iv 0, iv 1, .unset] [(.int 32), (.int q1)])) _
    refine XS.icmpYes X0.here hx rfl (pc0 := 55) (pc' := 76) rfl (hb hby d2_55) rfl (flt (own_nlt hlo (by decide))).2.1 (by decide) (by decide) ?_
    show Steps _ _ _ (s₁.setTop (mkF m 76 #[iv q1, iv 1, iv 0, iv 1, .unset] [])) _
    refine XS.iconst X0.here hx rfl (hb hby d2_76) ?_
    show Steps _ _ _ (s₁.setTop (mkF m 77 #[iv q1, iv 1, iv 0, iv 1, .unset] [(.int 1)])) _
    refine XS.goto X0.here hx rfl (pc0 := 77) (pc' := 81) rfl (hb hby d2_77) (by decide) (by decide) ?_
    show Steps _ _ _ (s₁.setTop (mkF m 81 #[iv q1, iv 1, iv 0, iv 1, .unset] [(.int 1)])) _
    refine XS.istore X0.here hx rfl (hb hby d2_81) rfl (l' := #[iv q1, iv 1, iv 0, iv 1, iv 1]) rfl ?_
    show Steps _ _ _ (s₁.setTop (mkF m 83 #[iv q1, iv 1, iv 0, iv 1, iv 1] [])) _
    refine XS.iloadN X0.here hx rfl (hb hby d2_83) rfl ?_
    show Steps _ _ _ (s₁.setTop (mkF m 84 #[iv q1, iv 1, iv 0, iv 1, iv 1] [(.int 1)])) _
    refine XS.ifNo X0.here hx rfl (hb hby d2_84) rfl (by decide) ?_
    show Steps _ _ _ (s₁.setTop (mkF m 87 #[iv q1, iv 1, iv 0, iv 1, iv 1] [])) _
    refine XS.iloadN X0.here hx rfl (hb hby d2_87) rfl ?_
    show Steps _ _ _ (s₁.setTop (mkF m 88 #[iv q1, iv 1, iv 0, iv 1, iv 1] [(.int 0)])) _
    refine XS.ifNo X0.here hx rfl (hb hby d2_88) rfl (by decide) ?_
    show Steps _ _ _ (s₁.setTop (mkF m 91 #[iv q1, iv 1, iv 0, iv 1, iv 1] [])) _
    refine XS.iloadN X0.here hx rfl (hb hby d2_91) rfl ?_
    show Steps _ _ _ (s₁.setTop (mkF m 92 #[iv q1, iv 1, iv 0, iv 1, iv 1] [(.int 1)])) _
    refine XS.ifYes X0.here hx rfl (pc0 := 92) (pc' := 104) rfl (hb hby d2_92) rfl (by decide) (by decide) (by decide) ?_
    show Steps _ _ _ (s₁.setTop (mkF m 104 #[iv q1, iv 1, iv 0, iv 1, iv 1] [])) _
    refine XS.iconst X0.here hx rfl (hb hby d2_104) ?_
    show Steps _ _ _ (s₁.setTop (mkF m 105 #[iv q1, iv 1, iv 0, iv 1, iv 1] [(.int 0)])) _
    exact q
  obtain ⟨fs, hr, hrun, hended, hW, hsame⟩ := X0.leave (v := some (.int 0)) (fun h => by rw [Bd.returns] at h; cases h)
  refine ⟨_, _, k_22 _ ?_, hrun, hended, _, _, rfl, ?_, ⟨_, rfl⟩, hW, hsame.mono (by decide) (by decide)⟩
  · exact retN X0 hx (t := .boolean) Bd.returns (by simp) (hb hby d2_105) hr
  · show QV (some (.int 0)) h0 n0 _ s₁.heap _
    rw [e0]
    exact ⟨rfl, N0, rfl⟩
set_option maxRecDepth 65536 in
set_option maxHeartbeats 40000000 in
theorem ic_11 (l : Launch) (Z : State) (a0 : Array Value) (hw : ∀ d ∈ tables_1, d.before a0 Z = true) (ws : List Jvm.Cond) (q1 : Int32) (h0 : Heap) (n0 : Nat) (O0 : Old Z n0 h0) (hlo : (65535 : Int) ≤ q1.toInt) (hhi : q1.toInt ≤ 65535) :
    MetFree l y_0 (head1 (Jvm.Cond.code y_0 prog_154_method_29_code 1 (some .boolean) :: ws) ({ frames := 0, cells := 0, slots := 0, locals := 0 } : Room)) (fun a U => a = #[(.int q1)] ∧ Z.Warmed39 U.vm ∧ U.heap = h0) (fun _ _ _ _ _ => True) (fun _ U o U' => ∃ v L, o = .returned v ∧ QV (some (.int 0)) h0 n0 v U'.heap L ∧ FrameEnd U o U' L ({ frames := 0, cells := 0, slots := 0, locals := 0 } : Room).cells ({ frames := 0, cells := 0, slots := 0, locals := 0 } : Room).slots) := by
  refine MetFree.of_bodySF (plainFor_of_name pn_0) hisR ?_
  intro p e s m args below meth c s₁ Bd hml0 hP hK
  obtain ⟨rfl, hZ, hh⟩ := hP
  have hx := Bd.exec
  have hby := Bd.bytes
  have hml : c.maxLocals = 1 := hml0
  have hown : s.vm.findClass "com/example/befundweg/befundweg/XmlParser" = some m.cls := findClass_of_methodNamed Bd.named
  have hnm := (name_of_methodNamed Bd.named Bd.method).1
  have X0 : Stand p l e ({ frames := 0, cells := 0, slots := 0, locals := 0 } : Room) s m #[(.int q1)] below meth c s₁ [] 0 0 := Stand.of_body Bd
  have e0 : s₁.heap = h0 := by rw [← hh, Bd.state]; rfl
  have N0 := Fr.nil n0
  have K0 := Keep.refl h0 []
  have k0 : Go p.tables e below (s₁.setTop (entryFrame m #[(.int q1)] 1)) (s₁.setTop (mkF m 0 #[iv q1] [])) := fun t k => castTop (by first | rfl | (simp [entryFrame, mkF, argsToLocals, Value.category]; done)) k
  have k_23 : Go p.tables e below (s₁.setTop (entryFrame m #[(.int q1)] 1)) (s₁.setTop (mkF m 64 #[iv q1] [(.int 0)])) := fun t q => by
    refine k0 t ?_
    refine XS.iloadN X0.here hx rfl (hb hby d1_0) rfl ?_
    show Steps _ _ _ (s₁.setTop (mkF m 1 #[iv q1] [(.int q1)])) _
    refine XS.bipush X0.here hx rfl (hb hby d1_1) ?_
    show Steps _ _ _ (s₁.setTop (mkF m 3 #[iv q1] [(.int 9), (.int q1)])) _
    refine XS.icmpNo X0.here hx rfl (hb hby d1_3) rfl (feq (own_neB hlo (by decide))).1 ?_
    show Steps _ _ _ (s₁.setTop (mkF m 6 #[iv q1] [])) _
    refine XS.iloadN X0.here hx rfl (hb hby d1_6) rfl ?_
    show Steps _ _ _ (s₁.setTop (mkF m 7 #[iv q1] [(.int q1)])) _
    refine XS.bipush X0.here hx rfl (hb hby d1_7) ?_
    show Steps _ _ _ (s₁.setTop (mkF m 9 #[iv q1] [(.int 10), (.int q1)])) _
    refine XS.icmpNo X0.here hx rfl (hb hby d1_9) rfl (feq (own_neB hlo (by decide))).1 ?_
    show Steps _ _ _ (s₁.setTop (mkF m 12 #[iv q1] [])) _
    refine XS.iloadN X0.here hx rfl (hb hby d1_12) rfl ?_
    show Steps _ _ _ (s₁.setTop (mkF m 13 #[iv q1] [(.int q1)])) _
    refine XS.bipush X0.here hx rfl (hb hby d1_13) ?_
    show Steps _ _ _ (s₁.setTop (mkF m 15 #[iv q1] [(.int 13), (.int q1)])) _
    refine XS.icmpNo X0.here hx rfl (hb hby d1_15) rfl (feq (own_neB hlo (by decide))).1 ?_
    show Steps _ _ _ (s₁.setTop (mkF m 18 #[iv q1] [])) _
    refine XS.iloadN X0.here hx rfl (hb hby d1_18) rfl ?_
    show Steps _ _ _ (s₁.setTop (mkF m 19 #[iv q1] [(.int q1)])) _
    refine XS.bipush X0.here hx rfl (hb hby d1_19) ?_
    show Steps _ _ _ (s₁.setTop (mkF m 21 #[iv q1] [(.int 32), (.int q1)])) _
    refine XS.icmpNo X0.here hx rfl (hb hby d1_21) rfl (flt (own_nlt hlo (by decide))).1 ?_
    show Steps _ _ _ (s₁.setTop (mkF m 24 #[iv q1] [])) _
    refine XS.iloadN X0.here hx rfl (hb hby d1_24) rfl ?_
    show Steps _ _ _ (s₁.setTop (mkF m 25 #[iv q1] [(.int q1)])) _
    refine X0.ldcwInt hx hown (mvT hZ (hw _ (wd 21 rfl))) (g := (mkF m 25 #[iv q1] [(.int q1)])) rfl (hb hby d1_25) _ ?_
    show Steps _ _ _ (s₁.setTop (mkF m 28 #[iv q1] [(.int 55295), (.int q1)])) _
    refine XS.icmpNo X0.here hx rfl (hb hby d1_28) rfl (tlt (own_gt hlo (by decide))).2.2.2 ?_
    show Steps _ _ _ (s₁.setTop (mkF m 31 #[iv q1] [])) _
    refine XS.iloadN X0.here hx rfl (hb hby d1_31) rfl ?_
    show Steps _ _ _ (s₁.setTop (mkF m 32 #[iv q1] [(.int q1)])) _
    refine X0.ldcwInt hx hown (mvT hZ (hw _ (wd 14 rfl))) (g := (mkF m 32 #[iv q1] [(.int q1)])) rfl (hb hby d1_32) _ ?_
    show Steps _ _ _ (s₁.setTop (mkF m 35 #[iv q1] [(.int 57344), (.int q1)])) _
    refine XS.icmpNo X0.here hx rfl (hb hby d1_35) rfl (flt (own_nlt hlo (by decide))).1 ?_
    show Steps _ _ _ (s₁.setTop (mkF m 38 #[iv q1] [])) _
    refine XS.iloadN X0.here hx rfl (hb hby d1_38) rfl ?_
    show Steps _ _ _ (s₁.setTop (mkF m 39 #[iv q1] [(.int q1)])) _
    refine X0.ldcwInt hx hown (mvT hZ (hw _ (wd 22 rfl))) (g := (mkF m 39 #[iv q1] [(.int q1)])) rfl (hb hby d1_39) _ ?_
    show Steps _ _ _ (s₁.setTop (mkF m 42 #[iv q1] [(.int 65533), (.int q1)])) _
    refine XS.icmpNo X0.here hx rfl (hb hby d1_42) rfl (tlt (own_gt hlo (by decide))).2.2.2 ?_
    show Steps _ _ _ (s₁.setTop (mkF m 45 #[iv q1] [])) _
    refine XS.iloadN X0.here hx rfl (hb hby d1_45) rfl ?_
    show Steps _ _ _ (s₁.setTop (mkF m 46 #[iv q1] [(.int q1)])) _
    refine X0.ldcwInt hx hown (mvT hZ (hw _ (wd 15 rfl))) (g := (mkF m 46 #[iv q1] [(.int q1)])) rfl (hb hby d1_46) _ ?_
    show Steps _ _ _ (s₁.setTop (mkF m 49 #[iv q1] [(.int 65536), (.int q1)])) _
    refine XS.icmpYes X0.here hx rfl (pc0 := 49) (pc' := 63) rfl (hb hby d1_49) rfl (tlt (own_lt hhi (by decide))).1 (by decide) (by decide) ?_
    show Steps _ _ _ (s₁.setTop (mkF m 63 #[iv q1] [])) _
    refine XS.iconst X0.here hx rfl (hb hby d1_63) ?_
    show Steps _ _ _ (s₁.setTop (mkF m 64 #[iv q1] [(.int 0)])) _
    exact q
  obtain ⟨fs, hr, hrun, hended, hW, hsame⟩ := X0.leave (v := some (.int 0)) (fun h => by rw [Bd.returns] at h; cases h)
  refine ⟨_, _, k_23 _ ?_, hrun, hended, _, _, rfl, ?_, ⟨_, rfl⟩, hW, hsame.mono (by decide) (by decide)⟩
  · exact retN X0 hx (t := .boolean) Bd.returns (by simp) (hb hby d1_64) hr
  · show QV (some (.int 0)) h0 n0 _ s₁.heap _
    rw [e0]
    exact ⟨rfl, N0, rfl⟩
set_option maxRecDepth 65536 in
set_option maxHeartbeats 40000000 in
theorem ex_11 (l : Launch) (Z : State) (a0 : Array Value) (hw : ∀ d ∈ tables_1, d.before a0 Z = true) (ws : List Jvm.Cond) (q1 : Int32) (h0 : Heap) (n0 : Nat) (O0 : Old Z n0 h0) (hlo : (65535 : Int) ≤ q1.toInt) (hhi : q1.toInt ≤ 65535) :
    MetFree l y_1 (head1 (Jvm.Cond.code y_1 method_3_code 5 (some .boolean) :: ws) ({ frames := 0, cells := 0, slots := 0, locals := 0 } : Room)) (fun a U => a = #[(.int q1)] ∧ Z.Warmed39 U.vm ∧ U.heap = h0) (fun _ _ _ _ _ => True) (fun _ U o U' => ∃ v L, o = .returned v ∧ QV (some (.int 0)) h0 n0 v U'.heap L ∧ FrameEnd U o U' L ({ frames := 0, cells := 0, slots := 0, locals := 0 } : Room).cells ({ frames := 0, cells := 0, slots := 0, locals := 0 } : Room).slots) := by
  refine MetFree.of_bodySF (plainFor_of_name pn_1) hisR ?_
  intro p e s m args below meth c s₁ Bd hml0 hP hK
  obtain ⟨rfl, hZ, hh⟩ := hP
  have hx := Bd.exec
  have hby := Bd.bytes
  have hml : c.maxLocals = 5 := hml0
  have hown : s.vm.findClass "com/example/befundweg/befundweg/XmlParserIsCharacterPinLaw" = some m.cls := findClass_of_methodNamed Bd.named
  have hnm := (name_of_methodNamed Bd.named Bd.method).1
  have X0 : Stand p l e ({ frames := 0, cells := 0, slots := 0, locals := 0 } : Room) s m #[(.int q1)] below meth c s₁ [] 0 0 := Stand.of_body Bd
  have e0 : s₁.heap = h0 := by rw [← hh, Bd.state]; rfl
  have N0 := Fr.nil n0
  have K0 := Keep.refl h0 []
  have k0 : Go p.tables e below (s₁.setTop (entryFrame m #[(.int q1)] 5)) (s₁.setTop (mkF m 0 #[iv q1, .unset, .unset, .unset, .unset] [])) := fun t k => castTop (by first | rfl | (simp [entryFrame, mkF, argsToLocals, Value.category]; done)) k
  have k_24 : Go p.tables e below (s₁.setTop (entryFrame m #[(.int q1)] 5)) (s₁.setTop (mkF m 105 #[iv q1, iv 1, iv 0, iv 1, iv 1] [(.int 0)])) := fun t q => by
    refine k0 t ?_
    refine XS.iloadN X0.here hx rfl (hb hby d2_0) rfl ?_
    show Steps _ _ _ (s₁.setTop (mkF m 1 #[iv q1, .unset, .unset, .unset, .unset] [(.int q1)])) _
    refine XS.ifNo X0.here hx rfl (hb hby d2_1) rfl ((if0 _ _).trans (flt (own_nlt hlo (by decide))).1) ?_
    show Steps _ _ _ (s₁.setTop (mkF m 4 #[iv q1, .unset, .unset, .unset, .unset] [])) _
    refine XS.iloadN X0.here hx rfl (hb hby d2_4) rfl ?_
    show Steps _ _ _ (s₁.setTop (mkF m 5 #[iv q1, .unset, .unset, .unset, .unset] [(.int q1)])) _
    refine X0.ldcInt hx hown (mvT hZ (hw _ (wd 5 rfl))) (g := (mkF m 5 #[iv q1, .unset, .unset, .unset, .unset] [(.int q1)])) rfl (hb hby d2_5) _ ?_
    show Steps _ _ _ (s₁.setTop (mkF m 7 #[iv q1, .unset, .unset, .unset, .unset] [(.int 1114111), (.int q1)])) _
    refine XS.icmpNo X0.here hx rfl (hb hby d2_7) rfl (flt (own_ngt hhi (by decide))).2.2.1 ?_
    show Steps _ _ _ (s₁.setTop (mkF m 10 #[iv q1, .unset, .unset, .unset, .unset] [])) _
    refine XS.iconst X0.here hx rfl (hb hby d2_10) ?_
    show Steps _ _ _ (s₁.setTop (mkF m 11 #[iv q1, .unset, .unset, .unset, .unset] [(.int 1)])) _
    refine XS.goto X0.here hx rfl (pc0 := 11) (pc' := 15) rfl (hb hby d2_11) (by decide) (by decide) ?_
    show Steps _ _ _ (s₁.setTop (mkF m 15 #[iv q1, .unset, .unset, .unset, .unset] [(.int 1)])) _
    refine XS.istoreN X0.here hx rfl (hb hby d2_15) rfl (l' := #[iv q1, iv 1, .unset, .unset, .unset]) rfl ?_
    show Steps _ _ _ (s₁.setTop (mkF m 16 #[iv q1, iv 1, .unset, .unset, .unset] [])) _
    refine XS.iloadN X0.here hx rfl (hb hby d2_16) rfl ?_
    show Steps _ _ _ (s₁.setTop (mkF m 17 #[iv q1, iv 1, .unset, .unset, .unset] [(.int q1)])) _
    refine X0.ldcInt hx hown (mvT hZ (hw _ (wd 6 rfl))) (g := (mkF m 17 #[iv q1, iv 1, .unset, .unset, .unset] [(.int q1)])) rfl (hb hby d2_17) _ ?_
    show Steps _ _ _ (s₁.setTop (mkF m 19 #[iv q1, iv 1, .unset, .unset, .unset] [(.int 55296), (.int q1)])) _
    refine XS.icmpNo X0.here hx rfl (hb hby d2_19) rfl (flt (own_nlt hlo (by decide))).1 ?_
    show Steps _ _ _ (s₁.setTop (mkF m 22 #[iv q1, iv 1, .unset, .unset, .unset] [])) _
    refine XS.iloadN X0.here hx rfl (hb hby d2_22) rfl ?_
    show Steps _ _ _ (s₁.setTop (mkF m 23 #[iv q1, iv 1, .unset, .unset, .unset] [(.int q1)])) _
    refine X0.ldcInt hx hown (mvT hZ (hw _ (wd 7 rfl))) (g := (mkF m 23 #[iv q1, iv 1, .unset, .unset, .unset] [(.int q1)])) rfl (hb hby d2_23) _ ?_
    show Steps _ _ _ (s₁.setTop (mkF m 25 #[iv q1, iv 1, .unset, .unset, .unset] [(.int 57343), (.int q1)])) _
    refine XS.icmpYes X0.here hx rfl (pc0 := 25) (pc' := 32) rfl (hb hby d2_25) rfl (tlt (own_gt hlo (by decide))).2.2.1 (by decide) (by decide) ?_
    show Steps _ _ _ (s₁.setTop (mkF m 32 #[iv q1, iv 1, .unset, .unset, .unset] [])) _
    refine XS.iconst X0.here hx rfl (hb hby d2_32) ?_
    show Steps _ _ _ (s₁.setTop (mkF m 33 #[iv q1, iv 1, .unset, .unset, .unset] [(.int 0)])) _
    refine XS.istoreN X0.here hx rfl (hb hby d2_33) rfl (l' := #[iv q1, iv 1, iv 0, .unset, .unset]) rfl ?_
    show Steps _ _ _ (s₁.setTop (mkF m 34 #[iv q1, iv 1, iv 0, .unset, .unset] [])) _
    refine XS.iloadN X0.here hx rfl (hb hby d2_34) rfl ?_
    show Steps _ _ _ (s₁.setTop (mkF m 35 #[iv q1, iv 1, iv 0, .unset, .unset] [(.int q1)])) _
    refine X0.ldcInt hx hown (mvT hZ (hw _ (wd 8 rfl))) (g := (mkF m 35 #[iv q1, iv 1, iv 0, .unset, .unset] [(.int q1)])) rfl (hb hby d2_35) _ ?_
    show Steps _ _ _ (s₁.setTop (mkF m 37 #[iv q1, iv 1, iv 0, .unset, .unset] [(.int 65534), (.int q1)])) _
    refine XS.icmpNo X0.here hx rfl (hb hby d2_37) rfl (feq (own_neB hlo (by decide))).1 ?_
    show Steps _ _ _ (s₁.setTop (mkF m 40 #[iv q1, iv 1, iv 0, .unset, .unset] [])) _
    refine XS.iloadN X0.here hx rfl (hb hby d2_40) rfl ?_
    show Steps _ _ _ (s₁.setTop (mkF m 41 #[iv q1, iv 1, iv 0, .unset, .unset] [(.int q1)])) _
    refine X0.ldcInt hx hown (mvT hZ (hw _ (wd 20 rfl))) (g := (mkF m 41 #[iv q1, iv 1, iv 0, .unset, .unset] [(.int q1)])) rfl (hb hby d2_41) _ ?_
    show Steps _ _ _ (s₁.setTop (mkF m 43 #[iv q1, iv 1, iv 0, .unset, .unset] [(.int 65535), (.int q1)])) _
    refine XS.icmpNo X0.here hx rfl (hb hby d2_43) rfl (teq (own_eq hlo hhi (by decide))).2 ?_
    show Steps _ _ _ (s₁.setTop (mkF m 46 #[iv q1, iv 1, iv 0, .unset, .unset] [])) _
    refine XS.iconst X0.here hx rfl (hb hby d2_46) ?_
    show Steps _ _ _ (s₁.setTop (mkF m 47 #[iv q1, iv 1, iv 0, .unset, .unset] [(.int 1)])) _
    refine XS.goto X0.here hx rfl (pc0 := 47) (pc' := 51) rfl (hb hby d2_47) (by decide) (by decide) ?_
    show Steps _ _ _ (s₁.setTop (mkF m 51 #[iv q1, iv 1, iv 0, .unset, .unset] [(.int 1)])) _
    refine XS.istoreN X0.here hx rfl (hb hby d2_51) rfl (l' := #[iv q1, iv 1, iv 0, iv 1, .unset]) rfl ?_
    show Steps _ _ _ (s₁.setTop (mkF m 52 #[iv q1, iv 1, iv 0, iv 1, .unset] [])) _
    refine XS.iloadN X0.here hx rfl (hb hby d2_52) rfl ?_
    show Steps _ _ _ (s₁.setTop (mkF m 53 #[iv q1, iv 1, iv 0, iv 1, .unset] [(.int q1)])) _
    refine XS.bipush X0.here hx rfl (hb hby d2_53) ?_
    show Steps _ _ _ (s₁.setTop (mkF m 55 #[iv q1, iv 1, iv 0, iv 1, .unset] [(.int 32), (.int q1)])) _
    refine XS.icmpYes X0.here hx rfl (pc0 := 55) (pc' := 76) rfl (hb hby d2_55) rfl (flt (own_nlt hlo (by decide))).2.1 (by decide) (by decide) ?_
    show Steps _ _ _ (s₁.setTop (mkF m 76 #[iv q1, iv 1, iv 0, iv 1, .unset] [])) _
    refine XS.iconst X0.here hx rfl (hb hby d2_76) ?_
    show Steps _ _ _ (s₁.setTop (mkF m 77 #[iv q1, iv 1, iv 0, iv 1, .unset] [(.int 1)])) _
    refine XS.goto X0.here hx rfl (pc0 := 77) (pc' := 81) rfl (hb hby d2_77) (by decide) (by decide) ?_
    show Steps _ _ _ (s₁.setTop (mkF m 81 #[iv q1, iv 1, iv 0, iv 1, .unset] [(.int 1)])) _
    refine XS.istore X0.here hx rfl (hb hby d2_81) rfl (l' := #[iv q1, iv 1, iv 0, iv 1, iv 1]) rfl ?_
    show Steps _ _ _ (s₁.setTop (mkF m 83 #[iv q1, iv 1, iv 0, iv 1, iv 1] [])) _
    refine XS.iloadN X0.here hx rfl (hb hby d2_83) rfl ?_
    show Steps _ _ _ (s₁.setTop (mkF m 84 #[iv q1, iv 1, iv 0, iv 1, iv 1] [(.int 1)])) _
    refine XS.ifNo X0.here hx rfl (hb hby d2_84) rfl (by decide) ?_
    show Steps _ _ _ (s₁.setTop (mkF m 87 #[iv q1, iv 1, iv 0, iv 1, iv 1] [])) _
    refine XS.iloadN X0.here hx rfl (hb hby d2_87) rfl ?_
    show Steps _ _ _ (s₁.setTop (mkF m 88 #[iv q1, iv 1, iv 0, iv 1, iv 1] [(.int 0)])) _
    refine XS.ifNo X0.here hx rfl (hb hby d2_88) rfl (by decide) ?_
    show Steps _ _ _ (s₁.setTop (mkF m 91 #[iv q1, iv 1, iv 0, iv 1, iv 1] [])) _
    refine XS.iloadN X0.here hx rfl (hb hby d2_91) rfl ?_
    show Steps _ _ _ (s₁.setTop (mkF m 92 #[iv q1, iv 1, iv 0, iv 1, iv 1] [(.int 1)])) _
    refine XS.ifYes X0.here hx rfl (pc0 := 92) (pc' := 104) rfl (hb hby d2_92) rfl (by decide) (by decide) (by decide) ?_
    show Steps _ _ _ (s₁.setTop (mkF m 104 #[iv q1, iv 1, iv 0, iv 1, iv 1] [])) _
    refine XS.iconst X0.here hx rfl (hb hby d2_104) ?_
    show Steps _ _ _ (s₁.setTop (mkF m 105 #[iv q1, iv 1, iv 0, iv 1, iv 1] [(.int 0)])) _
    exact q
  obtain ⟨fs, hr, hrun, hended, hW, hsame⟩ := X0.leave (v := some (.int 0)) (fun h => by rw [Bd.returns] at h; cases h)
  refine ⟨_, _, k_24 _ ?_, hrun, hended, _, _, rfl, ?_, ⟨_, rfl⟩, hW, hsame.mono (by decide) (by decide)⟩
  · exact retN X0 hx (t := .boolean) Bd.returns (by simp) (hb hby d2_105) hr
  · show QV (some (.int 0)) h0 n0 _ s₁.heap _
    rw [e0]
    exact ⟨rfl, N0, rfl⟩
set_option maxRecDepth 65536 in
set_option maxHeartbeats 40000000 in
theorem ic_12 (l : Launch) (Z : State) (a0 : Array Value) (hw : ∀ d ∈ tables_1, d.before a0 Z = true) (ws : List Jvm.Cond) (q1 : Int32) (h0 : Heap) (n0 : Nat) (O0 : Old Z n0 h0) (hlo : (65536 : Int) ≤ q1.toInt) (hhi : q1.toInt ≤ 1114111) :
    MetFree l y_0 (head1 (Jvm.Cond.code y_0 prog_154_method_29_code 1 (some .boolean) :: ws) ({ frames := 0, cells := 0, slots := 0, locals := 0 } : Room)) (fun a U => a = #[(.int q1)] ∧ Z.Warmed39 U.vm ∧ U.heap = h0) (fun _ _ _ _ _ => True) (fun _ U o U' => ∃ v L, o = .returned v ∧ QV (some (.int 1)) h0 n0 v U'.heap L ∧ FrameEnd U o U' L ({ frames := 0, cells := 0, slots := 0, locals := 0 } : Room).cells ({ frames := 0, cells := 0, slots := 0, locals := 0 } : Room).slots) := by
  refine MetFree.of_bodySF (plainFor_of_name pn_0) hisR ?_
  intro p e s m args below meth c s₁ Bd hml0 hP hK
  obtain ⟨rfl, hZ, hh⟩ := hP
  have hx := Bd.exec
  have hby := Bd.bytes
  have hml : c.maxLocals = 1 := hml0
  have hown : s.vm.findClass "com/example/befundweg/befundweg/XmlParser" = some m.cls := findClass_of_methodNamed Bd.named
  have hnm := (name_of_methodNamed Bd.named Bd.method).1
  have X0 : Stand p l e ({ frames := 0, cells := 0, slots := 0, locals := 0 } : Room) s m #[(.int q1)] below meth c s₁ [] 0 0 := Stand.of_body Bd
  have e0 : s₁.heap = h0 := by rw [← hh, Bd.state]; rfl
  have N0 := Fr.nil n0
  have K0 := Keep.refl h0 []
  have k0 : Go p.tables e below (s₁.setTop (entryFrame m #[(.int q1)] 1)) (s₁.setTop (mkF m 0 #[iv q1] [])) := fun t k => castTop (by first | rfl | (simp [entryFrame, mkF, argsToLocals, Value.category]; done)) k
  have k_25 : Go p.tables e below (s₁.setTop (entryFrame m #[(.int q1)] 1)) (s₁.setTop (mkF m 64 #[iv q1] [(.int 1)])) := fun t q => by
    refine k0 t ?_
    refine XS.iloadN X0.here hx rfl (hb hby d1_0) rfl ?_
    show Steps _ _ _ (s₁.setTop (mkF m 1 #[iv q1] [(.int q1)])) _
    refine XS.bipush X0.here hx rfl (hb hby d1_1) ?_
    show Steps _ _ _ (s₁.setTop (mkF m 3 #[iv q1] [(.int 9), (.int q1)])) _
    refine XS.icmpNo X0.here hx rfl (hb hby d1_3) rfl (feq (own_neB hlo (by decide))).1 ?_
    show Steps _ _ _ (s₁.setTop (mkF m 6 #[iv q1] [])) _
    refine XS.iloadN X0.here hx rfl (hb hby d1_6) rfl ?_
    show Steps _ _ _ (s₁.setTop (mkF m 7 #[iv q1] [(.int q1)])) _
    refine XS.bipush X0.here hx rfl (hb hby d1_7) ?_
    show Steps _ _ _ (s₁.setTop (mkF m 9 #[iv q1] [(.int 10), (.int q1)])) _
    refine XS.icmpNo X0.here hx rfl (hb hby d1_9) rfl (feq (own_neB hlo (by decide))).1 ?_
    show Steps _ _ _ (s₁.setTop (mkF m 12 #[iv q1] [])) _
    refine XS.iloadN X0.here hx rfl (hb hby d1_12) rfl ?_
    show Steps _ _ _ (s₁.setTop (mkF m 13 #[iv q1] [(.int q1)])) _
    refine XS.bipush X0.here hx rfl (hb hby d1_13) ?_
    show Steps _ _ _ (s₁.setTop (mkF m 15 #[iv q1] [(.int 13), (.int q1)])) _
    refine XS.icmpNo X0.here hx rfl (hb hby d1_15) rfl (feq (own_neB hlo (by decide))).1 ?_
    show Steps _ _ _ (s₁.setTop (mkF m 18 #[iv q1] [])) _
    refine XS.iloadN X0.here hx rfl (hb hby d1_18) rfl ?_
    show Steps _ _ _ (s₁.setTop (mkF m 19 #[iv q1] [(.int q1)])) _
    refine XS.bipush X0.here hx rfl (hb hby d1_19) ?_
    show Steps _ _ _ (s₁.setTop (mkF m 21 #[iv q1] [(.int 32), (.int q1)])) _
    refine XS.icmpNo X0.here hx rfl (hb hby d1_21) rfl (flt (own_nlt hlo (by decide))).1 ?_
    show Steps _ _ _ (s₁.setTop (mkF m 24 #[iv q1] [])) _
    refine XS.iloadN X0.here hx rfl (hb hby d1_24) rfl ?_
    show Steps _ _ _ (s₁.setTop (mkF m 25 #[iv q1] [(.int q1)])) _
    refine X0.ldcwInt hx hown (mvT hZ (hw _ (wd 21 rfl))) (g := (mkF m 25 #[iv q1] [(.int q1)])) rfl (hb hby d1_25) _ ?_
    show Steps _ _ _ (s₁.setTop (mkF m 28 #[iv q1] [(.int 55295), (.int q1)])) _
    refine XS.icmpNo X0.here hx rfl (hb hby d1_28) rfl (tlt (own_gt hlo (by decide))).2.2.2 ?_
    show Steps _ _ _ (s₁.setTop (mkF m 31 #[iv q1] [])) _
    refine XS.iloadN X0.here hx rfl (hb hby d1_31) rfl ?_
    show Steps _ _ _ (s₁.setTop (mkF m 32 #[iv q1] [(.int q1)])) _
    refine X0.ldcwInt hx hown (mvT hZ (hw _ (wd 14 rfl))) (g := (mkF m 32 #[iv q1] [(.int q1)])) rfl (hb hby d1_32) _ ?_
    show Steps _ _ _ (s₁.setTop (mkF m 35 #[iv q1] [(.int 57344), (.int q1)])) _
    refine XS.icmpNo X0.here hx rfl (hb hby d1_35) rfl (flt (own_nlt hlo (by decide))).1 ?_
    show Steps _ _ _ (s₁.setTop (mkF m 38 #[iv q1] [])) _
    refine XS.iloadN X0.here hx rfl (hb hby d1_38) rfl ?_
    show Steps _ _ _ (s₁.setTop (mkF m 39 #[iv q1] [(.int q1)])) _
    refine X0.ldcwInt hx hown (mvT hZ (hw _ (wd 22 rfl))) (g := (mkF m 39 #[iv q1] [(.int q1)])) rfl (hb hby d1_39) _ ?_
    show Steps _ _ _ (s₁.setTop (mkF m 42 #[iv q1] [(.int 65533), (.int q1)])) _
    refine XS.icmpNo X0.here hx rfl (hb hby d1_42) rfl (tlt (own_gt hlo (by decide))).2.2.2 ?_
    show Steps _ _ _ (s₁.setTop (mkF m 45 #[iv q1] [])) _
    refine XS.iloadN X0.here hx rfl (hb hby d1_45) rfl ?_
    show Steps _ _ _ (s₁.setTop (mkF m 46 #[iv q1] [(.int q1)])) _
    refine X0.ldcwInt hx hown (mvT hZ (hw _ (wd 15 rfl))) (g := (mkF m 46 #[iv q1] [(.int q1)])) rfl (hb hby d1_46) _ ?_
    show Steps _ _ _ (s₁.setTop (mkF m 49 #[iv q1] [(.int 65536), (.int q1)])) _
    refine XS.icmpNo X0.here hx rfl (hb hby d1_49) rfl (flt (own_nlt hlo (by decide))).1 ?_
    show Steps _ _ _ (s₁.setTop (mkF m 52 #[iv q1] [])) _
    refine XS.iloadN X0.here hx rfl (hb hby d1_52) rfl ?_
    show Steps _ _ _ (s₁.setTop (mkF m 53 #[iv q1] [(.int q1)])) _
    refine X0.ldcwInt hx hown (mvT hZ (hw _ (wd 23 rfl))) (g := (mkF m 53 #[iv q1] [(.int q1)])) rfl (hb hby d1_53) _ ?_
    show Steps _ _ _ (s₁.setTop (mkF m 56 #[iv q1] [(.int 1114111), (.int q1)])) _
    refine XS.icmpNo X0.here hx rfl (hb hby d1_56) rfl (flt (own_ngt hhi (by decide))).2.2.1 ?_
    show Steps _ _ _ (s₁.setTop (mkF m 59 #[iv q1] [])) _
    refine XS.iconst X0.here hx rfl (hb hby d1_59) ?_
    show Steps _ _ _ (s₁.setTop (mkF m 60 #[iv q1] [(.int 1)])) _
    refine XS.goto X0.here hx rfl (pc0 := 60) (pc' := 64) rfl (hb hby d1_60) (by decide) (by decide) ?_
    show Steps _ _ _ (s₁.setTop (mkF m 64 #[iv q1] [(.int 1)])) _
    exact q
  obtain ⟨fs, hr, hrun, hended, hW, hsame⟩ := X0.leave (v := some (.int 1)) (fun h => by rw [Bd.returns] at h; cases h)
  refine ⟨_, _, k_25 _ ?_, hrun, hended, _, _, rfl, ?_, ⟨_, rfl⟩, hW, hsame.mono (by decide) (by decide)⟩
  · exact retN X0 hx (t := .boolean) Bd.returns (by simp) (hb hby d1_64) hr
  · show QV (some (.int 1)) h0 n0 _ s₁.heap _
    rw [e0]
    exact ⟨rfl, N0, rfl⟩
set_option maxRecDepth 65536 in
set_option maxHeartbeats 40000000 in
theorem ex_12 (l : Launch) (Z : State) (a0 : Array Value) (hw : ∀ d ∈ tables_1, d.before a0 Z = true) (ws : List Jvm.Cond) (q1 : Int32) (h0 : Heap) (n0 : Nat) (O0 : Old Z n0 h0) (hlo : (65536 : Int) ≤ q1.toInt) (hhi : q1.toInt ≤ 1114111) :
    MetFree l y_1 (head1 (Jvm.Cond.code y_1 method_3_code 5 (some .boolean) :: ws) ({ frames := 0, cells := 0, slots := 0, locals := 0 } : Room)) (fun a U => a = #[(.int q1)] ∧ Z.Warmed39 U.vm ∧ U.heap = h0) (fun _ _ _ _ _ => True) (fun _ U o U' => ∃ v L, o = .returned v ∧ QV (some (.int 1)) h0 n0 v U'.heap L ∧ FrameEnd U o U' L ({ frames := 0, cells := 0, slots := 0, locals := 0 } : Room).cells ({ frames := 0, cells := 0, slots := 0, locals := 0 } : Room).slots) := by
  refine MetFree.of_bodySF (plainFor_of_name pn_1) hisR ?_
  intro p e s m args below meth c s₁ Bd hml0 hP hK
  obtain ⟨rfl, hZ, hh⟩ := hP
  have hx := Bd.exec
  have hby := Bd.bytes
  have hml : c.maxLocals = 5 := hml0
  have hown : s.vm.findClass "com/example/befundweg/befundweg/XmlParserIsCharacterPinLaw" = some m.cls := findClass_of_methodNamed Bd.named
  have hnm := (name_of_methodNamed Bd.named Bd.method).1
  have X0 : Stand p l e ({ frames := 0, cells := 0, slots := 0, locals := 0 } : Room) s m #[(.int q1)] below meth c s₁ [] 0 0 := Stand.of_body Bd
  have e0 : s₁.heap = h0 := by rw [← hh, Bd.state]; rfl
  have N0 := Fr.nil n0
  have K0 := Keep.refl h0 []
  have k0 : Go p.tables e below (s₁.setTop (entryFrame m #[(.int q1)] 5)) (s₁.setTop (mkF m 0 #[iv q1, .unset, .unset, .unset, .unset] [])) := fun t k => castTop (by first | rfl | (simp [entryFrame, mkF, argsToLocals, Value.category]; done)) k
  have k_26 : Go p.tables e below (s₁.setTop (entryFrame m #[(.int q1)] 5)) (s₁.setTop (mkF m 105 #[iv q1, iv 1, iv 0, iv 0, iv 1] [(.int 1)])) := fun t q => by
    refine k0 t ?_
    refine XS.iloadN X0.here hx rfl (hb hby d2_0) rfl ?_
    show Steps _ _ _ (s₁.setTop (mkF m 1 #[iv q1, .unset, .unset, .unset, .unset] [(.int q1)])) _
    refine XS.ifNo X0.here hx rfl (hb hby d2_1) rfl ((if0 _ _).trans (flt (own_nlt hlo (by decide))).1) ?_
    show Steps _ _ _ (s₁.setTop (mkF m 4 #[iv q1, .unset, .unset, .unset, .unset] [])) _
    refine XS.iloadN X0.here hx rfl (hb hby d2_4) rfl ?_
    show Steps _ _ _ (s₁.setTop (mkF m 5 #[iv q1, .unset, .unset, .unset, .unset] [(.int q1)])) _
    refine X0.ldcInt hx hown (mvT hZ (hw _ (wd 5 rfl))) (g := (mkF m 5 #[iv q1, .unset, .unset, .unset, .unset] [(.int q1)])) rfl (hb hby d2_5) _ ?_
    show Steps _ _ _ (s₁.setTop (mkF m 7 #[iv q1, .unset, .unset, .unset, .unset] [(.int 1114111), (.int q1)])) _
    refine XS.icmpNo X0.here hx rfl (hb hby d2_7) rfl (flt (own_ngt hhi (by decide))).2.2.1 ?_
    show Steps _ _ _ (s₁.setTop (mkF m 10 #[iv q1, .unset, .unset, .unset, .unset] [])) _
    refine XS.iconst X0.here hx rfl (hb hby d2_10) ?_
    show Steps _ _ _ (s₁.setTop (mkF m 11 #[iv q1, .unset, .unset, .unset, .unset] [(.int 1)])) _
    refine XS.goto X0.here hx rfl (pc0 := 11) (pc' := 15) rfl (hb hby d2_11) (by decide) (by decide) ?_
    show Steps _ _ _ (s₁.setTop (mkF m 15 #[iv q1, .unset, .unset, .unset, .unset] [(.int 1)])) _
    refine XS.istoreN X0.here hx rfl (hb hby d2_15) rfl (l' := #[iv q1, iv 1, .unset, .unset, .unset]) rfl ?_
    show Steps _ _ _ (s₁.setTop (mkF m 16 #[iv q1, iv 1, .unset, .unset, .unset] [])) _
    refine XS.iloadN X0.here hx rfl (hb hby d2_16) rfl ?_
    show Steps _ _ _ (s₁.setTop (mkF m 17 #[iv q1, iv 1, .unset, .unset, .unset] [(.int q1)])) _
    refine X0.ldcInt hx hown (mvT hZ (hw _ (wd 6 rfl))) (g := (mkF m 17 #[iv q1, iv 1, .unset, .unset, .unset] [(.int q1)])) rfl (hb hby d2_17) _ ?_
    show Steps _ _ _ (s₁.setTop (mkF m 19 #[iv q1, iv 1, .unset, .unset, .unset] [(.int 55296), (.int q1)])) _
    refine XS.icmpNo X0.here hx rfl (hb hby d2_19) rfl (flt (own_nlt hlo (by decide))).1 ?_
    show Steps _ _ _ (s₁.setTop (mkF m 22 #[iv q1, iv 1, .unset, .unset, .unset] [])) _
    refine XS.iloadN X0.here hx rfl (hb hby d2_22) rfl ?_
    show Steps _ _ _ (s₁.setTop (mkF m 23 #[iv q1, iv 1, .unset, .unset, .unset] [(.int q1)])) _
    refine X0.ldcInt hx hown (mvT hZ (hw _ (wd 7 rfl))) (g := (mkF m 23 #[iv q1, iv 1, .unset, .unset, .unset] [(.int q1)])) rfl (hb hby d2_23) _ ?_
    show Steps _ _ _ (s₁.setTop (mkF m 25 #[iv q1, iv 1, .unset, .unset, .unset] [(.int 57343), (.int q1)])) _
    refine XS.icmpYes X0.here hx rfl (pc0 := 25) (pc' := 32) rfl (hb hby d2_25) rfl (tlt (own_gt hlo (by decide))).2.2.1 (by decide) (by decide) ?_
    show Steps _ _ _ (s₁.setTop (mkF m 32 #[iv q1, iv 1, .unset, .unset, .unset] [])) _
    refine XS.iconst X0.here hx rfl (hb hby d2_32) ?_
    show Steps _ _ _ (s₁.setTop (mkF m 33 #[iv q1, iv 1, .unset, .unset, .unset] [(.int 0)])) _
    refine XS.istoreN X0.here hx rfl (hb hby d2_33) rfl (l' := #[iv q1, iv 1, iv 0, .unset, .unset]) rfl ?_
    show Steps _ _ _ (s₁.setTop (mkF m 34 #[iv q1, iv 1, iv 0, .unset, .unset] [])) _
    refine XS.iloadN X0.here hx rfl (hb hby d2_34) rfl ?_
    show Steps _ _ _ (s₁.setTop (mkF m 35 #[iv q1, iv 1, iv 0, .unset, .unset] [(.int q1)])) _
    refine X0.ldcInt hx hown (mvT hZ (hw _ (wd 8 rfl))) (g := (mkF m 35 #[iv q1, iv 1, iv 0, .unset, .unset] [(.int q1)])) rfl (hb hby d2_35) _ ?_
    show Steps _ _ _ (s₁.setTop (mkF m 37 #[iv q1, iv 1, iv 0, .unset, .unset] [(.int 65534), (.int q1)])) _
    refine XS.icmpNo X0.here hx rfl (hb hby d2_37) rfl (feq (own_neB hlo (by decide))).1 ?_
    show Steps _ _ _ (s₁.setTop (mkF m 40 #[iv q1, iv 1, iv 0, .unset, .unset] [])) _
    refine XS.iloadN X0.here hx rfl (hb hby d2_40) rfl ?_
    show Steps _ _ _ (s₁.setTop (mkF m 41 #[iv q1, iv 1, iv 0, .unset, .unset] [(.int q1)])) _
    refine X0.ldcInt hx hown (mvT hZ (hw _ (wd 20 rfl))) (g := (mkF m 41 #[iv q1, iv 1, iv 0, .unset, .unset] [(.int q1)])) rfl (hb hby d2_41) _ ?_
    show Steps _ _ _ (s₁.setTop (mkF m 43 #[iv q1, iv 1, iv 0, .unset, .unset] [(.int 65535), (.int q1)])) _
    refine XS.icmpYes X0.here hx rfl (pc0 := 43) (pc' := 50) rfl (hb hby d2_43) rfl (feq (own_neB hlo (by decide))).2 (by decide) (by decide) ?_
    show Steps _ _ _ (s₁.setTop (mkF m 50 #[iv q1, iv 1, iv 0, .unset, .unset] [])) _
    refine XS.iconst X0.here hx rfl (hb hby d2_50) ?_
    show Steps _ _ _ (s₁.setTop (mkF m 51 #[iv q1, iv 1, iv 0, .unset, .unset] [(.int 0)])) _
    refine XS.istoreN X0.here hx rfl (hb hby d2_51) rfl (l' := #[iv q1, iv 1, iv 0, iv 0, .unset]) rfl ?_
    show Steps _ _ _ (s₁.setTop (mkF m 52 #[iv q1, iv 1, iv 0, iv 0, .unset] [])) _
    refine XS.iloadN X0.here hx rfl (hb hby d2_52) rfl ?_
    show Steps _ _ _ (s₁.setTop (mkF m 53 #[iv q1, iv 1, iv 0, iv 0, .unset] [(.int q1)])) _
    refine XS.bipush X0.here hx rfl (hb hby d2_53) ?_
    show Steps _ _ _ (s₁.setTop (mkF m 55 #[iv q1, iv 1, iv 0, iv 0, .unset] [(.int 32), (.int q1)])) _
    refine XS.icmpYes X0.here hx rfl (pc0 := 55) (pc' := 76) rfl (hb hby d2_55) rfl (flt (own_nlt hlo (by decide))).2.1 (by decide) (by decide) ?_
    show Steps _ _ _ (s₁.setTop (mkF m 76 #[iv q1, iv 1, iv 0, iv 0, .unset] [])) _
    refine XS.iconst X0.here hx rfl (hb hby d2_76) ?_
    show Steps _ _ _ (s₁.setTop (mkF m 77 #[iv q1, iv 1, iv 0, iv 0, .unset] [(.int 1)])) _
    refine XS.goto X0.here hx rfl (pc0 := 77) (pc' := 81) rfl (hb hby d2_77) (by decide) (by decide) ?_
    show Steps _ _ _ (s₁.setTop (mkF m 81 #[iv q1, iv 1, iv 0, iv 0, .unset] [(.int 1)])) _
    refine XS.istore X0.here hx rfl (hb hby d2_81) rfl (l' := #[iv q1, iv 1, iv 0, iv 0, iv 1]) rfl ?_
    show Steps _ _ _ (s₁.setTop (mkF m 83 #[iv q1, iv 1, iv 0, iv 0, iv 1] [])) _
    refine XS.iloadN X0.here hx rfl (hb hby d2_83) rfl ?_
    show Steps _ _ _ (s₁.setTop (mkF m 84 #[iv q1, iv 1, iv 0, iv 0, iv 1] [(.int 1)])) _
    refine XS.ifNo X0.here hx rfl (hb hby d2_84) rfl (by decide) ?_
    show Steps _ _ _ (s₁.setTop (mkF m 87 #[iv q1, iv 1, iv 0, iv 0, iv 1] [])) _
    refine XS.iloadN X0.here hx rfl (hb hby d2_87) rfl ?_
    show Steps _ _ _ (s₁.setTop (mkF m 88 #[iv q1, iv 1, iv 0, iv 0, iv 1] [(.int 0)])) _
    refine XS.ifNo X0.here hx rfl (hb hby d2_88) rfl (by decide) ?_
    show Steps _ _ _ (s₁.setTop (mkF m 91 #[iv q1, iv 1, iv 0, iv 0, iv 1] [])) _
    refine XS.iloadN X0.here hx rfl (hb hby d2_91) rfl ?_
    show Steps _ _ _ (s₁.setTop (mkF m 92 #[iv q1, iv 1, iv 0, iv 0, iv 1] [(.int 0)])) _
    refine XS.ifNo X0.here hx rfl (hb hby d2_92) rfl (by decide) ?_
    show Steps _ _ _ (s₁.setTop (mkF m 95 #[iv q1, iv 1, iv 0, iv 0, iv 1] [])) _
    refine XS.iload X0.here hx rfl (hb hby d2_95) rfl ?_
    show Steps _ _ _ (s₁.setTop (mkF m 97 #[iv q1, iv 1, iv 0, iv 0, iv 1] [(.int 1)])) _
    refine XS.ifNo X0.here hx rfl (hb hby d2_97) rfl (by decide) ?_
    show Steps _ _ _ (s₁.setTop (mkF m 100 #[iv q1, iv 1, iv 0, iv 0, iv 1] [])) _
    refine XS.iconst X0.here hx rfl (hb hby d2_100) ?_
    show Steps _ _ _ (s₁.setTop (mkF m 101 #[iv q1, iv 1, iv 0, iv 0, iv 1] [(.int 1)])) _
    refine XS.goto X0.here hx rfl (pc0 := 101) (pc' := 105) rfl (hb hby d2_101) (by decide) (by decide) ?_
    show Steps _ _ _ (s₁.setTop (mkF m 105 #[iv q1, iv 1, iv 0, iv 0, iv 1] [(.int 1)])) _
    exact q
  obtain ⟨fs, hr, hrun, hended, hW, hsame⟩ := X0.leave (v := some (.int 1)) (fun h => by rw [Bd.returns] at h; cases h)
  refine ⟨_, _, k_26 _ ?_, hrun, hended, _, _, rfl, ?_, ⟨_, rfl⟩, hW, hsame.mono (by decide) (by decide)⟩
  · exact retN X0 hx (t := .boolean) Bd.returns (by simp) (hb hby d2_105) hr
  · show QV (some (.int 1)) h0 n0 _ s₁.heap _
    rw [e0]
    exact ⟨rfl, N0, rfl⟩
set_option maxRecDepth 65536 in
set_option maxHeartbeats 40000000 in
theorem ic_13 (l : Launch) (Z : State) (a0 : Array Value) (hw : ∀ d ∈ tables_1, d.before a0 Z = true) (ws : List Jvm.Cond) (q1 : Int32) (h0 : Heap) (n0 : Nat) (O0 : Old Z n0 h0) (hlo : (1114112 : Int) ≤ q1.toInt) (hhi : q1.toInt ≤ 2147483647) :
    MetFree l y_0 (head1 (Jvm.Cond.code y_0 prog_154_method_29_code 1 (some .boolean) :: ws) ({ frames := 0, cells := 0, slots := 0, locals := 0 } : Room)) (fun a U => a = #[(.int q1)] ∧ Z.Warmed39 U.vm ∧ U.heap = h0) (fun _ _ _ _ _ => True) (fun _ U o U' => ∃ v L, o = .returned v ∧ QV (some (.int 0)) h0 n0 v U'.heap L ∧ FrameEnd U o U' L ({ frames := 0, cells := 0, slots := 0, locals := 0 } : Room).cells ({ frames := 0, cells := 0, slots := 0, locals := 0 } : Room).slots) := by
  refine MetFree.of_bodySF (plainFor_of_name pn_0) hisR ?_
  intro p e s m args below meth c s₁ Bd hml0 hP hK
  obtain ⟨rfl, hZ, hh⟩ := hP
  have hx := Bd.exec
  have hby := Bd.bytes
  have hml : c.maxLocals = 1 := hml0
  have hown : s.vm.findClass "com/example/befundweg/befundweg/XmlParser" = some m.cls := findClass_of_methodNamed Bd.named
  have hnm := (name_of_methodNamed Bd.named Bd.method).1
  have X0 : Stand p l e ({ frames := 0, cells := 0, slots := 0, locals := 0 } : Room) s m #[(.int q1)] below meth c s₁ [] 0 0 := Stand.of_body Bd
  have e0 : s₁.heap = h0 := by rw [← hh, Bd.state]; rfl
  have N0 := Fr.nil n0
  have K0 := Keep.refl h0 []
  have k0 : Go p.tables e below (s₁.setTop (entryFrame m #[(.int q1)] 1)) (s₁.setTop (mkF m 0 #[iv q1] [])) := fun t k => castTop (by first | rfl | (simp [entryFrame, mkF, argsToLocals, Value.category]; done)) k
  have k_27 : Go p.tables e below (s₁.setTop (entryFrame m #[(.int q1)] 1)) (s₁.setTop (mkF m 64 #[iv q1] [(.int 0)])) := fun t q => by
    refine k0 t ?_
    refine XS.iloadN X0.here hx rfl (hb hby d1_0) rfl ?_
    show Steps _ _ _ (s₁.setTop (mkF m 1 #[iv q1] [(.int q1)])) _
    refine XS.bipush X0.here hx rfl (hb hby d1_1) ?_
    show Steps _ _ _ (s₁.setTop (mkF m 3 #[iv q1] [(.int 9), (.int q1)])) _
    refine XS.icmpNo X0.here hx rfl (hb hby d1_3) rfl (feq (own_neB hlo (by decide))).1 ?_
    show Steps _ _ _ (s₁.setTop (mkF m 6 #[iv q1] [])) _
    refine XS.iloadN X0.here hx rfl (hb hby d1_6) rfl ?_
    show Steps _ _ _ (s₁.setTop (mkF m 7 #[iv q1] [(.int q1)])) _
    refine XS.bipush X0.here hx rfl (hb hby d1_7) ?_
    show Steps _ _ _ (s₁.setTop (mkF m 9 #[iv q1] [(.int 10), (.int q1)])) _
    refine XS.icmpNo X0.here hx rfl (hb hby d1_9) rfl (feq (own_neB hlo (by decide))).1 ?_
    show Steps _ _ _ (s₁.setTop (mkF m 12 #[iv q1] [])) _
    refine XS.iloadN X0.here hx rfl (hb hby d1_12) rfl ?_
    show Steps _ _ _ (s₁.setTop (mkF m 13 #[iv q1] [(.int q1)])) _
    refine XS.bipush X0.here hx rfl (hb hby d1_13) ?_
    show Steps _ _ _ (s₁.setTop (mkF m 15 #[iv q1] [(.int 13), (.int q1)])) _
    refine XS.icmpNo X0.here hx rfl (hb hby d1_15) rfl (feq (own_neB hlo (by decide))).1 ?_
    show Steps _ _ _ (s₁.setTop (mkF m 18 #[iv q1] [])) _
    refine XS.iloadN X0.here hx rfl (hb hby d1_18) rfl ?_
    show Steps _ _ _ (s₁.setTop (mkF m 19 #[iv q1] [(.int q1)])) _
    refine XS.bipush X0.here hx rfl (hb hby d1_19) ?_
    show Steps _ _ _ (s₁.setTop (mkF m 21 #[iv q1] [(.int 32), (.int q1)])) _
    refine XS.icmpNo X0.here hx rfl (hb hby d1_21) rfl (flt (own_nlt hlo (by decide))).1 ?_
    show Steps _ _ _ (s₁.setTop (mkF m 24 #[iv q1] [])) _
    refine XS.iloadN X0.here hx rfl (hb hby d1_24) rfl ?_
    show Steps _ _ _ (s₁.setTop (mkF m 25 #[iv q1] [(.int q1)])) _
    refine X0.ldcwInt hx hown (mvT hZ (hw _ (wd 21 rfl))) (g := (mkF m 25 #[iv q1] [(.int q1)])) rfl (hb hby d1_25) _ ?_
    show Steps _ _ _ (s₁.setTop (mkF m 28 #[iv q1] [(.int 55295), (.int q1)])) _
    refine XS.icmpNo X0.here hx rfl (hb hby d1_28) rfl (tlt (own_gt hlo (by decide))).2.2.2 ?_
    show Steps _ _ _ (s₁.setTop (mkF m 31 #[iv q1] [])) _
    refine XS.iloadN X0.here hx rfl (hb hby d1_31) rfl ?_
    show Steps _ _ _ (s₁.setTop (mkF m 32 #[iv q1] [(.int q1)])) _
    refine X0.ldcwInt hx hown (mvT hZ (hw _ (wd 14 rfl))) (g := (mkF m 32 #[iv q1] [(.int q1)])) rfl (hb hby d1_32) _ ?_
    show Steps _ _ _ (s₁.setTop (mkF m 35 #[iv q1] [(.int 57344), (.int q1)])) _
    refine XS.icmpNo X0.here hx rfl (hb hby d1_35) rfl (flt (own_nlt hlo (by decide))).1 ?_
    show Steps _ _ _ (s₁.setTop (mkF m 38 #[iv q1] [])) _
    refine XS.iloadN X0.here hx rfl (hb hby d1_38) rfl ?_
    show Steps _ _ _ (s₁.setTop (mkF m 39 #[iv q1] [(.int q1)])) _
    refine X0.ldcwInt hx hown (mvT hZ (hw _ (wd 22 rfl))) (g := (mkF m 39 #[iv q1] [(.int q1)])) rfl (hb hby d1_39) _ ?_
    show Steps _ _ _ (s₁.setTop (mkF m 42 #[iv q1] [(.int 65533), (.int q1)])) _
    refine XS.icmpNo X0.here hx rfl (hb hby d1_42) rfl (tlt (own_gt hlo (by decide))).2.2.2 ?_
    show Steps _ _ _ (s₁.setTop (mkF m 45 #[iv q1] [])) _
    refine XS.iloadN X0.here hx rfl (hb hby d1_45) rfl ?_
    show Steps _ _ _ (s₁.setTop (mkF m 46 #[iv q1] [(.int q1)])) _
    refine X0.ldcwInt hx hown (mvT hZ (hw _ (wd 15 rfl))) (g := (mkF m 46 #[iv q1] [(.int q1)])) rfl (hb hby d1_46) _ ?_
    show Steps _ _ _ (s₁.setTop (mkF m 49 #[iv q1] [(.int 65536), (.int q1)])) _
    refine XS.icmpNo X0.here hx rfl (hb hby d1_49) rfl (flt (own_nlt hlo (by decide))).1 ?_
    show Steps _ _ _ (s₁.setTop (mkF m 52 #[iv q1] [])) _
    refine XS.iloadN X0.here hx rfl (hb hby d1_52) rfl ?_
    show Steps _ _ _ (s₁.setTop (mkF m 53 #[iv q1] [(.int q1)])) _
    refine X0.ldcwInt hx hown (mvT hZ (hw _ (wd 23 rfl))) (g := (mkF m 53 #[iv q1] [(.int q1)])) rfl (hb hby d1_53) _ ?_
    show Steps _ _ _ (s₁.setTop (mkF m 56 #[iv q1] [(.int 1114111), (.int q1)])) _
    refine XS.icmpYes X0.here hx rfl (pc0 := 56) (pc' := 63) rfl (hb hby d1_56) rfl (tlt (own_gt hlo (by decide))).2.2.1 (by decide) (by decide) ?_
    show Steps _ _ _ (s₁.setTop (mkF m 63 #[iv q1] [])) _
    refine XS.iconst X0.here hx rfl (hb hby d1_63) ?_
    show Steps _ _ _ (s₁.setTop (mkF m 64 #[iv q1] [(.int 0)])) _
    exact q
  obtain ⟨fs, hr, hrun, hended, hW, hsame⟩ := X0.leave (v := some (.int 0)) (fun h => by rw [Bd.returns] at h; cases h)
  refine ⟨_, _, k_27 _ ?_, hrun, hended, _, _, rfl, ?_, ⟨_, rfl⟩, hW, hsame.mono (by decide) (by decide)⟩
  · exact retN X0 hx (t := .boolean) Bd.returns (by simp) (hb hby d1_64) hr
  · show QV (some (.int 0)) h0 n0 _ s₁.heap _
    rw [e0]
    exact ⟨rfl, N0, rfl⟩
set_option maxRecDepth 65536 in
set_option maxHeartbeats 40000000 in
theorem ex_13 (l : Launch) (Z : State) (a0 : Array Value) (hw : ∀ d ∈ tables_1, d.before a0 Z = true) (ws : List Jvm.Cond) (q1 : Int32) (h0 : Heap) (n0 : Nat) (O0 : Old Z n0 h0) (hlo : (1114112 : Int) ≤ q1.toInt) (hhi : q1.toInt ≤ 2147483647) :
    MetFree l y_1 (head1 (Jvm.Cond.code y_1 method_3_code 5 (some .boolean) :: ws) ({ frames := 0, cells := 0, slots := 0, locals := 0 } : Room)) (fun a U => a = #[(.int q1)] ∧ Z.Warmed39 U.vm ∧ U.heap = h0) (fun _ _ _ _ _ => True) (fun _ U o U' => ∃ v L, o = .returned v ∧ QV (some (.int 0)) h0 n0 v U'.heap L ∧ FrameEnd U o U' L ({ frames := 0, cells := 0, slots := 0, locals := 0 } : Room).cells ({ frames := 0, cells := 0, slots := 0, locals := 0 } : Room).slots) := by
  refine MetFree.of_bodySF (plainFor_of_name pn_1) hisR ?_
  intro p e s m args below meth c s₁ Bd hml0 hP hK
  obtain ⟨rfl, hZ, hh⟩ := hP
  have hx := Bd.exec
  have hby := Bd.bytes
  have hml : c.maxLocals = 5 := hml0
  have hown : s.vm.findClass "com/example/befundweg/befundweg/XmlParserIsCharacterPinLaw" = some m.cls := findClass_of_methodNamed Bd.named
  have hnm := (name_of_methodNamed Bd.named Bd.method).1
  have X0 : Stand p l e ({ frames := 0, cells := 0, slots := 0, locals := 0 } : Room) s m #[(.int q1)] below meth c s₁ [] 0 0 := Stand.of_body Bd
  have e0 : s₁.heap = h0 := by rw [← hh, Bd.state]; rfl
  have N0 := Fr.nil n0
  have K0 := Keep.refl h0 []
  have k0 : Go p.tables e below (s₁.setTop (entryFrame m #[(.int q1)] 5)) (s₁.setTop (mkF m 0 #[iv q1, .unset, .unset, .unset, .unset] [])) := fun t k => castTop (by first | rfl | (simp [entryFrame, mkF, argsToLocals, Value.category]; done)) k
  have k_28 : Go p.tables e below (s₁.setTop (entryFrame m #[(.int q1)] 5)) (s₁.setTop (mkF m 105 #[iv q1, iv 0, iv 0, iv 0, iv 1] [(.int 0)])) := fun t q => by
    refine k0 t ?_
    refine XS.iloadN X0.here hx rfl (hb hby d2_0) rfl ?_
    show Steps _ _ _ (s₁.setTop (mkF m 1 #[iv q1, .unset, .unset, .unset, .unset] [(.int q1)])) _
    refine XS.ifNo X0.here hx rfl (hb hby d2_1) rfl ((if0 _ _).trans (flt (own_nlt hlo (by decide))).1) ?_
    show Steps _ _ _ (s₁.setTop (mkF m 4 #[iv q1, .unset, .unset, .unset, .unset] [])) _
    refine XS.iloadN X0.here hx rfl (hb hby d2_4) rfl ?_
    show Steps _ _ _ (s₁.setTop (mkF m 5 #[iv q1, .unset, .unset, .unset, .unset] [(.int q1)])) _
    refine X0.ldcInt hx hown (mvT hZ (hw _ (wd 5 rfl))) (g := (mkF m 5 #[iv q1, .unset, .unset, .unset, .unset] [(.int q1)])) rfl (hb hby d2_5) _ ?_
    show Steps _ _ _ (s₁.setTop (mkF m 7 #[iv q1, .unset, .unset, .unset, .unset] [(.int 1114111), (.int q1)])) _
    refine XS.icmpYes X0.here hx rfl (pc0 := 7) (pc' := 14) rfl (hb hby d2_7) rfl (tlt (own_gt hlo (by decide))).2.2.1 (by decide) (by decide) ?_
    show Steps _ _ _ (s₁.setTop (mkF m 14 #[iv q1, .unset, .unset, .unset, .unset] [])) _
    refine XS.iconst X0.here hx rfl (hb hby d2_14) ?_
    show Steps _ _ _ (s₁.setTop (mkF m 15 #[iv q1, .unset, .unset, .unset, .unset] [(.int 0)])) _
    refine XS.istoreN X0.here hx rfl (hb hby d2_15) rfl (l' := #[iv q1, iv 0, .unset, .unset, .unset]) rfl ?_
    show Steps _ _ _ (s₁.setTop (mkF m 16 #[iv q1, iv 0, .unset, .unset, .unset] [])) _
    refine XS.iloadN X0.here hx rfl (hb hby d2_16) rfl ?_
    show Steps _ _ _ (s₁.setTop (mkF m 17 #[iv q1, iv 0, .unset, .unset, .unset] [(.int q1)])) _
    refine X0.ldcInt hx hown (mvT hZ (hw _ (wd 6 rfl))) (g := (mkF m 17 #[iv q1, iv 0, .unset, .unset, .unset] [(.int q1)])) rfl (hb hby d2_17) _ ?_
    show Steps _ _ _ (s₁.setTop (mkF m 19 #[iv q1, iv 0, .unset, .unset, .unset] [(.int 55296), (.int q1)])) _
    refine XS.icmpNo X0.here hx rfl (hb hby d2_19) rfl (flt (own_nlt hlo (by decide))).1 ?_
    show Steps _ _ _ (s₁.setTop (mkF m 22 #[iv q1, iv 0, .unset, .unset, .unset] [])) _
    refine XS.iloadN X0.here hx rfl (hb hby d2_22) rfl ?_
    show Steps _ _ _ (s₁.setTop (mkF m 23 #[iv q1, iv 0, .unset, .unset, .unset] [(.int q1)])) _
    refine X0.ldcInt hx hown (mvT hZ (hw _ (wd 7 rfl))) (g := (mkF m 23 #[iv q1, iv 0, .unset, .unset, .unset] [(.int q1)])) rfl (hb hby d2_23) _ ?_
    show Steps _ _ _ (s₁.setTop (mkF m 25 #[iv q1, iv 0, .unset, .unset, .unset] [(.int 57343), (.int q1)])) _
    refine XS.icmpYes X0.here hx rfl (pc0 := 25) (pc' := 32) rfl (hb hby d2_25) rfl (tlt (own_gt hlo (by decide))).2.2.1 (by decide) (by decide) ?_
    show Steps _ _ _ (s₁.setTop (mkF m 32 #[iv q1, iv 0, .unset, .unset, .unset] [])) _
    refine XS.iconst X0.here hx rfl (hb hby d2_32) ?_
    show Steps _ _ _ (s₁.setTop (mkF m 33 #[iv q1, iv 0, .unset, .unset, .unset] [(.int 0)])) _
    refine XS.istoreN X0.here hx rfl (hb hby d2_33) rfl (l' := #[iv q1, iv 0, iv 0, .unset, .unset]) rfl ?_
    show Steps _ _ _ (s₁.setTop (mkF m 34 #[iv q1, iv 0, iv 0, .unset, .unset] [])) _
    refine XS.iloadN X0.here hx rfl (hb hby d2_34) rfl ?_
    show Steps _ _ _ (s₁.setTop (mkF m 35 #[iv q1, iv 0, iv 0, .unset, .unset] [(.int q1)])) _
    refine X0.ldcInt hx hown (mvT hZ (hw _ (wd 8 rfl))) (g := (mkF m 35 #[iv q1, iv 0, iv 0, .unset, .unset] [(.int q1)])) rfl (hb hby d2_35) _ ?_
    show Steps _ _ _ (s₁.setTop (mkF m 37 #[iv q1, iv 0, iv 0, .unset, .unset] [(.int 65534), (.int q1)])) _
    refine XS.icmpNo X0.here hx rfl (hb hby d2_37) rfl (feq (own_neB hlo (by decide))).1 ?_
    show Steps _ _ _ (s₁.setTop (mkF m 40 #[iv q1, iv 0, iv 0, .unset, .unset] [])) _
    refine XS.iloadN X0.here hx rfl (hb hby d2_40) rfl ?_
    show Steps _ _ _ (s₁.setTop (mkF m 41 #[iv q1, iv 0, iv 0, .unset, .unset] [(.int q1)])) _
    refine X0.ldcInt hx hown (mvT hZ (hw _ (wd 20 rfl))) (g := (mkF m 41 #[iv q1, iv 0, iv 0, .unset, .unset] [(.int q1)])) rfl (hb hby d2_41) _ ?_
    show Steps _ _ _ (s₁.setTop (mkF m 43 #[iv q1, iv 0, iv 0, .unset, .unset] [(.int 65535), (.int q1)])) _
    refine XS.icmpYes X0.here hx rfl (pc0 := 43) (pc' := 50) rfl (hb hby d2_43) rfl (feq (own_neB hlo (by decide))).2 (by decide) (by decide) ?_
    show Steps _ _ _ (s₁.setTop (mkF m 50 #[iv q1, iv 0, iv 0, .unset, .unset] [])) _
    refine XS.iconst X0.here hx rfl (hb hby d2_50) ?_
    show Steps _ _ _ (s₁.setTop (mkF m 51 #[iv q1, iv 0, iv 0, .unset, .unset] [(.int 0)])) _
    refine XS.istoreN X0.here hx rfl (hb hby d2_51) rfl (l' := #[iv q1, iv 0, iv 0, iv 0, .unset]) rfl ?_
    show Steps _ _ _ (s₁.setTop (mkF m 52 #[iv q1, iv 0, iv 0, iv 0, .unset] [])) _
    refine XS.iloadN X0.here hx rfl (hb hby d2_52) rfl ?_
    show Steps _ _ _ (s₁.setTop (mkF m 53 #[iv q1, iv 0, iv 0, iv 0, .unset] [(.int q1)])) _
    refine XS.bipush X0.here hx rfl (hb hby d2_53) ?_
    show Steps _ _ _ (s₁.setTop (mkF m 55 #[iv q1, iv 0, iv 0, iv 0, .unset] [(.int 32), (.int q1)])) _
    refine XS.icmpYes X0.here hx rfl (pc0 := 55) (pc' := 76) rfl (hb hby d2_55) rfl (flt (own_nlt hlo (by decide))).2.1 (by decide) (by decide) ?_
    show Steps _ _ _ (s₁.setTop (mkF m 76 #[iv q1, iv 0, iv 0, iv 0, .unset] [])) _
    refine XS.iconst X0.here hx rfl (hb hby d2_76) ?_
    show Steps _ _ _ (s₁.setTop (mkF m 77 #[iv q1, iv 0, iv 0, iv 0, .unset] [(.int 1)])) _
    refine XS.goto X0.here hx rfl (pc0 := 77) (pc' := 81) rfl (hb hby d2_77) (by decide) (by decide) ?_
    show Steps _ _ _ (s₁.setTop (mkF m 81 #[iv q1, iv 0, iv 0, iv 0, .unset] [(.int 1)])) _
    refine XS.istore X0.here hx rfl (hb hby d2_81) rfl (l' := #[iv q1, iv 0, iv 0, iv 0, iv 1]) rfl ?_
    show Steps _ _ _ (s₁.setTop (mkF m 83 #[iv q1, iv 0, iv 0, iv 0, iv 1] [])) _
    refine XS.iloadN X0.here hx rfl (hb hby d2_83) rfl ?_
    show Steps _ _ _ (s₁.setTop (mkF m 84 #[iv q1, iv 0, iv 0, iv 0, iv 1] [(.int 0)])) _
    refine XS.ifYes X0.here hx rfl (pc0 := 84) (pc' := 104) rfl (hb hby d2_84) rfl (by decide) (by decide) (by decide) ?_
    show Steps _ _ _ (s₁.setTop (mkF m 104 #[iv q1, iv 0, iv 0, iv 0, iv 1] [])) _
    refine XS.iconst X0.here hx rfl (hb hby d2_104) ?_
    show Steps _ _ _ (s₁.setTop (mkF m 105 #[iv q1, iv 0, iv 0, iv 0, iv 1] [(.int 0)])) _
    exact q
  obtain ⟨fs, hr, hrun, hended, hW, hsame⟩ := X0.leave (v := some (.int 0)) (fun h => by rw [Bd.returns] at h; cases h)
  refine ⟨_, _, k_28 _ ?_, hrun, hended, _, _, rfl, ?_, ⟨_, rfl⟩, hW, hsame.mono (by decide) (by decide)⟩
  · exact retN X0 hx (t := .boolean) Bd.returns (by simp) (hb hby d2_105) hr
  · show QV (some (.int 0)) h0 n0 _ s₁.heap _
    rw [e0]
    exact ⟨rfl, N0, rfl⟩
set_option maxRecDepth 65536 in
set_option maxHeartbeats 40000000 in
theorem rm0 (l : Launch) (Z : State) (a0 : Array Value) (hw : ∀ d ∈ tables_1, d.before a0 Z = true) (ws : List Jvm.Cond) (q1 q2 q3 : Int32) (h0 : Heap) (n0 : Nat) (O0 : Old Z n0 h0)  :
    MetFree l x (head1 (Jvm.Cond.code x code maxLocals ret :: ws) room_1) (fun a U => a = #[(.int q1), (.int q2), (.int q3)] ∧ Z.Warmed39 U.vm ∧ U.heap = h0) (fun _ _ _ _ _ => True) (fun _ U o U' => ∃ v L, o = .returned v ∧ Q0 n0 v U'.heap L ∧ FrameEnd U o U' L room_1.cells room_1.slots) := by
  refine MetFree.of_bodySF (plainFor_of_name pn_1) hisR ?_
  intro p e s m args below meth c s₁ Bd hml0 hP hK
  obtain ⟨rfl, hZ, hh⟩ := hP
  have hx := Bd.exec
  have hby := Bd.bytes
  have hml : c.maxLocals = 6 := hml0
  have hown : s.vm.findClass "com/example/befundweg/befundweg/XmlParserIsCharacterPinLaw" = some m.cls := findClass_of_methodNamed Bd.named
  have hnm := (name_of_methodNamed Bd.named Bd.method).1
  have X0 : Stand p l e room_1 s m #[(.int q1), (.int q2), (.int q3)] below meth c s₁ [] 0 0 := Stand.of_body Bd
  have e0 : s₁.heap = h0 := by rw [← hh, Bd.state]; rfl
  have N0 := Fr.nil n0
  have K0 := Keep.refl h0 []
  have k0 : Go p.tables e below (s₁.setTop (entryFrame m #[(.int q1), (.int q2), (.int q3)] maxLocals)) (s₁.setTop (mkF m 0 #[iv q1, iv q2, iv q3, .unset, .unset, .unset] [])) := fun t k => castTop (by first | rfl | (simp [entryFrame, mkF, argsToLocals, Value.category, maxLocals]; done)) k
  have k_29 : Go p.tables e below (s₁.setTop (entryFrame m #[(.int q1), (.int q2), (.int q3)] maxLocals)) (s₁.setTop (mkF m 2 #[iv q1, iv q2, iv q3, .unset, .unset, .unset] [(.int 16)])) := fun t q => by
    refine k0 t ?_
    refine XS.bipush X0.here hx rfl (hb hby at_0) ?_
    show Steps _ _ _ (s₁.setTop (mkF m 2 #[iv q1, iv q2, iv q3, .unset, .unset, .unset] [(.int 16)])) _
    exact q
  obtain ⟨T30, h30, c30, X30, e30, E30, A30, st30⟩ := newP X0 hx hZ (hw _ (wd 0 rfl)) e0 (g := (mkF m 2 #[iv q1, iv q2, iv q3, .unset, .unset, .unset] [(.int 16)])) rfl (hb hby at_2) rfl (by decide) (cap := 16) (by decide) (by decide) (by decide) (by decide)
  obtain ⟨b30, g30⟩ : ∃ z, z = h0.size := ⟨_, rfl⟩
  rw [← g30] at A30 st30
  have g_b30 : n0 ≤ b30 := Nat.le_trans (own_old_le O0) (Nat.le_of_eq g30.symm)
  have sz_b30 : h0.size ≤ b30 := Nat.le_trans K0.1 (Nat.le_of_eq g30.symm)
  have O_31 := O0.ext E30
  have K_32 := K0.ext E30
  have B30 : Arv Z h30 b30 c30 .int (16 : Int32) [(.int 0), (.int 0), (.int 0), (.int 0), (.int 0), (.int 0), (.int 0), (.int 0), (.int 0), (.int 0), (.int 0), (.int 0), (.int 0), (.int 0), (.int 0), (.int 0)] (.int 0) := (Arv.new A30 (by decide)).pad (pad_rep [] (.int 0) 16)
  have k_33 : Go p.tables e below (s₁.setTop (entryFrame m #[(.int q1), (.int q2), (.int q3)] maxLocals)) (T30.setTop (mkF m 8 #[iv q1, iv q2, iv q3, .unset, .unset, .unset] [(.int 9), (.int 0), (.ref b30), (.ref b30)])) := fun t q => by
    refine k_29 t ?_
    refine st30 _ ?_
    show Steps _ _ _ (T30.setTop (mkF m 4 #[iv q1, iv q2, iv q3, .unset, .unset, .unset] [(.ref b30)])) _
    refine XS.dup X30.here hx rfl (hb hby at_4) rfl rfl ?_
    show Steps _ _ _ (T30.setTop (mkF m 5 #[iv q1, iv q2, iv q3, .unset, .unset, .unset] [(.ref b30), (.ref b30)])) _
    refine XS.iconst X30.here hx rfl (hb hby at_5) ?_
    show Steps _ _ _ (T30.setTop (mkF m 6 #[iv q1, iv q2, iv q3, .unset, .unset, .unset] [(.int 0), (.ref b30), (.ref b30)])) _
    refine XS.bipush X30.here hx rfl (hb hby at_6) ?_
    show Steps _ _ _ (T30.setTop (mkF m 8 #[iv q1, iv q2, iv q3, .unset, .unset, .unset] [(.int 9), (.int 0), (.ref b30), (.ref b30)])) _
    exact q
  obtain ⟨cl34, Ar34, q34, S34, M34, H34, G34⟩ := B30
  have hin34 : ¬ ((0 : Int32) < 0 ∨ cl34.slots.size ≤ ((0 : Int32)).toNatClampNeg) := inb_of S34 ⟨by decide, by decide⟩
  obtain ⟨T35, h35, X35, e35, W35, st35⟩ := stI X30 hx hZ e30 Ar34 (j := (0 : Int32)) hin34 (g := (mkF m 8 #[iv q1, iv q2, iv q3, .unset, .unset, .unset] [(.int 9), (.int 0), (.ref b30), (.ref b30)])) rfl rfl (hb hby at_8)
  have B35 : Arv Z h35 b30 c30 .int (16 : Int32) [(.int 9), (.int 0), (.int 0), (.int 0), (.int 0), (.int 0), (.int 0), (.int 0), (.int 0), (.int 0), (.int 0), (.int 0), (.int 0), (.int 0), (.int 0), (.int 0)] (.int 0) := Arv.set Ar34 q34 S34 M34 H34 G34 rfl W35 0 rfl (Nat.le_of_ble_eq_true rfl)
  have N35 := Fr.snoc X35 N0 g_b30
  have O_36 := O_31.wr W35 g_b30
  have K_37 := K_32.wr W35 (Or.inr sz_b30)
  have k_38 : Go p.tables e below (s₁.setTop (entryFrame m #[(.int q1), (.int q2), (.int q3)] maxLocals)) (T35.setTop (mkF m 13 #[iv q1, iv q2, iv q3, .unset, .unset, .unset] [(.int 10), (.int 1), (.ref b30), (.ref b30)])) := fun t q => by
    refine k_33 t ?_
    refine st35 _ ?_
    show Steps _ _ _ (T35.setTop (mkF m 9 #[iv q1, iv q2, iv q3, .unset, .unset, .unset] [(.ref b30)])) _
    refine XS.dup X35.here hx rfl (hb hby at_9) rfl rfl ?_
    show Steps _ _ _ (T35.setTop (mkF m 10 #[iv q1, iv q2, iv q3, .unset, .unset, .unset] [(.ref b30), (.ref b30)])) _
    refine XS.iconst X35.here hx rfl (hb hby at_10) ?_
    show Steps _ _ _ (T35.setTop (mkF m 11 #[iv q1, iv q2, iv q3, .unset, .unset, .unset] [(.int 1), (.ref b30), (.ref b30)])) _
    refine XS.bipush X35.here hx rfl (hb hby at_11) ?_
    show Steps _ _ _ (T35.setTop (mkF m 13 #[iv q1, iv q2, iv q3, .unset, .unset, .unset] [(.int 10), (.int 1), (.ref b30), (.ref b30)])) _
    exact q
  obtain ⟨cl39, Ar39, q39, S39, M39, H39, G39⟩ := B35
  have hin39 : ¬ ((1 : Int32) < 0 ∨ cl39.slots.size ≤ ((1 : Int32)).toNatClampNeg) := inb_of S39 ⟨by decide, by decide⟩
  obtain ⟨T40, h40, X40, e40, W40, st40⟩ := stI X35 hx hZ e35 Ar39 (j := (1 : Int32)) hin39 (g := (mkF m 13 #[iv q1, iv q2, iv q3, .unset, .unset, .unset] [(.int 10), (.int 1), (.ref b30), (.ref b30)])) rfl rfl (hb hby at_13)
  have B40 : Arv Z h40 b30 c30 .int (16 : Int32) [(.int 9), (.int 10), (.int 0), (.int 0), (.int 0), (.int 0), (.int 0), (.int 0), (.int 0), (.int 0), (.int 0), (.int 0), (.int 0), (.int 0), (.int 0), (.int 0)] (.int 0) := Arv.set Ar39 q39 S39 M39 H39 G39 rfl W40 1 rfl (Nat.le_of_ble_eq_true rfl)
  have N40 := Fr.snoc X40 N35 g_b30
  have O_41 := O_36.wr W40 g_b30
  have K_42 := K_37.wr W40 (Or.inr sz_b30)
  have k_43 : Go p.tables e below (s₁.setTop (entryFrame m #[(.int q1), (.int q2), (.int q3)] maxLocals)) (T40.setTop (mkF m 18 #[iv q1, iv q2, iv q3, .unset, .unset, .unset] [(.int 13), (.int 2), (.ref b30), (.ref b30)])) := fun t q => by
    refine k_38 t ?_
    refine st40 _ ?_
    show Steps _ _ _ (T40.setTop (mkF m 14 #[iv q1, iv q2, iv q3, .unset, .unset, .unset] [(.ref b30)])) _
    refine XS.dup X40.here hx rfl (hb hby at_14) rfl rfl ?_
    show Steps _ _ _ (T40.setTop (mkF m 15 #[iv q1, iv q2, iv q3, .unset, .unset, .unset] [(.ref b30), (.ref b30)])) _
    refine XS.iconst X40.here hx rfl (hb hby at_15) ?_
    show Steps _ _ _ (T40.setTop (mkF m 16 #[iv q1, iv q2, iv q3, .unset, .unset, .unset] [(.int 2), (.ref b30), (.ref b30)])) _
    refine XS.bipush X40.here hx rfl (hb hby at_16) ?_
    show Steps _ _ _ (T40.setTop (mkF m 18 #[iv q1, iv q2, iv q3, .unset, .unset, .unset] [(.int 13), (.int 2), (.ref b30), (.ref b30)])) _
    exact q
  obtain ⟨cl44, Ar44, q44, S44, M44, H44, G44⟩ := B40
  have hin44 : ¬ ((2 : Int32) < 0 ∨ cl44.slots.size ≤ ((2 : Int32)).toNatClampNeg) := inb_of S44 ⟨by decide, by decide⟩
  obtain ⟨T45, h45, X45, e45, W45, st45⟩ := stI X40 hx hZ e40 Ar44 (j := (2 : Int32)) hin44 (g := (mkF m 18 #[iv q1, iv q2, iv q3, .unset, .unset, .unset] [(.int 13), (.int 2), (.ref b30), (.ref b30)])) rfl rfl (hb hby at_18)
  have B45 : Arv Z h45 b30 c30 .int (16 : Int32) [(.int 9), (.int 10), (.int 13), (.int 0), (.int 0), (.int 0), (.int 0), (.int 0), (.int 0), (.int 0), (.int 0), (.int 0), (.int 0), (.int 0), (.int 0), (.int 0)] (.int 0) := Arv.set Ar44 q44 S44 M44 H44 G44 rfl W45 2 rfl (Nat.le_of_ble_eq_true rfl)
  have N45 := Fr.snoc X45 N40 g_b30
  have O_46 := O_41.wr W45 g_b30
  have K_47 := K_42.wr W45 (Or.inr sz_b30)
  have k_48 : Go p.tables e below (s₁.setTop (entryFrame m #[(.int q1), (.int q2), (.int q3)] maxLocals)) (T45.setTop (mkF m 23 #[iv q1, iv q2, iv q3, .unset, .unset, .unset] [(.int 32), (.int 3), (.ref b30), (.ref b30)])) := fun t q => by
    refine k_43 t ?_
    refine st45 _ ?_
    show Steps _ _ _ (T45.setTop (mkF m 19 #[iv q1, iv q2, iv q3, .unset, .unset, .unset] [(.ref b30)])) _
    refine XS.dup X45.here hx rfl (hb hby at_19) rfl rfl ?_
    show Steps _ _ _ (T45.setTop (mkF m 20 #[iv q1, iv q2, iv q3, .unset, .unset, .unset] [(.ref b30), (.ref b30)])) _
    refine XS.iconst X45.here hx rfl (hb hby at_20) ?_
    show Steps _ _ _ (T45.setTop (mkF m 21 #[iv q1, iv q2, iv q3, .unset, .unset, .unset] [(.int 3), (.ref b30), (.ref b30)])) _
    refine XS.bipush X45.here hx rfl (hb hby at_21) ?_
    show Steps _ _ _ (T45.setTop (mkF m 23 #[iv q1, iv q2, iv q3, .unset, .unset, .unset] [(.int 32), (.int 3), (.ref b30), (.ref b30)])) _
    exact q
  obtain ⟨cl49, Ar49, q49, S49, M49, H49, G49⟩ := B45
  have hin49 : ¬ ((3 : Int32) < 0 ∨ cl49.slots.size ≤ ((3 : Int32)).toNatClampNeg) := inb_of S49 ⟨by decide, by decide⟩
  obtain ⟨T50, h50, X50, e50, W50, st50⟩ := stI X45 hx hZ e45 Ar49 (j := (3 : Int32)) hin49 (g := (mkF m 23 #[iv q1, iv q2, iv q3, .unset, .unset, .unset] [(.int 32), (.int 3), (.ref b30), (.ref b30)])) rfl rfl (hb hby at_23)
  have B50 : Arv Z h50 b30 c30 .int (16 : Int32) [(.int 9), (.int 10), (.int 13), (.int 32), (.int 0), (.int 0), (.int 0), (.int 0), (.int 0), (.int 0), (.int 0), (.int 0), (.int 0), (.int 0), (.int 0), (.int 0)] (.int 0) := Arv.set Ar49 q49 S49 M49 H49 G49 rfl W50 3 rfl (Nat.le_of_ble_eq_true rfl)
  have N50 := Fr.snoc X50 N45 g_b30
  have O_51 := O_46.wr W50 g_b30
  have K_52 := K_47.wr W50 (Or.inr sz_b30)
  have k_53 : Go p.tables e below (s₁.setTop (entryFrame m #[(.int q1), (.int q2), (.int q3)] maxLocals)) (T50.setTop (mkF m 28 #[iv q1, iv q2, iv q3, .unset, .unset, .unset] [(.int 55295), (.int 4), (.ref b30), (.ref b30)])) := fun t q => by
    refine k_48 t ?_
    refine st50 _ ?_
    show Steps _ _ _ (T50.setTop (mkF m 24 #[iv q1, iv q2, iv q3, .unset, .unset, .unset] [(.ref b30)])) _
    refine XS.dup X50.here hx rfl (hb hby at_24) rfl rfl ?_
    show Steps _ _ _ (T50.setTop (mkF m 25 #[iv q1, iv q2, iv q3, .unset, .unset, .unset] [(.ref b30), (.ref b30)])) _
    refine XS.iconst X50.here hx rfl (hb hby at_25) ?_
    show Steps _ _ _ (T50.setTop (mkF m 26 #[iv q1, iv q2, iv q3, .unset, .unset, .unset] [(.int 4), (.ref b30), (.ref b30)])) _
    refine X50.ldcInt hx hown (mvT hZ (hw _ (wd 1 rfl))) (g := (mkF m 26 #[iv q1, iv q2, iv q3, .unset, .unset, .unset] [(.int 4), (.ref b30), (.ref b30)])) rfl (hb hby at_26) _ ?_
    show Steps _ _ _ (T50.setTop (mkF m 28 #[iv q1, iv q2, iv q3, .unset, .unset, .unset] [(.int 55295), (.int 4), (.ref b30), (.ref b30)])) _
    exact q
  obtain ⟨cl54, Ar54, q54, S54, M54, H54, G54⟩ := B50
  have hin54 : ¬ ((4 : Int32) < 0 ∨ cl54.slots.size ≤ ((4 : Int32)).toNatClampNeg) := inb_of S54 ⟨by decide, by decide⟩
  obtain ⟨T55, h55, X55, e55, W55, st55⟩ := stI X50 hx hZ e50 Ar54 (j := (4 : Int32)) hin54 (g := (mkF m 28 #[iv q1, iv q2, iv q3, .unset, .unset, .unset] [(.int 55295), (.int 4), (.ref b30), (.ref b30)])) rfl rfl (hb hby at_28)
  have B55 : Arv Z h55 b30 c30 .int (16 : Int32) [(.int 9), (.int 10), (.int 13), (.int 32), (.int 55295), (.int 0), (.int 0), (.int 0), (.int 0), (.int 0), (.int 0), (.int 0), (.int 0), (.int 0), (.int 0), (.int 0)] (.int 0) := Arv.set Ar54 q54 S54 M54 H54 G54 rfl W55 4 rfl (Nat.le_of_ble_eq_true rfl)
  have N55 := Fr.snoc X55 N50 g_b30
  have O_56 := O_51.wr W55 g_b30
  have K_57 := K_52.wr W55 (Or.inr sz_b30)
  have k_58 : Go p.tables e below (s₁.setTop (entryFrame m #[(.int q1), (.int q2), (.int q3)] maxLocals)) (T55.setTop (mkF m 33 #[iv q1, iv q2, iv q3, .unset, .unset, .unset] [(.int 57344), (.int 5), (.ref b30), (.ref b30)])) := fun t q => by
    refine k_53 t ?_
    refine st55 _ ?_
    show Steps _ _ _ (T55.setTop (mkF m 29 #[iv q1, iv q2, iv q3, .unset, .unset, .unset] [(.ref b30)])) _
    refine XS.dup X55.here hx rfl (hb hby at_29) rfl rfl ?_
    show Steps _ _ _ (T55.setTop (mkF m 30 #[iv q1, iv q2, iv q3, .unset, .unset, .unset] [(.ref b30), (.ref b30)])) _
    refine XS.iconst X55.here hx rfl (hb hby at_30) ?_
    show Steps _ _ _ (T55.setTop (mkF m 31 #[iv q1, iv q2, iv q3, .unset, .unset, .unset] [(.int 5), (.ref b30), (.ref b30)])) _
    refine X55.ldcInt hx hown (mvT hZ (hw _ (wd 2 rfl))) (g := (mkF m 31 #[iv q1, iv q2, iv q3, .unset, .unset, .unset] [(.int 5), (.ref b30), (.ref b30)])) rfl (hb hby at_31) _ ?_
    show Steps _ _ _ (T55.setTop (mkF m 33 #[iv q1, iv q2, iv q3, .unset, .unset, .unset] [(.int 57344), (.int 5), (.ref b30), (.ref b30)])) _
    exact q
  obtain ⟨cl59, Ar59, q59, S59, M59, H59, G59⟩ := B55
  have hin59 : ¬ ((5 : Int32) < 0 ∨ cl59.slots.size ≤ ((5 : Int32)).toNatClampNeg) := inb_of S59 ⟨by decide, by decide⟩
  obtain ⟨T60, h60, X60, e60, W60, st60⟩ := stI X55 hx hZ e55 Ar59 (j := (5 : Int32)) hin59 (g := (mkF m 33 #[iv q1, iv q2, iv q3, .unset, .unset, .unset] [(.int 57344), (.int 5), (.ref b30), (.ref b30)])) rfl rfl (hb hby at_33)
  have B60 : Arv Z h60 b30 c30 .int (16 : Int32) [(.int 9), (.int 10), (.int 13), (.int 32), (.int 55295), (.int 57344), (.int 0), (.int 0), (.int 0), (.int 0), (.int 0), (.int 0), (.int 0), (.int 0), (.int 0), (.int 0)] (.int 0) := Arv.set Ar59 q59 S59 M59 H59 G59 rfl W60 5 rfl (Nat.le_of_ble_eq_true rfl)
  have N60 := Fr.snoc X60 N55 g_b30
  have O_61 := O_56.wr W60 g_b30
  have K_62 := K_57.wr W60 (Or.inr sz_b30)
  have k_63 : Go p.tables e below (s₁.setTop (entryFrame m #[(.int q1), (.int q2), (.int q3)] maxLocals)) (T60.setTop (mkF m 39 #[iv q1, iv q2, iv q3, .unset, .unset, .unset] [(.int 65533), (.int 6), (.ref b30), (.ref b30)])) := fun t q => by
    refine k_58 t ?_
    refine st60 _ ?_
    show Steps _ _ _ (T60.setTop (mkF m 34 #[iv q1, iv q2, iv q3, .unset, .unset, .unset] [(.ref b30)])) _
    refine XS.dup X60.here hx rfl (hb hby at_34) rfl rfl ?_
    show Steps _ _ _ (T60.setTop (mkF m 35 #[iv q1, iv q2, iv q3, .unset, .unset, .unset] [(.ref b30), (.ref b30)])) _
    refine XS.bipush X60.here hx rfl (hb hby at_35) ?_
    show Steps _ _ _ (T60.setTop (mkF m 37 #[iv q1, iv q2, iv q3, .unset, .unset, .unset] [(.int 6), (.ref b30), (.ref b30)])) _
    refine X60.ldcInt hx hown (mvT hZ (hw _ (wd 3 rfl))) (g := (mkF m 37 #[iv q1, iv q2, iv q3, .unset, .unset, .unset] [(.int 6), (.ref b30), (.ref b30)])) rfl (hb hby at_37) _ ?_
    show Steps _ _ _ (T60.setTop (mkF m 39 #[iv q1, iv q2, iv q3, .unset, .unset, .unset] [(.int 65533), (.int 6), (.ref b30), (.ref b30)])) _
    exact q
  obtain ⟨cl64, Ar64, q64, S64, M64, H64, G64⟩ := B60
  have hin64 : ¬ ((6 : Int32) < 0 ∨ cl64.slots.size ≤ ((6 : Int32)).toNatClampNeg) := inb_of S64 ⟨by decide, by decide⟩
  obtain ⟨T65, h65, X65, e65, W65, st65⟩ := stI X60 hx hZ e60 Ar64 (j := (6 : Int32)) hin64 (g := (mkF m 39 #[iv q1, iv q2, iv q3, .unset, .unset, .unset] [(.int 65533), (.int 6), (.ref b30), (.ref b30)])) rfl rfl (hb hby at_39)
  have B65 : Arv Z h65 b30 c30 .int (16 : Int32) [(.int 9), (.int 10), (.int 13), (.int 32), (.int 55295), (.int 57344), (.int 65533), (.int 0), (.int 0), (.int 0), (.int 0), (.int 0), (.int 0), (.int 0), (.int 0), (.int 0)] (.int 0) := Arv.set Ar64 q64 S64 M64 H64 G64 rfl W65 6 rfl (Nat.le_of_ble_eq_true rfl)
  have N65 := Fr.snoc X65 N60 g_b30
  have O_66 := O_61.wr W65 g_b30
  have K_67 := K_62.wr W65 (Or.inr sz_b30)
  have k_68 : Go p.tables e below (s₁.setTop (entryFrame m #[(.int q1), (.int q2), (.int q3)] maxLocals)) (T65.setTop (mkF m 45 #[iv q1, iv q2, iv q3, .unset, .unset, .unset] [(.int 65536), (.int 7), (.ref b30), (.ref b30)])) := fun t q => by
    refine k_63 t ?_
    refine st65 _ ?_
    show Steps _ _ _ (T65.setTop (mkF m 40 #[iv q1, iv q2, iv q3, .unset, .unset, .unset] [(.ref b30)])) _
    refine XS.dup X65.here hx rfl (hb hby at_40) rfl rfl ?_
    show Steps _ _ _ (T65.setTop (mkF m 41 #[iv q1, iv q2, iv q3, .unset, .unset, .unset] [(.ref b30), (.ref b30)])) _
    refine XS.bipush X65.here hx rfl (hb hby at_41) ?_
    show Steps _ _ _ (T65.setTop (mkF m 43 #[iv q1, iv q2, iv q3, .unset, .unset, .unset] [(.int 7), (.ref b30), (.ref b30)])) _
    refine X65.ldcInt hx hown (mvT hZ (hw _ (wd 4 rfl))) (g := (mkF m 43 #[iv q1, iv q2, iv q3, .unset, .unset, .unset] [(.int 7), (.ref b30), (.ref b30)])) rfl (hb hby at_43) _ ?_
    show Steps _ _ _ (T65.setTop (mkF m 45 #[iv q1, iv q2, iv q3, .unset, .unset, .unset] [(.int 65536), (.int 7), (.ref b30), (.ref b30)])) _
    exact q
  obtain ⟨cl69, Ar69, q69, S69, M69, H69, G69⟩ := B65
  have hin69 : ¬ ((7 : Int32) < 0 ∨ cl69.slots.size ≤ ((7 : Int32)).toNatClampNeg) := inb_of S69 ⟨by decide, by decide⟩
  obtain ⟨T70, h70, X70, e70, W70, st70⟩ := stI X65 hx hZ e65 Ar69 (j := (7 : Int32)) hin69 (g := (mkF m 45 #[iv q1, iv q2, iv q3, .unset, .unset, .unset] [(.int 65536), (.int 7), (.ref b30), (.ref b30)])) rfl rfl (hb hby at_45)
  have B70 : Arv Z h70 b30 c30 .int (16 : Int32) [(.int 9), (.int 10), (.int 13), (.int 32), (.int 55295), (.int 57344), (.int 65533), (.int 65536), (.int 0), (.int 0), (.int 0), (.int 0), (.int 0), (.int 0), (.int 0), (.int 0)] (.int 0) := Arv.set Ar69 q69 S69 M69 H69 G69 rfl W70 7 rfl (Nat.le_of_ble_eq_true rfl)
  have N70 := Fr.snoc X70 N65 g_b30
  have O_71 := O_66.wr W70 g_b30
  have K_72 := K_67.wr W70 (Or.inr sz_b30)
  have k_73 : Go p.tables e below (s₁.setTop (entryFrame m #[(.int q1), (.int q2), (.int q3)] maxLocals)) (T70.setTop (mkF m 51 #[iv q1, iv q2, iv q3, .unset, .unset, .unset] [(.int 1114111), (.int 8), (.ref b30), (.ref b30)])) := fun t q => by
    refine k_68 t ?_
    refine st70 _ ?_
    show Steps _ _ _ (T70.setTop (mkF m 46 #[iv q1, iv q2, iv q3, .unset, .unset, .unset] [(.ref b30)])) _
    refine XS.dup X70.here hx rfl (hb hby at_46) rfl rfl ?_
    show Steps _ _ _ (T70.setTop (mkF m 47 #[iv q1, iv q2, iv q3, .unset, .unset, .unset] [(.ref b30), (.ref b30)])) _
    refine XS.bipush X70.here hx rfl (hb hby at_47) ?_
    show Steps _ _ _ (T70.setTop (mkF m 49 #[iv q1, iv q2, iv q3, .unset, .unset, .unset] [(.int 8), (.ref b30), (.ref b30)])) _
    refine X70.ldcInt hx hown (mvT hZ (hw _ (wd 5 rfl))) (g := (mkF m 49 #[iv q1, iv q2, iv q3, .unset, .unset, .unset] [(.int 8), (.ref b30), (.ref b30)])) rfl (hb hby at_49) _ ?_
    show Steps _ _ _ (T70.setTop (mkF m 51 #[iv q1, iv q2, iv q3, .unset, .unset, .unset] [(.int 1114111), (.int 8), (.ref b30), (.ref b30)])) _
    exact q
  obtain ⟨cl74, Ar74, q74, S74, M74, H74, G74⟩ := B70
  have hin74 : ¬ ((8 : Int32) < 0 ∨ cl74.slots.size ≤ ((8 : Int32)).toNatClampNeg) := inb_of S74 ⟨by decide, by decide⟩
  obtain ⟨T75, h75, X75, e75, W75, st75⟩ := stI X70 hx hZ e70 Ar74 (j := (8 : Int32)) hin74 (g := (mkF m 51 #[iv q1, iv q2, iv q3, .unset, .unset, .unset] [(.int 1114111), (.int 8), (.ref b30), (.ref b30)])) rfl rfl (hb hby at_51)
  have B75 : Arv Z h75 b30 c30 .int (16 : Int32) [(.int 9), (.int 10), (.int 13), (.int 32), (.int 55295), (.int 57344), (.int 65533), (.int 65536), (.int 1114111), (.int 0), (.int 0), (.int 0), (.int 0), (.int 0), (.int 0), (.int 0)] (.int 0) := Arv.set Ar74 q74 S74 M74 H74 G74 rfl W75 8 rfl (Nat.le_of_ble_eq_true rfl)
  have N75 := Fr.snoc X75 N70 g_b30
  have O_76 := O_71.wr W75 g_b30
  have K_77 := K_72.wr W75 (Or.inr sz_b30)
  have k_78 : Go p.tables e below (s₁.setTop (entryFrame m #[(.int q1), (.int q2), (.int q3)] maxLocals)) (T75.setTop (mkF m 56 #[iv q1, iv q2, iv q3, .unset, .unset, .unset] [(.int 0), (.int 9), (.ref b30), (.ref b30)])) := fun t q => by
    refine k_73 t ?_
    refine st75 _ ?_
    show Steps _ _ _ (T75.setTop (mkF m 52 #[iv q1, iv q2, iv q3, .unset, .unset, .unset] [(.ref b30)])) _
    refine XS.dup X75.here hx rfl (hb hby at_52) rfl rfl ?_
    show Steps _ _ _ (T75.setTop (mkF m 53 #[iv q1, iv q2, iv q3, .unset, .unset, .unset] [(.ref b30), (.ref b30)])) _
    refine XS.bipush X75.here hx rfl (hb hby at_53) ?_
    show Steps _ _ _ (T75.setTop (mkF m 55 #[iv q1, iv q2, iv q3, .unset, .unset, .unset] [(.int 9), (.ref b30), (.ref b30)])) _
    refine XS.iconst X75.here hx rfl (hb hby at_55) ?_
    show Steps _ _ _ (T75.setTop (mkF m 56 #[iv q1, iv q2, iv q3, .unset, .unset, .unset] [(.int 0), (.int 9), (.ref b30), (.ref b30)])) _
    exact q
  obtain ⟨cl79, Ar79, q79, S79, M79, H79, G79⟩ := B75
  have hin79 : ¬ ((9 : Int32) < 0 ∨ cl79.slots.size ≤ ((9 : Int32)).toNatClampNeg) := inb_of S79 ⟨by decide, by decide⟩
  obtain ⟨T80, h80, X80, e80, W80, st80⟩ := stI X75 hx hZ e75 Ar79 (j := (9 : Int32)) hin79 (g := (mkF m 56 #[iv q1, iv q2, iv q3, .unset, .unset, .unset] [(.int 0), (.int 9), (.ref b30), (.ref b30)])) rfl rfl (hb hby at_56)
  have B80 : Arv Z h80 b30 c30 .int (16 : Int32) [(.int 9), (.int 10), (.int 13), (.int 32), (.int 55295), (.int 57344), (.int 65533), (.int 65536), (.int 1114111), (.int 0), (.int 0), (.int 0), (.int 0), (.int 0), (.int 0), (.int 0)] (.int 0) := Arv.set Ar79 q79 S79 M79 H79 G79 rfl W80 9 rfl (Nat.le_of_ble_eq_true rfl)
  have N80 := Fr.snoc X80 N75 g_b30
  have O_81 := O_76.wr W80 g_b30
  have K_82 := K_77.wr W80 (Or.inr sz_b30)
  have k_83 : Go p.tables e below (s₁.setTop (entryFrame m #[(.int q1), (.int q2), (.int q3)] maxLocals)) (T80.setTop (mkF m 62 #[iv q1, iv q2, iv q3, .unset, .unset, .unset] [(.int 55296), (.int 10), (.ref b30), (.ref b30)])) := fun t q => by
    refine k_78 t ?_
    refine st80 _ ?_
    show Steps _ _ _ (T80.setTop (mkF m 57 #[iv q1, iv q2, iv q3, .unset, .unset, .unset] [(.ref b30)])) _
    refine XS.dup X80.here hx rfl (hb hby at_57) rfl rfl ?_
    show Steps _ _ _ (T80.setTop (mkF m 58 #[iv q1, iv q2, iv q3, .unset, .unset, .unset] [(.ref b30), (.ref b30)])) _
    refine XS.bipush X80.here hx rfl (hb hby at_58) ?_
    show Steps _ _ _ (T80.setTop (mkF m 60 #[iv q1, iv q2, iv q3, .unset, .unset, .unset] [(.int 10), (.ref b30), (.ref b30)])) _
    refine X80.ldcInt hx hown (mvT hZ (hw _ (wd 6 rfl))) (g := (mkF m 60 #[iv q1, iv q2, iv q3, .unset, .unset, .unset] [(.int 10), (.ref b30), (.ref b30)])) rfl (hb hby at_60) _ ?_
    show Steps _ _ _ (T80.setTop (mkF m 62 #[iv q1, iv q2, iv q3, .unset, .unset, .unset] [(.int 55296), (.int 10), (.ref b30), (.ref b30)])) _
    exact q
  obtain ⟨cl84, Ar84, q84, S84, M84, H84, G84⟩ := B80
  have hin84 : ¬ ((10 : Int32) < 0 ∨ cl84.slots.size ≤ ((10 : Int32)).toNatClampNeg) := inb_of S84 ⟨by decide, by decide⟩
  obtain ⟨T85, h85, X85, e85, W85, st85⟩ := stI X80 hx hZ e80 Ar84 (j := (10 : Int32)) hin84 (g := (mkF m 62 #[iv q1, iv q2, iv q3, .unset, .unset, .unset] [(.int 55296), (.int 10), (.ref b30), (.ref b30)])) rfl rfl (hb hby at_62)
  have B85 : Arv Z h85 b30 c30 .int (16 : Int32) [(.int 9), (.int 10), (.int 13), (.int 32), (.int 55295), (.int 57344), (.int 65533), (.int 65536), (.int 1114111), (.int 0), (.int 55296), (.int 0), (.int 0), (.int 0), (.int 0), (.int 0)] (.int 0) := Arv.set Ar84 q84 S84 M84 H84 G84 rfl W85 10 rfl (Nat.le_of_ble_eq_true rfl)
  have N85 := Fr.snoc X85 N80 g_b30
  have O_86 := O_81.wr W85 g_b30
  have K_87 := K_82.wr W85 (Or.inr sz_b30)
  have k_88 : Go p.tables e below (s₁.setTop (entryFrame m #[(.int q1), (.int q2), (.int q3)] maxLocals)) (T85.setTop (mkF m 68 #[iv q1, iv q2, iv q3, .unset, .unset, .unset] [(.int 57343), (.int 11), (.ref b30), (.ref b30)])) := fun t q => by
    refine k_83 t ?_
    refine st85 _ ?_
    show Steps _ _ _ (T85.setTop (mkF m 63 #[iv q1, iv q2, iv q3, .unset, .unset, .unset] [(.ref b30)])) _
    refine XS.dup X85.here hx rfl (hb hby at_63) rfl rfl ?_
    show Steps _ _ _ (T85.setTop (mkF m 64 #[iv q1, iv q2, iv q3, .unset, .unset, .unset] [(.ref b30), (.ref b30)])) _
    refine XS.bipush X85.here hx rfl (hb hby at_64) ?_
    show Steps _ _ _ (T85.setTop (mkF m 66 #[iv q1, iv q2, iv q3, .unset, .unset, .unset] [(.int 11), (.ref b30), (.ref b30)])) _
    refine X85.ldcInt hx hown (mvT hZ (hw _ (wd 7 rfl))) (g := (mkF m 66 #[iv q1, iv q2, iv q3, .unset, .unset, .unset] [(.int 11), (.ref b30), (.ref b30)])) rfl (hb hby at_66) _ ?_
    show Steps _ _ _ (T85.setTop (mkF m 68 #[iv q1, iv q2, iv q3, .unset, .unset, .unset] [(.int 57343), (.int 11), (.ref b30), (.ref b30)])) _
    exact q
  obtain ⟨cl89, Ar89, q89, S89, M89, H89, G89⟩ := B85
  have hin89 : ¬ ((11 : Int32) < 0 ∨ cl89.slots.size ≤ ((11 : Int32)).toNatClampNeg) := inb_of S89 ⟨by decide, by decide⟩
  obtain ⟨T90, h90, X90, e90, W90, st90⟩ := stI X85 hx hZ e85 Ar89 (j := (11 : Int32)) hin89 (g := (mkF m 68 #[iv q1, iv q2, iv q3, .unset, .unset, .unset] [(.int 57343), (.int 11), (.ref b30), (.ref b30)])) rfl rfl (hb hby at_68)
  have B90 : Arv Z h90 b30 c30 .int (16 : Int32) [(.int 9), (.int 10), (.int 13), (.int 32), (.int 55295), (.int 57344), (.int 65533), (.int 65536), (.int 1114111), (.int 0), (.int 55296), (.int 57343), (.int 0), (.int 0), (.int 0), (.int 0)] (.int 0) := Arv.set Ar89 q89 S89 M89 H89 G89 rfl W90 11 rfl (Nat.le_of_ble_eq_true rfl)
  have N90 := Fr.snoc X90 N85 g_b30
  have O_91 := O_86.wr W90 g_b30
  have K_92 := K_87.wr W90 (Or.inr sz_b30)
  have k_93 : Go p.tables e below (s₁.setTop (entryFrame m #[(.int q1), (.int q2), (.int q3)] maxLocals)) (T90.setTop (mkF m 74 #[iv q1, iv q2, iv q3, .unset, .unset, .unset] [(.int 65534), (.int 12), (.ref b30), (.ref b30)])) := fun t q => by
    refine k_88 t ?_
    refine st90 _ ?_
    show Steps _ _ _ (T90.setTop (mkF m 69 #[iv q1, iv q2, iv q3, .unset, .unset, .unset] [(.ref b30)])) _
    refine XS.dup X90.here hx rfl (hb hby at_69) rfl rfl ?_
    show Steps _ _ _ (T90.setTop (mkF m 70 #[iv q1, iv q2, iv q3, .unset, .unset, .unset] [(.ref b30), (.ref b30)])) _
    refine XS.bipush X90.here hx rfl (hb hby at_70) ?_
    show Steps _ _ _ (T90.setTop (mkF m 72 #[iv q1, iv q2, iv q3, .unset, .unset, .unset] [(.int 12), (.ref b30), (.ref b30)])) _
    refine X90.ldcInt hx hown (mvT hZ (hw _ (wd 8 rfl))) (g := (mkF m 72 #[iv q1, iv q2, iv q3, .unset, .unset, .unset] [(.int 12), (.ref b30), (.ref b30)])) rfl (hb hby at_72) _ ?_
    show Steps _ _ _ (T90.setTop (mkF m 74 #[iv q1, iv q2, iv q3, .unset, .unset, .unset] [(.int 65534), (.int 12), (.ref b30), (.ref b30)])) _
    exact q
  obtain ⟨cl94, Ar94, q94, S94, M94, H94, G94⟩ := B90
  have hin94 : ¬ ((12 : Int32) < 0 ∨ cl94.slots.size ≤ ((12 : Int32)).toNatClampNeg) := inb_of S94 ⟨by decide, by decide⟩
  obtain ⟨T95, h95, X95, e95, W95, st95⟩ := stI X90 hx hZ e90 Ar94 (j := (12 : Int32)) hin94 (g := (mkF m 74 #[iv q1, iv q2, iv q3, .unset, .unset, .unset] [(.int 65534), (.int 12), (.ref b30), (.ref b30)])) rfl rfl (hb hby at_74)
  have B95 : Arv Z h95 b30 c30 .int (16 : Int32) [(.int 9), (.int 10), (.int 13), (.int 32), (.int 55295), (.int 57344), (.int 65533), (.int 65536), (.int 1114111), (.int 0), (.int 55296), (.int 57343), (.int 65534), (.int 0), (.int 0), (.int 0)] (.int 0) := Arv.set Ar94 q94 S94 M94 H94 G94 rfl W95 12 rfl (Nat.le_of_ble_eq_true rfl)
  have N95 := Fr.snoc X95 N90 g_b30
  have O_96 := O_91.wr W95 g_b30
  have K_97 := K_92.wr W95 (Or.inr sz_b30)
  have k_98 : Go p.tables e below (s₁.setTop (entryFrame m #[(.int q1), (.int q2), (.int q3)] maxLocals)) (T95.setTop (mkF m 80 #[iv q1, iv q2, iv q3, .unset, .unset, .unset] [(.int 8), (.int 13), (.ref b30), (.ref b30)])) := fun t q => by
    refine k_93 t ?_
    refine st95 _ ?_
    show Steps _ _ _ (T95.setTop (mkF m 75 #[iv q1, iv q2, iv q3, .unset, .unset, .unset] [(.ref b30)])) _
    refine XS.dup X95.here hx rfl (hb hby at_75) rfl rfl ?_
    show Steps _ _ _ (T95.setTop (mkF m 76 #[iv q1, iv q2, iv q3, .unset, .unset, .unset] [(.ref b30), (.ref b30)])) _
    refine XS.bipush X95.here hx rfl (hb hby at_76) ?_
    show Steps _ _ _ (T95.setTop (mkF m 78 #[iv q1, iv q2, iv q3, .unset, .unset, .unset] [(.int 13), (.ref b30), (.ref b30)])) _
    refine XS.bipush X95.here hx rfl (hb hby at_78) ?_
    show Steps _ _ _ (T95.setTop (mkF m 80 #[iv q1, iv q2, iv q3, .unset, .unset, .unset] [(.int 8), (.int 13), (.ref b30), (.ref b30)])) _
    exact q
  obtain ⟨cl99, Ar99, q99, S99, M99, H99, G99⟩ := B95
  have hin99 : ¬ ((13 : Int32) < 0 ∨ cl99.slots.size ≤ ((13 : Int32)).toNatClampNeg) := inb_of S99 ⟨by decide, by decide⟩
  obtain ⟨T100, h100, X100, e100, W100, st100⟩ := stI X95 hx hZ e95 Ar99 (j := (13 : Int32)) hin99 (g := (mkF m 80 #[iv q1, iv q2, iv q3, .unset, .unset, .unset] [(.int 8), (.int 13), (.ref b30), (.ref b30)])) rfl rfl (hb hby at_80)
  have B100 : Arv Z h100 b30 c30 .int (16 : Int32) [(.int 9), (.int 10), (.int 13), (.int 32), (.int 55295), (.int 57344), (.int 65533), (.int 65536), (.int 1114111), (.int 0), (.int 55296), (.int 57343), (.int 65534), (.int 8), (.int 0), (.int 0)] (.int 0) := Arv.set Ar99 q99 S99 M99 H99 G99 rfl W100 13 rfl (Nat.le_of_ble_eq_true rfl)
  have N100 := Fr.snoc X100 N95 g_b30
  have O_101 := O_96.wr W100 g_b30
  have K_102 := K_97.wr W100 (Or.inr sz_b30)
  have k_103 : Go p.tables e below (s₁.setTop (entryFrame m #[(.int q1), (.int q2), (.int q3)] maxLocals)) (T100.setTop (mkF m 86 #[iv q1, iv q2, iv q3, .unset, .unset, .unset] [(.int 14), (.int 14), (.ref b30), (.ref b30)])) := fun t q => by
    refine k_98 t ?_
    refine st100 _ ?_
    show Steps _ _ _ (T100.setTop (mkF m 81 #[iv q1, iv q2, iv q3, .unset, .unset, .unset] [(.ref b30)])) _
    refine XS.dup X100.here hx rfl (hb hby at_81) rfl rfl ?_
    show Steps _ _ _ (T100.setTop (mkF m 82 #[iv q1, iv q2, iv q3, .unset, .unset, .unset] [(.ref b30), (.ref b30)])) _
    refine XS.bipush X100.here hx rfl (hb hby at_82) ?_
    show Steps _ _ _ (T100.setTop (mkF m 84 #[iv q1, iv q2, iv q3, .unset, .unset, .unset] [(.int 14), (.ref b30), (.ref b30)])) _
    refine XS.bipush X100.here hx rfl (hb hby at_84) ?_
    show Steps _ _ _ (T100.setTop (mkF m 86 #[iv q1, iv q2, iv q3, .unset, .unset, .unset] [(.int 14), (.int 14), (.ref b30), (.ref b30)])) _
    exact q
  obtain ⟨cl104, Ar104, q104, S104, M104, H104, G104⟩ := B100
  have hin104 : ¬ ((14 : Int32) < 0 ∨ cl104.slots.size ≤ ((14 : Int32)).toNatClampNeg) := inb_of S104 ⟨by decide, by decide⟩
  obtain ⟨T105, h105, X105, e105, W105, st105⟩ := stI X100 hx hZ e100 Ar104 (j := (14 : Int32)) hin104 (g := (mkF m 86 #[iv q1, iv q2, iv q3, .unset, .unset, .unset] [(.int 14), (.int 14), (.ref b30), (.ref b30)])) rfl rfl (hb hby at_86)
  have B105 : Arv Z h105 b30 c30 .int (16 : Int32) [(.int 9), (.int 10), (.int 13), (.int 32), (.int 55295), (.int 57344), (.int 65533), (.int 65536), (.int 1114111), (.int 0), (.int 55296), (.int 57343), (.int 65534), (.int 8), (.int 14), (.int 0)] (.int 0) := Arv.set Ar104 q104 S104 M104 H104 G104 rfl W105 14 rfl (Nat.le_of_ble_eq_true rfl)
  have N105 := Fr.snoc X105 N100 g_b30
  have O_106 := O_101.wr W105 g_b30
  have K_107 := K_102.wr W105 (Or.inr sz_b30)
  have k_108 : Go p.tables e below (s₁.setTop (entryFrame m #[(.int q1), (.int q2), (.int q3)] maxLocals)) (T105.setTop (mkF m 92 #[iv q1, iv q2, iv q3, .unset, .unset, .unset] [(.int 31), (.int 15), (.ref b30), (.ref b30)])) := fun t q => by
    refine k_103 t ?_
    refine st105 _ ?_
    show Steps _ _ _ (T105.setTop (mkF m 87 #[iv q1, iv q2, iv q3, .unset, .unset, .unset] [(.ref b30)])) _
    refine XS.dup X105.here hx rfl (hb hby at_87) rfl rfl ?_
    show Steps _ _ _ (T105.setTop (mkF m 88 #[iv q1, iv q2, iv q3, .unset, .unset, .unset] [(.ref b30), (.ref b30)])) _
    refine XS.bipush X105.here hx rfl (hb hby at_88) ?_
    show Steps _ _ _ (T105.setTop (mkF m 90 #[iv q1, iv q2, iv q3, .unset, .unset, .unset] [(.int 15), (.ref b30), (.ref b30)])) _
    refine XS.bipush X105.here hx rfl (hb hby at_90) ?_
    show Steps _ _ _ (T105.setTop (mkF m 92 #[iv q1, iv q2, iv q3, .unset, .unset, .unset] [(.int 31), (.int 15), (.ref b30), (.ref b30)])) _
    exact q
  obtain ⟨cl109, Ar109, q109, S109, M109, H109, G109⟩ := B105
  have hin109 : ¬ ((15 : Int32) < 0 ∨ cl109.slots.size ≤ ((15 : Int32)).toNatClampNeg) := inb_of S109 ⟨by decide, by decide⟩
  obtain ⟨T110, h110, X110, e110, W110, st110⟩ := stI X105 hx hZ e105 Ar109 (j := (15 : Int32)) hin109 (g := (mkF m 92 #[iv q1, iv q2, iv q3, .unset, .unset, .unset] [(.int 31), (.int 15), (.ref b30), (.ref b30)])) rfl rfl (hb hby at_92)
  have B110 : Arv Z h110 b30 c30 .int (16 : Int32) [(.int 9), (.int 10), (.int 13), (.int 32), (.int 55295), (.int 57344), (.int 65533), (.int 65536), (.int 1114111), (.int 0), (.int 55296), (.int 57343), (.int 65534), (.int 8), (.int 14), (.int 31)] (.int 0) := Arv.set Ar109 q109 S109 M109 H109 G109 rfl W110 15 rfl (Nat.le_of_ble_eq_true rfl)
  have N110 := Fr.snoc X110 N105 g_b30
  have O_111 := O_106.wr W110 g_b30
  have K_112 := K_107.wr W110 (Or.inr sz_b30)
  have k_113 : Go p.tables e below (s₁.setTop (entryFrame m #[(.int q1), (.int q2), (.int q3)] maxLocals)) (T110.setTop (mkF m 93 #[iv q1, iv q2, iv q3, .unset, .unset, .unset] [(.ref b30)])) := fun t q => by
    refine k_108 t ?_
    refine st110 _ ?_
    show Steps _ _ _ (T110.setTop (mkF m 93 #[iv q1, iv q2, iv q3, .unset, .unset, .unset] [(.ref b30)])) _
    exact q
  rcases and_one q2 with hs | hs
  · skip
    have k_114 : Go p.tables e below (s₁.setTop (entryFrame m #[(.int q1), (.int q2), (.int q3)] maxLocals)) (T110.setTop (mkF m 129 #[iv q1, iv q2, iv q3, rv b30, iv q1, .unset] [])) := fun t q => by
      refine k_113 t ?_
      refine XS.astoreN X110.here hx rfl (hb hby at_93) rfl rfl (l' := #[iv q1, iv q2, iv q3, rv b30, .unset, .unset]) rfl ?_
      show Steps _ _ _ (T110.setTop (mkF m 94 #[iv q1, iv q2, iv q3, rv b30, .unset, .unset] [])) _
      refine XS.iloadN X110.here hx rfl (hb hby at_94) rfl ?_
      show Steps _ _ _ (T110.setTop (mkF m 95 #[iv q1, iv q2, iv q3, rv b30, .unset, .unset] [(.int q2)])) _
      refine XS.iconst X110.here hx rfl (hb hby at_95) ?_
      show Steps _ _ _ (T110.setTop (mkF m 96 #[iv q1, iv q2, iv q3, rv b30, .unset, .unset] [(.int 1), (.int q2)])) _
      refine XS.iand X110.here hx rfl (hb hby at_96) rfl ?_
      show Steps _ _ _ (T110.setTop (mkF m 97 #[iv q1, iv q2, iv q3, rv b30, .unset, .unset] [(.int (q2 &&& (1 : Int32)))])) _
      rw [hs]
      show Steps _ _ _ (T110.setTop (mkF m 97 #[iv q1, iv q2, iv q3, rv b30, .unset, .unset] [(.int 0)])) _
      refine XS.ifNo X110.here hx rfl (hb hby at_97) rfl (by decide) ?_
      show Steps _ _ _ (T110.setTop (mkF m 100 #[iv q1, iv q2, iv q3, rv b30, .unset, .unset] [])) _
      refine XS.iloadN X110.here hx rfl (hb hby at_100) rfl ?_
      show Steps _ _ _ (T110.setTop (mkF m 101 #[iv q1, iv q2, iv q3, rv b30, .unset, .unset] [(.int q1)])) _
      refine XS.istore X110.here hx rfl (hb hby at_101) rfl (l' := #[iv q1, iv q2, iv q3, rv b30, iv q1, .unset]) rfl ?_
      show Steps _ _ _ (T110.setTop (mkF m 103 #[iv q1, iv q2, iv q3, rv b30, iv q1, .unset] [])) _
      refine XS.goto X110.here hx rfl (pc0 := 103) (pc' := 129) rfl (hb hby at_103) (by decide) (by decide) ?_
      show Steps _ _ _ (T110.setTop (mkF m 129 #[iv q1, iv q2, iv q3, rv b30, iv q1, .unset] [])) _
      exact q
    rcases own_reg q1 with hr | hr | hr | hr | hr | hr | hr | hr | hr | hr | hr | hr | hr | hr
    · skip
      have k_115 : Go p.tables e below (s₁.setTop (entryFrame m #[(.int q1), (.int q2), (.int q3)] maxLocals)) (T110.setTop (mkF m 131 #[iv q1, iv q2, iv q3, rv b30, iv q1, .unset] [(.int q1)])) := fun t q => by
        refine k_114 t ?_
        refine XS.iload X110.here hx rfl (hb hby at_129) rfl ?_
        show Steps _ _ _ (T110.setTop (mkF m 131 #[iv q1, iv q2, iv q3, rv b30, iv q1, .unset] [(.int q1)])) _
        exact q
      obtain ⟨_, _, ⟨T116, L116, k116, n116⟩, -, X116, ⟨Lc116, hQ116, l116, y116, z116⟩, st116⟩ := Jvm.LawKit.callS X110 hx (y := y_0) hown (mvT hZ (hw _ (wd 10 rfl))) (mvT hZ (hw _ (wd 11 rfl))) (mvT hZ (hw _ (wd 12 rfl))) (mvT hZ (hw _ (wd 13 rfl))) (by decide) (backOf (W := 0) (ic_0 l Z a0 hw [] q1 h110 n0 O_111 hr.1 hr.2) hZ (hw _ (wd 13 rfl)) (hw _ (wd 12 rfl)) (by decide) (by decide)) (g := (mkF m 131 #[iv q1, iv q2, iv q3, rv b30, iv q1, .unset] [(.int q1)])) rfl (by rw [hml]; rfl) (argsL := [(.int q1)]) (rest := []) (lenOf pd_0 rfl) rfl (by show 2 * 0 + _ ≤ _; exact Nat.le_of_eq rfl) (hb hby at_131) (fun _ _ => ⟨rfl, e110, (by decide : 1 + 0 ≤ _), (by decide : 16 + 0 ≤ _)⟩)
      dsimp only [Pt.U, Pt.locs, Pt.cells, Pt.slots] at X116 l116 y116 z116 st116 hQ116
      subst l116 y116 z116
      obtain ⟨rfl, N116q, e116⟩ := hQ116
      have N116 := Fr.app N110 N116q
      have k_117 : Go p.tables e below (s₁.setTop (entryFrame m #[(.int q1), (.int q2), (.int q3)] maxLocals)) (T116.setTop (mkF m 136 #[iv q1, iv q2, iv q3, rv b30, iv q1, .unset] [(.int q1), (.int 0)])) := fun t q => by
        refine k_115 t ?_
        refine st116 _ ?_
        show Steps _ _ _ (T116.setTop (mkF m 134 #[iv q1, iv q2, iv q3, rv b30, iv q1, .unset] [(.int 0)])) _
        refine XS.iload X116.here hx rfl (hb hby at_134) rfl ?_
        show Steps _ _ _ (T116.setTop (mkF m 136 #[iv q1, iv q2, iv q3, rv b30, iv q1, .unset] [(.int q1), (.int 0)])) _
        exact q
      obtain ⟨_, _, ⟨T118, L118, k118, n118⟩, -, X118, ⟨Lc118, hQ118, l118, y118, z118⟩, st118⟩ := Jvm.LawKit.callS X116 hx (y := y_1) hown (mvT hZ (hw _ (wd 16 rfl))) (mvT hZ (hw _ (wd 17 rfl))) (mvT hZ (hw _ (wd 18 rfl))) (mvT hZ (hw _ (wd 19 rfl))) (by decide) (backOf (W := 1) (ex_0 l Z a0 hw [] q1 h110 n0 O_111 hr.1 hr.2) hZ (hw _ (wd 19 rfl)) (hw _ (wd 18 rfl)) (by decide) (by decide)) (g := (mkF m 136 #[iv q1, iv q2, iv q3, rv b30, iv q1, .unset] [(.int q1), (.int 0)])) rfl (by rw [hml]; rfl) (argsL := [(.int q1)]) (rest := [(.int 0)]) (lenOf pd_0 rfl) rfl (by show 2 * 0 + _ ≤ _; exact Nat.le_of_eq rfl) (hb hby at_136) (fun _ _ => ⟨rfl, e116, (by decide : 1 + 0 ≤ _), (by decide : 16 + 0 ≤ _)⟩)
      dsimp only [Pt.U, Pt.locs, Pt.cells, Pt.slots] at X118 l118 y118 z118 st118 hQ118
      subst l118 y118 z118
      obtain ⟨rfl, N118q, e118⟩ := hQ118
      have N118 := Fr.app N116 N118q
      have k_119 : Go p.tables e below (s₁.setTop (entryFrame m #[(.int q1), (.int q2), (.int q3)] maxLocals)) (T118.setTop (mkF m 147 #[iv q1, iv q2, iv q3, rv b30, iv q1, .unset] [(.int 1)])) := fun t q => by
        refine k_117 t ?_
        refine st118 _ ?_
        show Steps _ _ _ (T118.setTop (mkF m 139 #[iv q1, iv q2, iv q3, rv b30, iv q1, .unset] [(.int 0), (.int 0)])) _
        refine XS.icmpNo X118.here hx rfl (hb hby at_139) rfl (by decide) ?_
        show Steps _ _ _ (T118.setTop (mkF m 142 #[iv q1, iv q2, iv q3, rv b30, iv q1, .unset] [])) _
        refine XS.iconst X118.here hx rfl (hb hby at_142) ?_
        show Steps _ _ _ (T118.setTop (mkF m 143 #[iv q1, iv q2, iv q3, rv b30, iv q1, .unset] [(.int 1)])) _
        refine XS.goto X118.here hx rfl (pc0 := 143) (pc' := 147) rfl (hb hby at_143) (by decide) (by decide) ?_
        show Steps _ _ _ (T118.setTop (mkF m 147 #[iv q1, iv q2, iv q3, rv b30, iv q1, .unset] [(.int 1)])) _
        exact q
      obtain ⟨fs, hr, hrun, hended, hW, hsame⟩ := X118.leave (v := some (.int 1)) (fun h => by rw [Bd.returns] at h; cases h)
      refine ⟨_, _, k_119 _ ?_, hrun, hended, _, _, rfl, ?_, ⟨_, rfl⟩, hW, hsame.mono (by decide) (by decide)⟩
      · exact retN X118 hx (t := .boolean) Bd.returns (by simp) (hb hby at_147) hr
      · show Q0 n0 _ T118.heap _
        rw [e118]
        exact ⟨rfl, N118⟩
    · skip
      have k_120 : Go p.tables e below (s₁.setTop (entryFrame m #[(.int q1), (.int q2), (.int q3)] maxLocals)) (T110.setTop (mkF m 131 #[iv q1, iv q2, iv q3, rv b30, iv q1, .unset] [(.int q1)])) := fun t q => by
        refine k_114 t ?_
        refine XS.iload X110.here hx rfl (hb hby at_129) rfl ?_
        show Steps _ _ _ (T110.setTop (mkF m 131 #[iv q1, iv q2, iv q3, rv b30, iv q1, .unset] [(.int q1)])) _
        exact q
      obtain ⟨_, _, ⟨T121, L121, k121, n121⟩, -, X121, ⟨Lc121, hQ121, l121, y121, z121⟩, st121⟩ := Jvm.LawKit.callS X110 hx (y := y_0) hown (mvT hZ (hw _ (wd 10 rfl))) (mvT hZ (hw _ (wd 11 rfl))) (mvT hZ (hw _ (wd 12 rfl))) (mvT hZ (hw _ (wd 13 rfl))) (by decide) (backOf (W := 0) (ic_1 l Z a0 hw [] q1 h110 n0 O_111 hr.1 hr.2) hZ (hw _ (wd 13 rfl)) (hw _ (wd 12 rfl)) (by decide) (by decide)) (g := (mkF m 131 #[iv q1, iv q2, iv q3, rv b30, iv q1, .unset] [(.int q1)])) rfl (by rw [hml]; rfl) (argsL := [(.int q1)]) (rest := []) (lenOf pd_0 rfl) rfl (by show 2 * 0 + _ ≤ _; exact Nat.le_of_eq rfl) (hb hby at_131) (fun _ _ => ⟨rfl, e110, (by decide : 1 + 0 ≤ _), (by decide : 16 + 0 ≤ _)⟩)
      dsimp only [Pt.U, Pt.locs, Pt.cells, Pt.slots] at X121 l121 y121 z121 st121 hQ121
      subst l121 y121 z121
      obtain ⟨rfl, N121q, e121⟩ := hQ121
      have N121 := Fr.app N110 N121q
      have k_122 : Go p.tables e below (s₁.setTop (entryFrame m #[(.int q1), (.int q2), (.int q3)] maxLocals)) (T121.setTop (mkF m 136 #[iv q1, iv q2, iv q3, rv b30, iv q1, .unset] [(.int q1), (.int 0)])) := fun t q => by
        refine k_120 t ?_
        refine st121 _ ?_
        show Steps _ _ _ (T121.setTop (mkF m 134 #[iv q1, iv q2, iv q3, rv b30, iv q1, .unset] [(.int 0)])) _
        refine XS.iload X121.here hx rfl (hb hby at_134) rfl ?_
        show Steps _ _ _ (T121.setTop (mkF m 136 #[iv q1, iv q2, iv q3, rv b30, iv q1, .unset] [(.int q1), (.int 0)])) _
        exact q
      obtain ⟨_, _, ⟨T123, L123, k123, n123⟩, -, X123, ⟨Lc123, hQ123, l123, y123, z123⟩, st123⟩ := Jvm.LawKit.callS X121 hx (y := y_1) hown (mvT hZ (hw _ (wd 16 rfl))) (mvT hZ (hw _ (wd 17 rfl))) (mvT hZ (hw _ (wd 18 rfl))) (mvT hZ (hw _ (wd 19 rfl))) (by decide) (backOf (W := 1) (ex_1 l Z a0 hw [] q1 h110 n0 O_111 hr.1 hr.2) hZ (hw _ (wd 19 rfl)) (hw _ (wd 18 rfl)) (by decide) (by decide)) (g := (mkF m 136 #[iv q1, iv q2, iv q3, rv b30, iv q1, .unset] [(.int q1), (.int 0)])) rfl (by rw [hml]; rfl) (argsL := [(.int q1)]) (rest := [(.int 0)]) (lenOf pd_0 rfl) rfl (by show 2 * 0 + _ ≤ _; exact Nat.le_of_eq rfl) (hb hby at_136) (fun _ _ => ⟨rfl, e121, (by decide : 1 + 0 ≤ _), (by decide : 16 + 0 ≤ _)⟩)
      dsimp only [Pt.U, Pt.locs, Pt.cells, Pt.slots] at X123 l123 y123 z123 st123 hQ123
      subst l123 y123 z123
      obtain ⟨rfl, N123q, e123⟩ := hQ123
      have N123 := Fr.app N121 N123q
      have k_124 : Go p.tables e below (s₁.setTop (entryFrame m #[(.int q1), (.int q2), (.int q3)] maxLocals)) (T123.setTop (mkF m 147 #[iv q1, iv q2, iv q3, rv b30, iv q1, .unset] [(.int 1)])) := fun t q => by
        refine k_122 t ?_
        refine st123 _ ?_
        show Steps _ _ _ (T123.setTop (mkF m 139 #[iv q1, iv q2, iv q3, rv b30, iv q1, .unset] [(.int 0), (.int 0)])) _
        refine XS.icmpNo X123.here hx rfl (hb hby at_139) rfl (by decide) ?_
        show Steps _ _ _ (T123.setTop (mkF m 142 #[iv q1, iv q2, iv q3, rv b30, iv q1, .unset] [])) _
        refine XS.iconst X123.here hx rfl (hb hby at_142) ?_
        show Steps _ _ _ (T123.setTop (mkF m 143 #[iv q1, iv q2, iv q3, rv b30, iv q1, .unset] [(.int 1)])) _
        refine XS.goto X123.here hx rfl (pc0 := 143) (pc' := 147) rfl (hb hby at_143) (by decide) (by decide) ?_
        show Steps _ _ _ (T123.setTop (mkF m 147 #[iv q1, iv q2, iv q3, rv b30, iv q1, .unset] [(.int 1)])) _
        exact q
      obtain ⟨fs, hr, hrun, hended, hW, hsame⟩ := X123.leave (v := some (.int 1)) (fun h => by rw [Bd.returns] at h; cases h)
      refine ⟨_, _, k_124 _ ?_, hrun, hended, _, _, rfl, ?_, ⟨_, rfl⟩, hW, hsame.mono (by decide) (by decide)⟩
      · exact retN X123 hx (t := .boolean) Bd.returns (by simp) (hb hby at_147) hr
      · show Q0 n0 _ T123.heap _
        rw [e123]
        exact ⟨rfl, N123⟩
    · skip
      have k_125 : Go p.tables e below (s₁.setTop (entryFrame m #[(.int q1), (.int q2), (.int q3)] maxLocals)) (T110.setTop (mkF m 131 #[iv q1, iv q2, iv q3, rv b30, iv q1, .unset] [(.int q1)])) := fun t q => by
        refine k_114 t ?_
        refine XS.iload X110.here hx rfl (hb hby at_129) rfl ?_
        show Steps _ _ _ (T110.setTop (mkF m 131 #[iv q1, iv q2, iv q3, rv b30, iv q1, .unset] [(.int q1)])) _
        exact q
      obtain ⟨_, _, ⟨T126, L126, k126, n126⟩, -, X126, ⟨Lc126, hQ126, l126, y126, z126⟩, st126⟩ := Jvm.LawKit.callS X110 hx (y := y_0) hown (mvT hZ (hw _ (wd 10 rfl))) (mvT hZ (hw _ (wd 11 rfl))) (mvT hZ (hw _ (wd 12 rfl))) (mvT hZ (hw _ (wd 13 rfl))) (by decide) (backOf (W := 0) (ic_2 l Z a0 hw [] q1 h110 n0 O_111 hr.1 hr.2) hZ (hw _ (wd 13 rfl)) (hw _ (wd 12 rfl)) (by decide) (by decide)) (g := (mkF m 131 #[iv q1, iv q2, iv q3, rv b30, iv q1, .unset] [(.int q1)])) rfl (by rw [hml]; rfl) (argsL := [(.int q1)]) (rest := []) (lenOf pd_0 rfl) rfl (by show 2 * 0 + _ ≤ _; exact Nat.le_of_eq rfl) (hb hby at_131) (fun _ _ => ⟨rfl, e110, (by decide : 1 + 0 ≤ _), (by decide : 16 + 0 ≤ _)⟩)
      dsimp only [Pt.U, Pt.locs, Pt.cells, Pt.slots] at X126 l126 y126 z126 st126 hQ126
      subst l126 y126 z126
      obtain ⟨rfl, N126q, e126⟩ := hQ126
      have N126 := Fr.app N110 N126q
      have k_127 : Go p.tables e below (s₁.setTop (entryFrame m #[(.int q1), (.int q2), (.int q3)] maxLocals)) (T126.setTop (mkF m 136 #[iv q1, iv q2, iv q3, rv b30, iv q1, .unset] [(.int q1), (.int 1)])) := fun t q => by
        refine k_125 t ?_
        refine st126 _ ?_
        show Steps _ _ _ (T126.setTop (mkF m 134 #[iv q1, iv q2, iv q3, rv b30, iv q1, .unset] [(.int 1)])) _
        refine XS.iload X126.here hx rfl (hb hby at_134) rfl ?_
        show Steps _ _ _ (T126.setTop (mkF m 136 #[iv q1, iv q2, iv q3, rv b30, iv q1, .unset] [(.int q1), (.int 1)])) _
        exact q
      obtain ⟨_, _, ⟨T128, L128, k128, n128⟩, -, X128, ⟨Lc128, hQ128, l128, y128, z128⟩, st128⟩ := Jvm.LawKit.callS X126 hx (y := y_1) hown (mvT hZ (hw _ (wd 16 rfl))) (mvT hZ (hw _ (wd 17 rfl))) (mvT hZ (hw _ (wd 18 rfl))) (mvT hZ (hw _ (wd 19 rfl))) (by decide) (backOf (W := 1) (ex_2 l Z a0 hw [] q1 h110 n0 O_111 hr.1 hr.2) hZ (hw _ (wd 19 rfl)) (hw _ (wd 18 rfl)) (by decide) (by decide)) (g := (mkF m 136 #[iv q1, iv q2, iv q3, rv b30, iv q1, .unset] [(.int q1), (.int 1)])) rfl (by rw [hml]; rfl) (argsL := [(.int q1)]) (rest := [(.int 1)]) (lenOf pd_0 rfl) rfl (by show 2 * 0 + _ ≤ _; exact Nat.le_of_eq rfl) (hb hby at_136) (fun _ _ => ⟨rfl, e126, (by decide : 1 + 0 ≤ _), (by decide : 16 + 0 ≤ _)⟩)
      dsimp only [Pt.U, Pt.locs, Pt.cells, Pt.slots] at X128 l128 y128 z128 st128 hQ128
      subst l128 y128 z128
      obtain ⟨rfl, N128q, e128⟩ := hQ128
      have N128 := Fr.app N126 N128q
      have k_129 : Go p.tables e below (s₁.setTop (entryFrame m #[(.int q1), (.int q2), (.int q3)] maxLocals)) (T128.setTop (mkF m 147 #[iv q1, iv q2, iv q3, rv b30, iv q1, .unset] [(.int 1)])) := fun t q => by
        refine k_127 t ?_
        refine st128 _ ?_
        show Steps _ _ _ (T128.setTop (mkF m 139 #[iv q1, iv q2, iv q3, rv b30, iv q1, .unset] [(.int 1), (.int 1)])) _
        refine XS.icmpNo X128.here hx rfl (hb hby at_139) rfl (by decide) ?_
        show Steps _ _ _ (T128.setTop (mkF m 142 #[iv q1, iv q2, iv q3, rv b30, iv q1, .unset] [])) _
        refine XS.iconst X128.here hx rfl (hb hby at_142) ?_
        show Steps _ _ _ (T128.setTop (mkF m 143 #[iv q1, iv q2, iv q3, rv b30, iv q1, .unset] [(.int 1)])) _
        refine XS.goto X128.here hx rfl (pc0 := 143) (pc' := 147) rfl (hb hby at_143) (by decide) (by decide) ?_
        show Steps _ _ _ (T128.setTop (mkF m 147 #[iv q1, iv q2, iv q3, rv b30, iv q1, .unset] [(.int 1)])) _
        exact q
      obtain ⟨fs, hr, hrun, hended, hW, hsame⟩ := X128.leave (v := some (.int 1)) (fun h => by rw [Bd.returns] at h; cases h)
      refine ⟨_, _, k_129 _ ?_, hrun, hended, _, _, rfl, ?_, ⟨_, rfl⟩, hW, hsame.mono (by decide) (by decide)⟩
      · exact retN X128 hx (t := .boolean) Bd.returns (by simp) (hb hby at_147) hr
      · show Q0 n0 _ T128.heap _
        rw [e128]
        exact ⟨rfl, N128⟩
    · skip
      have k_130 : Go p.tables e below (s₁.setTop (entryFrame m #[(.int q1), (.int q2), (.int q3)] maxLocals)) (T110.setTop (mkF m 131 #[iv q1, iv q2, iv q3, rv b30, iv q1, .unset] [(.int q1)])) := fun t q => by
        refine k_114 t ?_
        refine XS.iload X110.here hx rfl (hb hby at_129) rfl ?_
        show Steps _ _ _ (T110.setTop (mkF m 131 #[iv q1, iv q2, iv q3, rv b30, iv q1, .unset] [(.int q1)])) _
        exact q
      obtain ⟨_, _, ⟨T131, L131, k131, n131⟩, -, X131, ⟨Lc131, hQ131, l131, y131, z131⟩, st131⟩ := Jvm.LawKit.callS X110 hx (y := y_0) hown (mvT hZ (hw _ (wd 10 rfl))) (mvT hZ (hw _ (wd 11 rfl))) (mvT hZ (hw _ (wd 12 rfl))) (mvT hZ (hw _ (wd 13 rfl))) (by decide) (backOf (W := 0) (ic_3 l Z a0 hw [] q1 h110 n0 O_111 hr.1 hr.2) hZ (hw _ (wd 13 rfl)) (hw _ (wd 12 rfl)) (by decide) (by decide)) (g := (mkF m 131 #[iv q1, iv q2, iv q3, rv b30, iv q1, .unset] [(.int q1)])) rfl (by rw [hml]; rfl) (argsL := [(.int q1)]) (rest := []) (lenOf pd_0 rfl) rfl (by show 2 * 0 + _ ≤ _; exact Nat.le_of_eq rfl) (hb hby at_131) (fun _ _ => ⟨rfl, e110, (by decide : 1 + 0 ≤ _), (by decide : 16 + 0 ≤ _)⟩)
      dsimp only [Pt.U, Pt.locs, Pt.cells, Pt.slots] at X131 l131 y131 z131 st131 hQ131
      subst l131 y131 z131
      obtain ⟨rfl, N131q, e131⟩ := hQ131
      have N131 := Fr.app N110 N131q
      have k_132 : Go p.tables e below (s₁.setTop (entryFrame m #[(.int q1), (.int q2), (.int q3)] maxLocals)) (T131.setTop (mkF m 136 #[iv q1, iv q2, iv q3, rv b30, iv q1, .unset] [(.int q1), (.int 1)])) := fun t q => by
        refine k_130 t ?_
        refine st131 _ ?_
        show Steps _ _ _ (T131.setTop (mkF m 134 #[iv q1, iv q2, iv q3, rv b30, iv q1, .unset] [(.int 1)])) _
        refine XS.iload X131.here hx rfl (hb hby at_134) rfl ?_
        show Steps _ _ _ (T131.setTop (mkF m 136 #[iv q1, iv q2, iv q3, rv b30, iv q1, .unset] [(.int q1), (.int 1)])) _
        exact q
      obtain ⟨_, _, ⟨T133, L133, k133, n133⟩, -, X133, ⟨Lc133, hQ133, l133, y133, z133⟩, st133⟩ := Jvm.LawKit.callS X131 hx (y := y_1) hown (mvT hZ (hw _ (wd 16 rfl))) (mvT hZ (hw _ (wd 17 rfl))) (mvT hZ (hw _ (wd 18 rfl))) (mvT hZ (hw _ (wd 19 rfl))) (by decide) (backOf (W := 1) (ex_3 l Z a0 hw [] q1 h110 n0 O_111 hr.1 hr.2) hZ (hw _ (wd 19 rfl)) (hw _ (wd 18 rfl)) (by decide) (by decide)) (g := (mkF m 136 #[iv q1, iv q2, iv q3, rv b30, iv q1, .unset] [(.int q1), (.int 1)])) rfl (by rw [hml]; rfl) (argsL := [(.int q1)]) (rest := [(.int 1)]) (lenOf pd_0 rfl) rfl (by show 2 * 0 + _ ≤ _; exact Nat.le_of_eq rfl) (hb hby at_136) (fun _ _ => ⟨rfl, e131, (by decide : 1 + 0 ≤ _), (by decide : 16 + 0 ≤ _)⟩)
      dsimp only [Pt.U, Pt.locs, Pt.cells, Pt.slots] at X133 l133 y133 z133 st133 hQ133
      subst l133 y133 z133
      obtain ⟨rfl, N133q, e133⟩ := hQ133
      have N133 := Fr.app N131 N133q
      have k_134 : Go p.tables e below (s₁.setTop (entryFrame m #[(.int q1), (.int q2), (.int q3)] maxLocals)) (T133.setTop (mkF m 147 #[iv q1, iv q2, iv q3, rv b30, iv q1, .unset] [(.int 1)])) := fun t q => by
        refine k_132 t ?_
        refine st133 _ ?_
        show Steps _ _ _ (T133.setTop (mkF m 139 #[iv q1, iv q2, iv q3, rv b30, iv q1, .unset] [(.int 1), (.int 1)])) _
        refine XS.icmpNo X133.here hx rfl (hb hby at_139) rfl (by decide) ?_
        show Steps _ _ _ (T133.setTop (mkF m 142 #[iv q1, iv q2, iv q3, rv b30, iv q1, .unset] [])) _
        refine XS.iconst X133.here hx rfl (hb hby at_142) ?_
        show Steps _ _ _ (T133.setTop (mkF m 143 #[iv q1, iv q2, iv q3, rv b30, iv q1, .unset] [(.int 1)])) _
        refine XS.goto X133.here hx rfl (pc0 := 143) (pc' := 147) rfl (hb hby at_143) (by decide) (by decide) ?_
        show Steps _ _ _ (T133.setTop (mkF m 147 #[iv q1, iv q2, iv q3, rv b30, iv q1, .unset] [(.int 1)])) _
        exact q
      obtain ⟨fs, hr, hrun, hended, hW, hsame⟩ := X133.leave (v := some (.int 1)) (fun h => by rw [Bd.returns] at h; cases h)
      refine ⟨_, _, k_134 _ ?_, hrun, hended, _, _, rfl, ?_, ⟨_, rfl⟩, hW, hsame.mono (by decide) (by decide)⟩
      · exact retN X133 hx (t := .boolean) Bd.returns (by simp) (hb hby at_147) hr
      · show Q0 n0 _ T133.heap _
        rw [e133]
        exact ⟨rfl, N133⟩
    · skip
      have k_135 : Go p.tables e below (s₁.setTop (entryFrame m #[(.int q1), (.int q2), (.int q3)] maxLocals)) (T110.setTop (mkF m 131 #[iv q1, iv q2, iv q3, rv b30, iv q1, .unset] [(.int q1)])) := fun t q => by
        refine k_114 t ?_
        refine XS.iload X110.here hx rfl (hb hby at_129) rfl ?_
        show Steps _ _ _ (T110.setTop (mkF m 131 #[iv q1, iv q2, iv q3, rv b30, iv q1, .unset] [(.int q1)])) _
        exact q
      obtain ⟨_, _, ⟨T136, L136, k136, n136⟩, -, X136, ⟨Lc136, hQ136, l136, y136, z136⟩, st136⟩ := Jvm.LawKit.callS X110 hx (y := y_0) hown (mvT hZ (hw _ (wd 10 rfl))) (mvT hZ (hw _ (wd 11 rfl))) (mvT hZ (hw _ (wd 12 rfl))) (mvT hZ (hw _ (wd 13 rfl))) (by decide) (backOf (W := 0) (ic_4 l Z a0 hw [] q1 h110 n0 O_111 hr.1 hr.2) hZ (hw _ (wd 13 rfl)) (hw _ (wd 12 rfl)) (by decide) (by decide)) (g := (mkF m 131 #[iv q1, iv q2, iv q3, rv b30, iv q1, .unset] [(.int q1)])) rfl (by rw [hml]; rfl) (argsL := [(.int q1)]) (rest := []) (lenOf pd_0 rfl) rfl (by show 2 * 0 + _ ≤ _; exact Nat.le_of_eq rfl) (hb hby at_131) (fun _ _ => ⟨rfl, e110, (by decide : 1 + 0 ≤ _), (by decide : 16 + 0 ≤ _)⟩)
      dsimp only [Pt.U, Pt.locs, Pt.cells, Pt.slots] at X136 l136 y136 z136 st136 hQ136
      subst l136 y136 z136
      obtain ⟨rfl, N136q, e136⟩ := hQ136
      have N136 := Fr.app N110 N136q
      have k_137 : Go p.tables e below (s₁.setTop (entryFrame m #[(.int q1), (.int q2), (.int q3)] maxLocals)) (T136.setTop (mkF m 136 #[iv q1, iv q2, iv q3, rv b30, iv q1, .unset] [(.int q1), (.int 0)])) := fun t q => by
        refine k_135 t ?_
        refine st136 _ ?_
        show Steps _ _ _ (T136.setTop (mkF m 134 #[iv q1, iv q2, iv q3, rv b30, iv q1, .unset] [(.int 0)])) _
        refine XS.iload X136.here hx rfl (hb hby at_134) rfl ?_
        show Steps _ _ _ (T136.setTop (mkF m 136 #[iv q1, iv q2, iv q3, rv b30, iv q1, .unset] [(.int q1), (.int 0)])) _
        exact q
      obtain ⟨_, _, ⟨T138, L138, k138, n138⟩, -, X138, ⟨Lc138, hQ138, l138, y138, z138⟩, st138⟩ := Jvm.LawKit.callS X136 hx (y := y_1) hown (mvT hZ (hw _ (wd 16 rfl))) (mvT hZ (hw _ (wd 17 rfl))) (mvT hZ (hw _ (wd 18 rfl))) (mvT hZ (hw _ (wd 19 rfl))) (by decide) (backOf (W := 1) (ex_4 l Z a0 hw [] q1 h110 n0 O_111 hr.1 hr.2) hZ (hw _ (wd 19 rfl)) (hw _ (wd 18 rfl)) (by decide) (by decide)) (g := (mkF m 136 #[iv q1, iv q2, iv q3, rv b30, iv q1, .unset] [(.int q1), (.int 0)])) rfl (by rw [hml]; rfl) (argsL := [(.int q1)]) (rest := [(.int 0)]) (lenOf pd_0 rfl) rfl (by show 2 * 0 + _ ≤ _; exact Nat.le_of_eq rfl) (hb hby at_136) (fun _ _ => ⟨rfl, e136, (by decide : 1 + 0 ≤ _), (by decide : 16 + 0 ≤ _)⟩)
      dsimp only [Pt.U, Pt.locs, Pt.cells, Pt.slots] at X138 l138 y138 z138 st138 hQ138
      subst l138 y138 z138
      obtain ⟨rfl, N138q, e138⟩ := hQ138
      have N138 := Fr.app N136 N138q
      have k_139 : Go p.tables e below (s₁.setTop (entryFrame m #[(.int q1), (.int q2), (.int q3)] maxLocals)) (T138.setTop (mkF m 147 #[iv q1, iv q2, iv q3, rv b30, iv q1, .unset] [(.int 1)])) := fun t q => by
        refine k_137 t ?_
        refine st138 _ ?_
        show Steps _ _ _ (T138.setTop (mkF m 139 #[iv q1, iv q2, iv q3, rv b30, iv q1, .unset] [(.int 0), (.int 0)])) _
        refine XS.icmpNo X138.here hx rfl (hb hby at_139) rfl (by decide) ?_
        show Steps _ _ _ (T138.setTop (mkF m 142 #[iv q1, iv q2, iv q3, rv b30, iv q1, .unset] [])) _
        refine XS.iconst X138.here hx rfl (hb hby at_142) ?_
        show Steps _ _ _ (T138.setTop (mkF m 143 #[iv q1, iv q2, iv q3, rv b30, iv q1, .unset] [(.int 1)])) _
        refine XS.goto X138.here hx rfl (pc0 := 143) (pc' := 147) rfl (hb hby at_143) (by decide) (by decide) ?_
        show Steps _ _ _ (T138.setTop (mkF m 147 #[iv q1, iv q2, iv q3, rv b30, iv q1, .unset] [(.int 1)])) _
        exact q
      obtain ⟨fs, hr, hrun, hended, hW, hsame⟩ := X138.leave (v := some (.int 1)) (fun h => by rw [Bd.returns] at h; cases h)
      refine ⟨_, _, k_139 _ ?_, hrun, hended, _, _, rfl, ?_, ⟨_, rfl⟩, hW, hsame.mono (by decide) (by decide)⟩
      · exact retN X138 hx (t := .boolean) Bd.returns (by simp) (hb hby at_147) hr
      · show Q0 n0 _ T138.heap _
        rw [e138]
        exact ⟨rfl, N138⟩
    · skip
      have k_140 : Go p.tables e below (s₁.setTop (entryFrame m #[(.int q1), (.int q2), (.int q3)] maxLocals)) (T110.setTop (mkF m 131 #[iv q1, iv q2, iv q3, rv b30, iv q1, .unset] [(.int q1)])) := fun t q => by
        refine k_114 t ?_
        refine XS.iload X110.here hx rfl (hb hby at_129) rfl ?_
        show Steps _ _ _ (T110.setTop (mkF m 131 #[iv q1, iv q2, iv q3, rv b30, iv q1, .unset] [(.int q1)])) _
        exact q
      obtain ⟨_, _, ⟨T141, L141, k141, n141⟩, -, X141, ⟨Lc141, hQ141, l141, y141, z141⟩, st141⟩ := Jvm.LawKit.callS X110 hx (y := y_0) hown (mvT hZ (hw _ (wd 10 rfl))) (mvT hZ (hw _ (wd 11 rfl))) (mvT hZ (hw _ (wd 12 rfl))) (mvT hZ (hw _ (wd 13 rfl))) (by decide) (backOf (W := 0) (ic_5 l Z a0 hw [] q1 h110 n0 O_111 hr.1 hr.2) hZ (hw _ (wd 13 rfl)) (hw _ (wd 12 rfl)) (by decide) (by decide)) (g := (mkF m 131 #[iv q1, iv q2, iv q3, rv b30, iv q1, .unset] [(.int q1)])) rfl (by rw [hml]; rfl) (argsL := [(.int q1)]) (rest := []) (lenOf pd_0 rfl) rfl (by show 2 * 0 + _ ≤ _; exact Nat.le_of_eq rfl) (hb hby at_131) (fun _ _ => ⟨rfl, e110, (by decide : 1 + 0 ≤ _), (by decide : 16 + 0 ≤ _)⟩)
      dsimp only [Pt.U, Pt.locs, Pt.cells, Pt.slots] at X141 l141 y141 z141 st141 hQ141
      subst l141 y141 z141
      obtain ⟨rfl, N141q, e141⟩ := hQ141
      have N141 := Fr.app N110 N141q
      have k_142 : Go p.tables e below (s₁.setTop (entryFrame m #[(.int q1), (.int q2), (.int q3)] maxLocals)) (T141.setTop (mkF m 136 #[iv q1, iv q2, iv q3, rv b30, iv q1, .unset] [(.int q1), (.int 1)])) := fun t q => by
        refine k_140 t ?_
        refine st141 _ ?_
        show Steps _ _ _ (T141.setTop (mkF m 134 #[iv q1, iv q2, iv q3, rv b30, iv q1, .unset] [(.int 1)])) _
        refine XS.iload X141.here hx rfl (hb hby at_134) rfl ?_
        show Steps _ _ _ (T141.setTop (mkF m 136 #[iv q1, iv q2, iv q3, rv b30, iv q1, .unset] [(.int q1), (.int 1)])) _
        exact q
      obtain ⟨_, _, ⟨T143, L143, k143, n143⟩, -, X143, ⟨Lc143, hQ143, l143, y143, z143⟩, st143⟩ := Jvm.LawKit.callS X141 hx (y := y_1) hown (mvT hZ (hw _ (wd 16 rfl))) (mvT hZ (hw _ (wd 17 rfl))) (mvT hZ (hw _ (wd 18 rfl))) (mvT hZ (hw _ (wd 19 rfl))) (by decide) (backOf (W := 1) (ex_5 l Z a0 hw [] q1 h110 n0 O_111 hr.1 hr.2) hZ (hw _ (wd 19 rfl)) (hw _ (wd 18 rfl)) (by decide) (by decide)) (g := (mkF m 136 #[iv q1, iv q2, iv q3, rv b30, iv q1, .unset] [(.int q1), (.int 1)])) rfl (by rw [hml]; rfl) (argsL := [(.int q1)]) (rest := [(.int 1)]) (lenOf pd_0 rfl) rfl (by show 2 * 0 + _ ≤ _; exact Nat.le_of_eq rfl) (hb hby at_136) (fun _ _ => ⟨rfl, e141, (by decide : 1 + 0 ≤ _), (by decide : 16 + 0 ≤ _)⟩)
      dsimp only [Pt.U, Pt.locs, Pt.cells, Pt.slots] at X143 l143 y143 z143 st143 hQ143
      subst l143 y143 z143
      obtain ⟨rfl, N143q, e143⟩ := hQ143
      have N143 := Fr.app N141 N143q
      have k_144 : Go p.tables e below (s₁.setTop (entryFrame m #[(.int q1), (.int q2), (.int q3)] maxLocals)) (T143.setTop (mkF m 147 #[iv q1, iv q2, iv q3, rv b30, iv q1, .unset] [(.int 1)])) := fun t q => by
        refine k_142 t ?_
        refine st143 _ ?_
        show Steps _ _ _ (T143.setTop (mkF m 139 #[iv q1, iv q2, iv q3, rv b30, iv q1, .unset] [(.int 1), (.int 1)])) _
        refine XS.icmpNo X143.here hx rfl (hb hby at_139) rfl (by decide) ?_
        show Steps _ _ _ (T143.setTop (mkF m 142 #[iv q1, iv q2, iv q3, rv b30, iv q1, .unset] [])) _
        refine XS.iconst X143.here hx rfl (hb hby at_142) ?_
        show Steps _ _ _ (T143.setTop (mkF m 143 #[iv q1, iv q2, iv q3, rv b30, iv q1, .unset] [(.int 1)])) _
        refine XS.goto X143.here hx rfl (pc0 := 143) (pc' := 147) rfl (hb hby at_143) (by decide) (by decide) ?_
        show Steps _ _ _ (T143.setTop (mkF m 147 #[iv q1, iv q2, iv q3, rv b30, iv q1, .unset] [(.int 1)])) _
        exact q
      obtain ⟨fs, hr, hrun, hended, hW, hsame⟩ := X143.leave (v := some (.int 1)) (fun h => by rw [Bd.returns] at h; cases h)
      refine ⟨_, _, k_144 _ ?_, hrun, hended, _, _, rfl, ?_, ⟨_, rfl⟩, hW, hsame.mono (by decide) (by decide)⟩
      · exact retN X143 hx (t := .boolean) Bd.returns (by simp) (hb hby at_147) hr
      · show Q0 n0 _ T143.heap _
        rw [e143]
        exact ⟨rfl, N143⟩
    · skip
      have k_145 : Go p.tables e below (s₁.setTop (entryFrame m #[(.int q1), (.int q2), (.int q3)] maxLocals)) (T110.setTop (mkF m 131 #[iv q1, iv q2, iv q3, rv b30, iv q1, .unset] [(.int q1)])) := fun t q => by
        refine k_114 t ?_
        refine XS.iload X110.here hx rfl (hb hby at_129) rfl ?_
        show Steps _ _ _ (T110.setTop (mkF m 131 #[iv q1, iv q2, iv q3, rv b30, iv q1, .unset] [(.int q1)])) _
        exact q
      obtain ⟨_, _, ⟨T146, L146, k146, n146⟩, -, X146, ⟨Lc146, hQ146, l146, y146, z146⟩, st146⟩ := Jvm.LawKit.callS X110 hx (y := y_0) hown (mvT hZ (hw _ (wd 10 rfl))) (mvT hZ (hw _ (wd 11 rfl))) (mvT hZ (hw _ (wd 12 rfl))) (mvT hZ (hw _ (wd 13 rfl))) (by decide) (backOf (W := 0) (ic_6 l Z a0 hw [] q1 h110 n0 O_111 hr.1 hr.2) hZ (hw _ (wd 13 rfl)) (hw _ (wd 12 rfl)) (by decide) (by decide)) (g := (mkF m 131 #[iv q1, iv q2, iv q3, rv b30, iv q1, .unset] [(.int q1)])) rfl (by rw [hml]; rfl) (argsL := [(.int q1)]) (rest := []) (lenOf pd_0 rfl) rfl (by show 2 * 0 + _ ≤ _; exact Nat.le_of_eq rfl) (hb hby at_131) (fun _ _ => ⟨rfl, e110, (by decide : 1 + 0 ≤ _), (by decide : 16 + 0 ≤ _)⟩)
      dsimp only [Pt.U, Pt.locs, Pt.cells, Pt.slots] at X146 l146 y146 z146 st146 hQ146
      subst l146 y146 z146
      obtain ⟨rfl, N146q, e146⟩ := hQ146
      have N146 := Fr.app N110 N146q
      have k_147 : Go p.tables e below (s₁.setTop (entryFrame m #[(.int q1), (.int q2), (.int q3)] maxLocals)) (T146.setTop (mkF m 136 #[iv q1, iv q2, iv q3, rv b30, iv q1, .unset] [(.int q1), (.int 0)])) := fun t q => by
        refine k_145 t ?_
        refine st146 _ ?_
        show Steps _ _ _ (T146.setTop (mkF m 134 #[iv q1, iv q2, iv q3, rv b30, iv q1, .unset] [(.int 0)])) _
        refine XS.iload X146.here hx rfl (hb hby at_134) rfl ?_
        show Steps _ _ _ (T146.setTop (mkF m 136 #[iv q1, iv q2, iv q3, rv b30, iv q1, .unset] [(.int q1), (.int 0)])) _
        exact q
      obtain ⟨_, _, ⟨T148, L148, k148, n148⟩, -, X148, ⟨Lc148, hQ148, l148, y148, z148⟩, st148⟩ := Jvm.LawKit.callS X146 hx (y := y_1) hown (mvT hZ (hw _ (wd 16 rfl))) (mvT hZ (hw _ (wd 17 rfl))) (mvT hZ (hw _ (wd 18 rfl))) (mvT hZ (hw _ (wd 19 rfl))) (by decide) (backOf (W := 1) (ex_6 l Z a0 hw [] q1 h110 n0 O_111 hr.1 hr.2) hZ (hw _ (wd 19 rfl)) (hw _ (wd 18 rfl)) (by decide) (by decide)) (g := (mkF m 136 #[iv q1, iv q2, iv q3, rv b30, iv q1, .unset] [(.int q1), (.int 0)])) rfl (by rw [hml]; rfl) (argsL := [(.int q1)]) (rest := [(.int 0)]) (lenOf pd_0 rfl) rfl (by show 2 * 0 + _ ≤ _; exact Nat.le_of_eq rfl) (hb hby at_136) (fun _ _ => ⟨rfl, e146, (by decide : 1 + 0 ≤ _), (by decide : 16 + 0 ≤ _)⟩)
      dsimp only [Pt.U, Pt.locs, Pt.cells, Pt.slots] at X148 l148 y148 z148 st148 hQ148
      subst l148 y148 z148
      obtain ⟨rfl, N148q, e148⟩ := hQ148
      have N148 := Fr.app N146 N148q
      have k_149 : Go p.tables e below (s₁.setTop (entryFrame m #[(.int q1), (.int q2), (.int q3)] maxLocals)) (T148.setTop (mkF m 147 #[iv q1, iv q2, iv q3, rv b30, iv q1, .unset] [(.int 1)])) := fun t q => by
        refine k_147 t ?_
        refine st148 _ ?_
        show Steps _ _ _ (T148.setTop (mkF m 139 #[iv q1, iv q2, iv q3, rv b30, iv q1, .unset] [(.int 0), (.int 0)])) _
        refine XS.icmpNo X148.here hx rfl (hb hby at_139) rfl (by decide) ?_
        show Steps _ _ _ (T148.setTop (mkF m 142 #[iv q1, iv q2, iv q3, rv b30, iv q1, .unset] [])) _
        refine XS.iconst X148.here hx rfl (hb hby at_142) ?_
        show Steps _ _ _ (T148.setTop (mkF m 143 #[iv q1, iv q2, iv q3, rv b30, iv q1, .unset] [(.int 1)])) _
        refine XS.goto X148.here hx rfl (pc0 := 143) (pc' := 147) rfl (hb hby at_143) (by decide) (by decide) ?_
        show Steps _ _ _ (T148.setTop (mkF m 147 #[iv q1, iv q2, iv q3, rv b30, iv q1, .unset] [(.int 1)])) _
        exact q
      obtain ⟨fs, hr, hrun, hended, hW, hsame⟩ := X148.leave (v := some (.int 1)) (fun h => by rw [Bd.returns] at h; cases h)
      refine ⟨_, _, k_149 _ ?_, hrun, hended, _, _, rfl, ?_, ⟨_, rfl⟩, hW, hsame.mono (by decide) (by decide)⟩
      · exact retN X148 hx (t := .boolean) Bd.returns (by simp) (hb hby at_147) hr
      · show Q0 n0 _ T148.heap _
        rw [e148]
        exact ⟨rfl, N148⟩
    · skip
      have k_150 : Go p.tables e below (s₁.setTop (entryFrame m #[(.int q1), (.int q2), (.int q3)] maxLocals)) (T110.setTop (mkF m 131 #[iv q1, iv q2, iv q3, rv b30, iv q1, .unset] [(.int q1)])) := fun t q => by
        refine k_114 t ?_
        refine XS.iload X110.here hx rfl (hb hby at_129) rfl ?_
        show Steps _ _ _ (T110.setTop (mkF m 131 #[iv q1, iv q2, iv q3, rv b30, iv q1, .unset] [(.int q1)])) _
        exact q
      obtain ⟨_, _, ⟨T151, L151, k151, n151⟩, -, X151, ⟨Lc151, hQ151, l151, y151, z151⟩, st151⟩ := Jvm.LawKit.callS X110 hx (y := y_0) hown (mvT hZ (hw _ (wd 10 rfl))) (mvT hZ (hw _ (wd 11 rfl))) (mvT hZ (hw _ (wd 12 rfl))) (mvT hZ (hw _ (wd 13 rfl))) (by decide) (backOf (W := 0) (ic_7 l Z a0 hw [] q1 h110 n0 O_111 hr.1 hr.2) hZ (hw _ (wd 13 rfl)) (hw _ (wd 12 rfl)) (by decide) (by decide)) (g := (mkF m 131 #[iv q1, iv q2, iv q3, rv b30, iv q1, .unset] [(.int q1)])) rfl (by rw [hml]; rfl) (argsL := [(.int q1)]) (rest := []) (lenOf pd_0 rfl) rfl (by show 2 * 0 + _ ≤ _; exact Nat.le_of_eq rfl) (hb hby at_131) (fun _ _ => ⟨rfl, e110, (by decide : 1 + 0 ≤ _), (by decide : 16 + 0 ≤ _)⟩)
      dsimp only [Pt.U, Pt.locs, Pt.cells, Pt.slots] at X151 l151 y151 z151 st151 hQ151
      subst l151 y151 z151
      obtain ⟨rfl, N151q, e151⟩ := hQ151
      have N151 := Fr.app N110 N151q
      have k_152 : Go p.tables e below (s₁.setTop (entryFrame m #[(.int q1), (.int q2), (.int q3)] maxLocals)) (T151.setTop (mkF m 136 #[iv q1, iv q2, iv q3, rv b30, iv q1, .unset] [(.int q1), (.int 1)])) := fun t q => by
        refine k_150 t ?_
        refine st151 _ ?_
        show Steps _ _ _ (T151.setTop (mkF m 134 #[iv q1, iv q2, iv q3, rv b30, iv q1, .unset] [(.int 1)])) _
        refine XS.iload X151.here hx rfl (hb hby at_134) rfl ?_
        show Steps _ _ _ (T151.setTop (mkF m 136 #[iv q1, iv q2, iv q3, rv b30, iv q1, .unset] [(.int q1), (.int 1)])) _
        exact q
      obtain ⟨_, _, ⟨T153, L153, k153, n153⟩, -, X153, ⟨Lc153, hQ153, l153, y153, z153⟩, st153⟩ := Jvm.LawKit.callS X151 hx (y := y_1) hown (mvT hZ (hw _ (wd 16 rfl))) (mvT hZ (hw _ (wd 17 rfl))) (mvT hZ (hw _ (wd 18 rfl))) (mvT hZ (hw _ (wd 19 rfl))) (by decide) (backOf (W := 1) (ex_7 l Z a0 hw [] q1 h110 n0 O_111 hr.1 hr.2) hZ (hw _ (wd 19 rfl)) (hw _ (wd 18 rfl)) (by decide) (by decide)) (g := (mkF m 136 #[iv q1, iv q2, iv q3, rv b30, iv q1, .unset] [(.int q1), (.int 1)])) rfl (by rw [hml]; rfl) (argsL := [(.int q1)]) (rest := [(.int 1)]) (lenOf pd_0 rfl) rfl (by show 2 * 0 + _ ≤ _; exact Nat.le_of_eq rfl) (hb hby at_136) (fun _ _ => ⟨rfl, e151, (by decide : 1 + 0 ≤ _), (by decide : 16 + 0 ≤ _)⟩)
      dsimp only [Pt.U, Pt.locs, Pt.cells, Pt.slots] at X153 l153 y153 z153 st153 hQ153
      subst l153 y153 z153
      obtain ⟨rfl, N153q, e153⟩ := hQ153
      have N153 := Fr.app N151 N153q
      have k_154 : Go p.tables e below (s₁.setTop (entryFrame m #[(.int q1), (.int q2), (.int q3)] maxLocals)) (T153.setTop (mkF m 147 #[iv q1, iv q2, iv q3, rv b30, iv q1, .unset] [(.int 1)])) := fun t q => by
        refine k_152 t ?_
        refine st153 _ ?_
        show Steps _ _ _ (T153.setTop (mkF m 139 #[iv q1, iv q2, iv q3, rv b30, iv q1, .unset] [(.int 1), (.int 1)])) _
        refine XS.icmpNo X153.here hx rfl (hb hby at_139) rfl (by decide) ?_
        show Steps _ _ _ (T153.setTop (mkF m 142 #[iv q1, iv q2, iv q3, rv b30, iv q1, .unset] [])) _
        refine XS.iconst X153.here hx rfl (hb hby at_142) ?_
        show Steps _ _ _ (T153.setTop (mkF m 143 #[iv q1, iv q2, iv q3, rv b30, iv q1, .unset] [(.int 1)])) _
        refine XS.goto X153.here hx rfl (pc0 := 143) (pc' := 147) rfl (hb hby at_143) (by decide) (by decide) ?_
        show Steps _ _ _ (T153.setTop (mkF m 147 #[iv q1, iv q2, iv q3, rv b30, iv q1, .unset] [(.int 1)])) _
        exact q
      obtain ⟨fs, hr, hrun, hended, hW, hsame⟩ := X153.leave (v := some (.int 1)) (fun h => by rw [Bd.returns] at h; cases h)
      refine ⟨_, _, k_154 _ ?_, hrun, hended, _, _, rfl, ?_, ⟨_, rfl⟩, hW, hsame.mono (by decide) (by decide)⟩
      · exact retN X153 hx (t := .boolean) Bd.returns (by simp) (hb hby at_147) hr
      · show Q0 n0 _ T153.heap _
        rw [e153]
        exact ⟨rfl, N153⟩
    · skip
      have k_155 : Go p.tables e below (s₁.setTop (entryFrame m #[(.int q1), (.int q2), (.int q3)] maxLocals)) (T110.setTop (mkF m 131 #[iv q1, iv q2, iv q3, rv b30, iv q1, .unset] [(.int q1)])) := fun t q => by
        refine k_114 t ?_
        refine XS.iload X110.here hx rfl (hb hby at_129) rfl ?_
        show Steps _ _ _ (T110.setTop (mkF m 131 #[iv q1, iv q2, iv q3, rv b30, iv q1, .unset] [(.int q1)])) _
        exact q
      obtain ⟨_, _, ⟨T156, L156, k156, n156⟩, -, X156, ⟨Lc156, hQ156, l156, y156, z156⟩, st156⟩ := Jvm.LawKit.callS X110 hx (y := y_0) hown (mvT hZ (hw _ (wd 10 rfl))) (mvT hZ (hw _ (wd 11 rfl))) (mvT hZ (hw _ (wd 12 rfl))) (mvT hZ (hw _ (wd 13 rfl))) (by decide) (backOf (W := 0) (ic_8 l Z a0 hw [] q1 h110 n0 O_111 hr.1 hr.2) hZ (hw _ (wd 13 rfl)) (hw _ (wd 12 rfl)) (by decide) (by decide)) (g := (mkF m 131 #[iv q1, iv q2, iv q3, rv b30, iv q1, .unset] [(.int q1)])) rfl (by rw [hml]; rfl) (argsL := [(.int q1)]) (rest := []) (lenOf pd_0 rfl) rfl (by show 2 * 0 + _ ≤ _; exact Nat.le_of_eq rfl) (hb hby at_131) (fun _ _ => ⟨rfl, e110, (by decide : 1 + 0 ≤ _), (by decide : 16 + 0 ≤ _)⟩)
      dsimp only [Pt.U, Pt.locs, Pt.cells, Pt.slots] at X156 l156 y156 z156 st156 hQ156
      subst l156 y156 z156
      obtain ⟨rfl, N156q, e156⟩ := hQ156
      have N156 := Fr.app N110 N156q
      have k_157 : Go p.tables e below (s₁.setTop (entryFrame m #[(.int q1), (.int q2), (.int q3)] maxLocals)) (T156.setTop (mkF m 136 #[iv q1, iv q2, iv q3, rv b30, iv q1, .unset] [(.int q1), (.int 0)])) := fun t q => by
        refine k_155 t ?_
        refine st156 _ ?_
        show Steps _ _ _ (T156.setTop (mkF m 134 #[iv q1, iv q2, iv q3, rv b30, iv q1, .unset] [(.int 0)])) _
        refine XS.iload X156.here hx rfl (hb hby at_134) rfl ?_
        show Steps _ _ _ (T156.setTop (mkF m 136 #[iv q1, iv q2, iv q3, rv b30, iv q1, .unset] [(.int q1), (.int 0)])) _
        exact q
      obtain ⟨_, _, ⟨T158, L158, k158, n158⟩, -, X158, ⟨Lc158, hQ158, l158, y158, z158⟩, st158⟩ := Jvm.LawKit.callS X156 hx (y := y_1) hown (mvT hZ (hw _ (wd 16 rfl))) (mvT hZ (hw _ (wd 17 rfl))) (mvT hZ (hw _ (wd 18 rfl))) (mvT hZ (hw _ (wd 19 rfl))) (by decide) (backOf (W := 1) (ex_8 l Z a0 hw [] q1 h110 n0 O_111 hr.1 hr.2) hZ (hw _ (wd 19 rfl)) (hw _ (wd 18 rfl)) (by decide) (by decide)) (g := (mkF m 136 #[iv q1, iv q2, iv q3, rv b30, iv q1, .unset] [(.int q1), (.int 0)])) rfl (by rw [hml]; rfl) (argsL := [(.int q1)]) (rest := [(.int 0)]) (lenOf pd_0 rfl) rfl (by show 2 * 0 + _ ≤ _; exact Nat.le_of_eq rfl) (hb hby at_136) (fun _ _ => ⟨rfl, e156, (by decide : 1 + 0 ≤ _), (by decide : 16 + 0 ≤ _)⟩)
      dsimp only [Pt.U, Pt.locs, Pt.cells, Pt.slots] at X158 l158 y158 z158 st158 hQ158
      subst l158 y158 z158
      obtain ⟨rfl, N158q, e158⟩ := hQ158
      have N158 := Fr.app N156 N158q
      have k_159 : Go p.tables e below (s₁.setTop (entryFrame m #[(.int q1), (.int q2), (.int q3)] maxLocals)) (T158.setTop (mkF m 147 #[iv q1, iv q2, iv q3, rv b30, iv q1, .unset] [(.int 1)])) := fun t q => by
        refine k_157 t ?_
        refine st158 _ ?_
        show Steps _ _ _ (T158.setTop (mkF m 139 #[iv q1, iv q2, iv q3, rv b30, iv q1, .unset] [(.int 0), (.int 0)])) _
        refine XS.icmpNo X158.here hx rfl (hb hby at_139) rfl (by decide) ?_
        show Steps _ _ _ (T158.setTop (mkF m 142 #[iv q1, iv q2, iv q3, rv b30, iv q1, .unset] [])) _
        refine XS.iconst X158.here hx rfl (hb hby at_142) ?_
        show Steps _ _ _ (T158.setTop (mkF m 143 #[iv q1, iv q2, iv q3, rv b30, iv q1, .unset] [(.int 1)])) _
        refine XS.goto X158.here hx rfl (pc0 := 143) (pc' := 147) rfl (hb hby at_143) (by decide) (by decide) ?_
        show Steps _ _ _ (T158.setTop (mkF m 147 #[iv q1, iv q2, iv q3, rv b30, iv q1, .unset] [(.int 1)])) _
        exact q
      obtain ⟨fs, hr, hrun, hended, hW, hsame⟩ := X158.leave (v := some (.int 1)) (fun h => by rw [Bd.returns] at h; cases h)
      refine ⟨_, _, k_159 _ ?_, hrun, hended, _, _, rfl, ?_, ⟨_, rfl⟩, hW, hsame.mono (by decide) (by decide)⟩
      · exact retN X158 hx (t := .boolean) Bd.returns (by simp) (hb hby at_147) hr
      · show Q0 n0 _ T158.heap _
        rw [e158]
        exact ⟨rfl, N158⟩
    · skip
      have k_160 : Go p.tables e below (s₁.setTop (entryFrame m #[(.int q1), (.int q2), (.int q3)] maxLocals)) (T110.setTop (mkF m 131 #[iv q1, iv q2, iv q3, rv b30, iv q1, .unset] [(.int q1)])) := fun t q => by
        refine k_114 t ?_
        refine XS.iload X110.here hx rfl (hb hby at_129) rfl ?_
        show Steps _ _ _ (T110.setTop (mkF m 131 #[iv q1, iv q2, iv q3, rv b30, iv q1, .unset] [(.int q1)])) _
        exact q
      obtain ⟨_, _, ⟨T161, L161, k161, n161⟩, -, X161, ⟨Lc161, hQ161, l161, y161, z161⟩, st161⟩ := Jvm.LawKit.callS X110 hx (y := y_0) hown (mvT hZ (hw _ (wd 10 rfl))) (mvT hZ (hw _ (wd 11 rfl))) (mvT hZ (hw _ (wd 12 rfl))) (mvT hZ (hw _ (wd 13 rfl))) (by decide) (backOf (W := 0) (ic_9 l Z a0 hw [] q1 h110 n0 O_111 hr.1 hr.2) hZ (hw _ (wd 13 rfl)) (hw _ (wd 12 rfl)) (by decide) (by decide)) (g := (mkF m 131 #[iv q1, iv q2, iv q3, rv b30, iv q1, .unset] [(.int q1)])) rfl (by rw [hml]; rfl) (argsL := [(.int q1)]) (rest := []) (lenOf pd_0 rfl) rfl (by show 2 * 0 + _ ≤ _; exact Nat.le_of_eq rfl) (hb hby at_131) (fun _ _ => ⟨rfl, e110, (by decide : 1 + 0 ≤ _), (by decide : 16 + 0 ≤ _)⟩)
      dsimp only [Pt.U, Pt.locs, Pt.cells, Pt.slots] at X161 l161 y161 z161 st161 hQ161
      subst l161 y161 z161
      obtain ⟨rfl, N161q, e161⟩ := hQ161
      have N161 := Fr.app N110 N161q
      have k_162 : Go p.tables e below (s₁.setTop (entryFrame m #[(.int q1), (.int q2), (.int q3)] maxLocals)) (T161.setTop (mkF m 136 #[iv q1, iv q2, iv q3, rv b30, iv q1, .unset] [(.int q1), (.int 1)])) := fun t q => by
        refine k_160 t ?_
        refine st161 _ ?_
        show Steps _ _ _ (T161.setTop (mkF m 134 #[iv q1, iv q2, iv q3, rv b30, iv q1, .unset] [(.int 1)])) _
        refine XS.iload X161.here hx rfl (hb hby at_134) rfl ?_
        show Steps _ _ _ (T161.setTop (mkF m 136 #[iv q1, iv q2, iv q3, rv b30, iv q1, .unset] [(.int q1), (.int 1)])) _
        exact q
      obtain ⟨_, _, ⟨T163, L163, k163, n163⟩, -, X163, ⟨Lc163, hQ163, l163, y163, z163⟩, st163⟩ := Jvm.LawKit.callS X161 hx (y := y_1) hown (mvT hZ (hw _ (wd 16 rfl))) (mvT hZ (hw _ (wd 17 rfl))) (mvT hZ (hw _ (wd 18 rfl))) (mvT hZ (hw _ (wd 19 rfl))) (by decide) (backOf (W := 1) (ex_9 l Z a0 hw [] q1 h110 n0 O_111 hr.1 hr.2) hZ (hw _ (wd 19 rfl)) (hw _ (wd 18 rfl)) (by decide) (by decide)) (g := (mkF m 136 #[iv q1, iv q2, iv q3, rv b30, iv q1, .unset] [(.int q1), (.int 1)])) rfl (by rw [hml]; rfl) (argsL := [(.int q1)]) (rest := [(.int 1)]) (lenOf pd_0 rfl) rfl (by show 2 * 0 + _ ≤ _; exact Nat.le_of_eq rfl) (hb hby at_136) (fun _ _ => ⟨rfl, e161, (by decide : 1 + 0 ≤ _), (by decide : 16 + 0 ≤ _)⟩)
      dsimp only [Pt.U, Pt.locs, Pt.cells, Pt.slots] at X163 l163 y163 z163 st163 hQ163
      subst l163 y163 z163
      obtain ⟨rfl, N163q, e163⟩ := hQ163
      have N163 := Fr.app N161 N163q
      have k_164 : Go p.tables e below (s₁.setTop (entryFrame m #[(.int q1), (.int q2), (.int q3)] maxLocals)) (T163.setTop (mkF m 147 #[iv q1, iv q2, iv q3, rv b30, iv q1, .unset] [(.int 1)])) := fun t q => by
        refine k_162 t ?_
        refine st163 _ ?_
        show Steps _ _ _ (T163.setTop (mkF m 139 #[iv q1, iv q2, iv q3, rv b30, iv q1, .unset] [(.int 1), (.int 1)])) _
        refine XS.icmpNo X163.here hx rfl (hb hby at_139) rfl (by decide) ?_
        show Steps _ _ _ (T163.setTop (mkF m 142 #[iv q1, iv q2, iv q3, rv b30, iv q1, .unset] [])) _
        refine XS.iconst X163.here hx rfl (hb hby at_142) ?_
        show Steps _ _ _ (T163.setTop (mkF m 143 #[iv q1, iv q2, iv q3, rv b30, iv q1, .unset] [(.int 1)])) _
        refine XS.goto X163.here hx rfl (pc0 := 143) (pc' := 147) rfl (hb hby at_143) (by decide) (by decide) ?_
        show Steps _ _ _ (T163.setTop (mkF m 147 #[iv q1, iv q2, iv q3, rv b30, iv q1, .unset] [(.int 1)])) _
        exact q
      obtain ⟨fs, hr, hrun, hended, hW, hsame⟩ := X163.leave (v := some (.int 1)) (fun h => by rw [Bd.returns] at h; cases h)
      refine ⟨_, _, k_164 _ ?_, hrun, hended, _, _, rfl, ?_, ⟨_, rfl⟩, hW, hsame.mono (by decide) (by decide)⟩
      · exact retN X163 hx (t := .boolean) Bd.returns (by simp) (hb hby at_147) hr
      · show Q0 n0 _ T163.heap _
        rw [e163]
        exact ⟨rfl, N163⟩
    · skip
      have k_165 : Go p.tables e below (s₁.setTop (entryFrame m #[(.int q1), (.int q2), (.int q3)] maxLocals)) (T110.setTop (mkF m 131 #[iv q1, iv q2, iv q3, rv b30, iv q1, .unset] [(.int q1)])) := fun t q => by
        refine k_114 t ?_
        refine XS.iload X110.here hx rfl (hb hby at_129) rfl ?_
        show Steps _ _ _ (T110.setTop (mkF m 131 #[iv q1, iv q2, iv q3, rv b30, iv q1, .unset] [(.int q1)])) _
        exact q
      obtain ⟨_, _, ⟨T166, L166, k166, n166⟩, -, X166, ⟨Lc166, hQ166, l166, y166, z166⟩, st166⟩ := Jvm.LawKit.callS X110 hx (y := y_0) hown (mvT hZ (hw _ (wd 10 rfl))) (mvT hZ (hw _ (wd 11 rfl))) (mvT hZ (hw _ (wd 12 rfl))) (mvT hZ (hw _ (wd 13 rfl))) (by decide) (backOf (W := 0) (ic_10 l Z a0 hw [] q1 h110 n0 O_111 hr.1 hr.2) hZ (hw _ (wd 13 rfl)) (hw _ (wd 12 rfl)) (by decide) (by decide)) (g := (mkF m 131 #[iv q1, iv q2, iv q3, rv b30, iv q1, .unset] [(.int q1)])) rfl (by rw [hml]; rfl) (argsL := [(.int q1)]) (rest := []) (lenOf pd_0 rfl) rfl (by show 2 * 0 + _ ≤ _; exact Nat.le_of_eq rfl) (hb hby at_131) (fun _ _ => ⟨rfl, e110, (by decide : 1 + 0 ≤ _), (by decide : 16 + 0 ≤ _)⟩)
      dsimp only [Pt.U, Pt.locs, Pt.cells, Pt.slots] at X166 l166 y166 z166 st166 hQ166
      subst l166 y166 z166
      obtain ⟨rfl, N166q, e166⟩ := hQ166
      have N166 := Fr.app N110 N166q
      have k_167 : Go p.tables e below (s₁.setTop (entryFrame m #[(.int q1), (.int q2), (.int q3)] maxLocals)) (T166.setTop (mkF m 136 #[iv q1, iv q2, iv q3, rv b30, iv q1, .unset] [(.int q1), (.int 0)])) := fun t q => by
        refine k_165 t ?_
        refine st166 _ ?_
        show Steps _ _ _ (T166.setTop (mkF m 134 #[iv q1, iv q2, iv q3, rv b30, iv q1, .unset] [(.int 0)])) _
        refine XS.iload X166.here hx rfl (hb hby at_134) rfl ?_
        show Steps _ _ _ (T166.setTop (mkF m 136 #[iv q1, iv q2, iv q3, rv b30, iv q1, .unset] [(.int q1), (.int 0)])) _
        exact q
      obtain ⟨_, _, ⟨T168, L168, k168, n168⟩, -, X168, ⟨Lc168, hQ168, l168, y168, z168⟩, st168⟩ := Jvm.LawKit.callS X166 hx (y := y_1) hown (mvT hZ (hw _ (wd 16 rfl))) (mvT hZ (hw _ (wd 17 rfl))) (mvT hZ (hw _ (wd 18 rfl))) (mvT hZ (hw _ (wd 19 rfl))) (by decide) (backOf (W := 1) (ex_10 l Z a0 hw [] q1 h110 n0 O_111 hr.1 hr.2) hZ (hw _ (wd 19 rfl)) (hw _ (wd 18 rfl)) (by decide) (by decide)) (g := (mkF m 136 #[iv q1, iv q2, iv q3, rv b30, iv q1, .unset] [(.int q1), (.int 0)])) rfl (by rw [hml]; rfl) (argsL := [(.int q1)]) (rest := [(.int 0)]) (lenOf pd_0 rfl) rfl (by show 2 * 0 + _ ≤ _; exact Nat.le_of_eq rfl) (hb hby at_136) (fun _ _ => ⟨rfl, e166, (by decide : 1 + 0 ≤ _), (by decide : 16 + 0 ≤ _)⟩)
      dsimp only [Pt.U, Pt.locs, Pt.cells, Pt.slots] at X168 l168 y168 z168 st168 hQ168
      subst l168 y168 z168
      obtain ⟨rfl, N168q, e168⟩ := hQ168
      have N168 := Fr.app N166 N168q
      have k_169 : Go p.tables e below (s₁.setTop (entryFrame m #[(.int q1), (.int q2), (.int q3)] maxLocals)) (T168.setTop (mkF m 147 #[iv q1, iv q2, iv q3, rv b30, iv q1, .unset] [(.int 1)])) := fun t q => by
        refine k_167 t ?_
        refine st168 _ ?_
        show Steps _ _ _ (T168.setTop (mkF m 139 #[iv q1, iv q2, iv q3, rv b30, iv q1, .unset] [(.int 0), (.int 0)])) _
        refine XS.icmpNo X168.here hx rfl (hb hby at_139) rfl (by decide) ?_
        show Steps _ _ _ (T168.setTop (mkF m 142 #[iv q1, iv q2, iv q3, rv b30, iv q1, .unset] [])) _
        refine XS.iconst X168.here hx rfl (hb hby at_142) ?_
        show Steps _ _ _ (T168.setTop (mkF m 143 #[iv q1, iv q2, iv q3, rv b30, iv q1, .unset] [(.int 1)])) _
        refine XS.goto X168.here hx rfl (pc0 := 143) (pc' := 147) rfl (hb hby at_143) (by decide) (by decide) ?_
        show Steps _ _ _ (T168.setTop (mkF m 147 #[iv q1, iv q2, iv q3, rv b30, iv q1, .unset] [(.int 1)])) _
        exact q
      obtain ⟨fs, hr, hrun, hended, hW, hsame⟩ := X168.leave (v := some (.int 1)) (fun h => by rw [Bd.returns] at h; cases h)
      refine ⟨_, _, k_169 _ ?_, hrun, hended, _, _, rfl, ?_, ⟨_, rfl⟩, hW, hsame.mono (by decide) (by decide)⟩
      · exact retN X168 hx (t := .boolean) Bd.returns (by simp) (hb hby at_147) hr
      · show Q0 n0 _ T168.heap _
        rw [e168]
        exact ⟨rfl, N168⟩
    · skip
      have k_170 : Go p.tables e below (s₁.setTop (entryFrame m #[(.int q1), (.int q2), (.int q3)] maxLocals)) (T110.setTop (mkF m 131 #[iv q1, iv q2, iv q3, rv b30, iv q1, .unset] [(.int q1)])) := fun t q => by
        refine k_114 t ?_
        refine XS.iload X110.here hx rfl (hb hby at_129) rfl ?_
        show Steps _ _ _ (T110.setTop (mkF m 131 #[iv q1, iv q2, iv q3, rv b30, iv q1, .unset] [(.int q1)])) _
        exact q
      obtain ⟨_, _, ⟨T171, L171, k171, n171⟩, -, X171, ⟨Lc171, hQ171, l171, y171, z171⟩, st171⟩ := Jvm.LawKit.callS X110 hx (y := y_0) hown (mvT hZ (hw _ (wd 10 rfl))) (mvT hZ (hw _ (wd 11 rfl))) (mvT hZ (hw _ (wd 12 rfl))) (mvT hZ (hw _ (wd 13 rfl))) (by decide) (backOf (W := 0) (ic_11 l Z a0 hw [] q1 h110 n0 O_111 hr.1 hr.2) hZ (hw _ (wd 13 rfl)) (hw _ (wd 12 rfl)) (by decide) (by decide)) (g := (mkF m 131 #[iv q1, iv q2, iv q3, rv b30, iv q1, .unset] [(.int q1)])) rfl (by rw [hml]; rfl) (argsL := [(.int q1)]) (rest := []) (lenOf pd_0 rfl) rfl (by show 2 * 0 + _ ≤ _; exact Nat.le_of_eq rfl) (hb hby at_131) (fun _ _ => ⟨rfl, e110, (by decide : 1 + 0 ≤ _), (by decide : 16 + 0 ≤ _)⟩)
      dsimp only [Pt.U, Pt.locs, Pt.cells, Pt.slots] at X171 l171 y171 z171 st171 hQ171
      subst l171 y171 z171
      obtain ⟨rfl, N171q, e171⟩ := hQ171
      have N171 := Fr.app N110 N171q
      have k_172 : Go p.tables e below (s₁.setTop (entryFrame m #[(.int q1), (.int q2), (.int q3)] maxLocals)) (T171.setTop (mkF m 136 #[iv q1, iv q2, iv q3, rv b30, iv q1, .unset] [(.int q1), (.int 0)])) := fun t q => by
        refine k_170 t ?_
        refine st171 _ ?_
        show Steps _ _ _ (T171.setTop (mkF m 134 #[iv q1, iv q2, iv q3, rv b30, iv q1, .unset] [(.int 0)])) _
        refine XS.iload X171.here hx rfl (hb hby at_134) rfl ?_
        show Steps _ _ _ (T171.setTop (mkF m 136 #[iv q1, iv q2, iv q3, rv b30, iv q1, .unset] [(.int q1), (.int 0)])) _
        exact q
      obtain ⟨_, _, ⟨T173, L173, k173, n173⟩, -, X173, ⟨Lc173, hQ173, l173, y173, z173⟩, st173⟩ := Jvm.LawKit.callS X171 hx (y := y_1) hown (mvT hZ (hw _ (wd 16 rfl))) (mvT hZ (hw _ (wd 17 rfl))) (mvT hZ (hw _ (wd 18 rfl))) (mvT hZ (hw _ (wd 19 rfl))) (by decide) (backOf (W := 1) (ex_11 l Z a0 hw [] q1 h110 n0 O_111 hr.1 hr.2) hZ (hw _ (wd 19 rfl)) (hw _ (wd 18 rfl)) (by decide) (by decide)) (g := (mkF m 136 #[iv q1, iv q2, iv q3, rv b30, iv q1, .unset] [(.int q1), (.int 0)])) rfl (by rw [hml]; rfl) (argsL := [(.int q1)]) (rest := [(.int 0)]) (lenOf pd_0 rfl) rfl (by show 2 * 0 + _ ≤ _; exact Nat.le_of_eq rfl) (hb hby at_136) (fun _ _ => ⟨rfl, e171, (by decide : 1 + 0 ≤ _), (by decide : 16 + 0 ≤ _)⟩)
      dsimp only [Pt.U, Pt.locs, Pt.cells, Pt.slots] at X173 l173 y173 z173 st173 hQ173
      subst l173 y173 z173
      obtain ⟨rfl, N173q, e173⟩ := hQ173
      have N173 := Fr.app N171 N173q
      have k_174 : Go p.tables e below (s₁.setTop (entryFrame m #[(.int q1), (.int q2), (.int q3)] maxLocals)) (T173.setTop (mkF m 147 #[iv q1, iv q2, iv q3, rv b30, iv q1, .unset] [(.int 1)])) := fun t q => by
        refine k_172 t ?_
        refine st173 _ ?_
        show Steps _ _ _ (T173.setTop (mkF m 139 #[iv q1, iv q2, iv q3, rv b30, iv q1, .unset] [(.int 0), (.int 0)])) _
        refine XS.icmpNo X173.here hx rfl (hb hby at_139) rfl (by decide) ?_
        show Steps _ _ _ (T173.setTop (mkF m 142 #[iv q1, iv q2, iv q3, rv b30, iv q1, .unset] [])) _
        refine XS.iconst X173.here hx rfl (hb hby at_142) ?_
        show Steps _ _ _ (T173.setTop (mkF m 143 #[iv q1, iv q2, iv q3, rv b30, iv q1, .unset] [(.int 1)])) _
        refine XS.goto X173.here hx rfl (pc0 := 143) (pc' := 147) rfl (hb hby at_143) (by decide) (by decide) ?_
        show Steps _ _ _ (T173.setTop (mkF m 147 #[iv q1, iv q2, iv q3, rv b30, iv q1, .unset] [(.int 1)])) _
        exact q
      obtain ⟨fs, hr, hrun, hended, hW, hsame⟩ := X173.leave (v := some (.int 1)) (fun h => by rw [Bd.returns] at h; cases h)
      refine ⟨_, _, k_174 _ ?_, hrun, hended, _, _, rfl, ?_, ⟨_, rfl⟩, hW, hsame.mono (by decide) (by decide)⟩
      · exact retN X173 hx (t := .boolean) Bd.returns (by simp) (hb hby at_147) hr
      · show Q0 n0 _ T173.heap _
        rw [e173]
        exact ⟨rfl, N173⟩
    · skip
      have k_175 : Go p.tables e below (s₁.setTop (entryFrame m #[(.int q1), (.int q2), (.int q3)] maxLocals)) (T110.setTop (mkF m 131 #[iv q1, iv q2, iv q3, rv b30, iv q1, .unset] [(.int q1)])) := fun t q => by
        refine k_114 t ?_
        refine XS.iload X110.here hx rfl (hb hby at_129) rfl ?_
        show Steps _ _ _ (T110.setTop (mkF m 131 #[iv q1, iv q2, iv q3, rv b30, iv q1, .unset] [(.int q1)])) _
        exact q
      obtain ⟨_, _, ⟨T176, L176, k176, n176⟩, -, X176, ⟨Lc176, hQ176, l176, y176, z176⟩, st176⟩ := Jvm.LawKit.callS X110 hx (y := y_0) hown (mvT hZ (hw _ (wd 10 rfl))) (mvT hZ (hw _ (wd 11 rfl))) (mvT hZ (hw _ (wd 12 rfl))) (mvT hZ (hw _ (wd 13 rfl))) (by decide) (backOf (W := 0) (ic_12 l Z a0 hw [] q1 h110 n0 O_111 hr.1 hr.2) hZ (hw _ (wd 13 rfl)) (hw _ (wd 12 rfl)) (by decide) (by decide)) (g := (mkF m 131 #[iv q1, iv q2, iv q3, rv b30, iv q1, .unset] [(.int q1)])) rfl (by rw [hml]; rfl) (argsL := [(.int q1)]) (rest := []) (lenOf pd_0 rfl) rfl (by show 2 * 0 + _ ≤ _; exact Nat.le_of_eq rfl) (hb hby at_131) (fun _ _ => ⟨rfl, e110, (by decide : 1 + 0 ≤ _), (by decide : 16 + 0 ≤ _)⟩)
      dsimp only [Pt.U, Pt.locs, Pt.cells, Pt.slots] at X176 l176 y176 z176 st176 hQ176
      subst l176 y176 z176
      obtain ⟨rfl, N176q, e176⟩ := hQ176
      have N176 := Fr.app N110 N176q
      have k_177 : Go p.tables e below (s₁.setTop (entryFrame m #[(.int q1), (.int q2), (.int q3)] maxLocals)) (T176.setTop (mkF m 136 #[iv q1, iv q2, iv q3, rv b30, iv q1, .unset] [(.int q1), (.int 1)])) := fun t q => by
        refine k_175 t ?_
        refine st176 _ ?_
        show Steps _ _ _ (T176.setTop (mkF m 134 #[iv q1, iv q2, iv q3, rv b30, iv q1, .unset] [(.int 1)])) _
        refine XS.iload X176.here hx rfl (hb hby at_134) rfl ?_
        show Steps _ _ _ (T176.setTop (mkF m 136 #[iv q1, iv q2, iv q3, rv b30, iv q1, .unset] [(.int q1), (.int 1)])) _
        exact q
      obtain ⟨_, _, ⟨T178, L178, k178, n178⟩, -, X178, ⟨Lc178, hQ178, l178, y178, z178⟩, st178⟩ := Jvm.LawKit.callS X176 hx (y := y_1) hown (mvT hZ (hw _ (wd 16 rfl))) (mvT hZ (hw _ (wd 17 rfl))) (mvT hZ (hw _ (wd 18 rfl))) (mvT hZ (hw _ (wd 19 rfl))) (by decide) (backOf (W := 1) (ex_12 l Z a0 hw [] q1 h110 n0 O_111 hr.1 hr.2) hZ (hw _ (wd 19 rfl)) (hw _ (wd 18 rfl)) (by decide) (by decide)) (g := (mkF m 136 #[iv q1, iv q2, iv q3, rv b30, iv q1, .unset] [(.int q1), (.int 1)])) rfl (by rw [hml]; rfl) (argsL := [(.int q1)]) (rest := [(.int 1)]) (lenOf pd_0 rfl) rfl (by show 2 * 0 + _ ≤ _; exact Nat.le_of_eq rfl) (hb hby at_136) (fun _ _ => ⟨rfl, e176, (by decide : 1 + 0 ≤ _), (by decide : 16 + 0 ≤ _)⟩)
      dsimp only [Pt.U, Pt.locs, Pt.cells, Pt.slots] at X178 l178 y178 z178 st178 hQ178
      subst l178 y178 z178
      obtain ⟨rfl, N178q, e178⟩ := hQ178
      have N178 := Fr.app N176 N178q
      have k_179 : Go p.tables e below (s₁.setTop (entryFrame m #[(.int q1), (.int q2), (.int q3)] maxLocals)) (T178.setTop (mkF m 147 #[iv q1, iv q2, iv q3, rv b30, iv q1, .unset] [(.int 1)])) := fun t q => by
        refine k_177 t ?_
        refine st178 _ ?_
        show Steps _ _ _ (T178.setTop (mkF m 139 #[iv q1, iv q2, iv q3, rv b30, iv q1, .unset] [(.int 1), (.int 1)])) _
        refine XS.icmpNo X178.here hx rfl (hb hby at_139) rfl (by decide) ?_
        show Steps _ _ _ (T178.setTop (mkF m 142 #[iv q1, iv q2, iv q3, rv b30, iv q1, .unset] [])) _
        refine XS.iconst X178.here hx rfl (hb hby at_142) ?_
        show Steps _ _ _ (T178.setTop (mkF m 143 #[iv q1, iv q2, iv q3, rv b30, iv q1, .unset] [(.int 1)])) _
        refine XS.goto X178.here hx rfl (pc0 := 143) (pc' := 147) rfl (hb hby at_143) (by decide) (by decide) ?_
        show Steps _ _ _ (T178.setTop (mkF m 147 #[iv q1, iv q2, iv q3, rv b30, iv q1, .unset] [(.int 1)])) _
        exact q
      obtain ⟨fs, hr, hrun, hended, hW, hsame⟩ := X178.leave (v := some (.int 1)) (fun h => by rw [Bd.returns] at h; cases h)
      refine ⟨_, _, k_179 _ ?_, hrun, hended, _, _, rfl, ?_, ⟨_, rfl⟩, hW, hsame.mono (by decide) (by decide)⟩
      · exact retN X178 hx (t := .boolean) Bd.returns (by simp) (hb hby at_147) hr
      · show Q0 n0 _ T178.heap _
        rw [e178]
        exact ⟨rfl, N178⟩
    · skip
      have k_180 : Go p.tables e below (s₁.setTop (entryFrame m #[(.int q1), (.int q2), (.int q3)] maxLocals)) (T110.setTop (mkF m 131 #[iv q1, iv q2, iv q3, rv b30, iv q1, .unset] [(.int q1)])) := fun t q => by
        refine k_114 t ?_
        refine XS.iload X110.here hx rfl (hb hby at_129) rfl ?_
        show Steps _ _ _ (T110.setTop (mkF m 131 #[iv q1, iv q2, iv q3, rv b30, iv q1, .unset] [(.int q1)])) _
        exact q
      obtain ⟨_, _, ⟨T181, L181, k181, n181⟩, -, X181, ⟨Lc181, hQ181, l181, y181, z181⟩, st181⟩ := Jvm.LawKit.callS X110 hx (y := y_0) hown (mvT hZ (hw _ (wd 10 rfl))) (mvT hZ (hw _ (wd 11 rfl))) (mvT hZ (hw _ (wd 12 rfl))) (mvT hZ (hw _ (wd 13 rfl))) (by decide) (backOf (W := 0) (ic_13 l Z a0 hw [] q1 h110 n0 O_111 hr.1 hr.2) hZ (hw _ (wd 13 rfl)) (hw _ (wd 12 rfl)) (by decide) (by decide)) (g := (mkF m 131 #[iv q1, iv q2, iv q3, rv b30, iv q1, .unset] [(.int q1)])) rfl (by rw [hml]; rfl) (argsL := [(.int q1)]) (rest := []) (lenOf pd_0 rfl) rfl (by show 2 * 0 + _ ≤ _; exact Nat.le_of_eq rfl) (hb hby at_131) (fun _ _ => ⟨rfl, e110, (by decide : 1 + 0 ≤ _), (by decide : 16 + 0 ≤ _)⟩)
      dsimp only [Pt.U, Pt.locs, Pt.cells, Pt.slots] at X181 l181 y181 z181 st181 hQ181
      subst l181 y181 z181
      obtain ⟨rfl, N181q, e181⟩ := hQ181
      have N181 := Fr.app N110 N181q
      have k_182 : Go p.tables e below (s₁.setTop (entryFrame m #[(.int q1), (.int q2), (.int q3)] maxLocals)) (T181.setTop (mkF m 136 #[iv q1, iv q2, iv q3, rv b30, iv q1, .unset] [(.int q1), (.int 0)])) := fun t q => by
        refine k_180 t ?_
        refine st181 _ ?_
        show Steps _ _ _ (T181.setTop (mkF m 134 #[iv q1, iv q2, iv q3, rv b30, iv q1, .unset] [(.int 0)])) _
        refine XS.iload X181.here hx rfl (hb hby at_134) rfl ?_
        show Steps _ _ _ (T181.setTop (mkF m 136 #[iv q1, iv q2, iv q3, rv b30, iv q1, .unset] [(.int q1), (.int 0)])) _
        exact q
      obtain ⟨_, _, ⟨T183, L183, k183, n183⟩, -, X183, ⟨Lc183, hQ183, l183, y183, z183⟩, st183⟩ := Jvm.LawKit.callS X181 hx (y := y_1) hown (mvT hZ (hw _ (wd 16 rfl))) (mvT hZ (hw _ (wd 17 rfl))) (mvT hZ (hw _ (wd 18 rfl))) (mvT hZ (hw _ (wd 19 rfl))) (by decide) (backOf (W := 1) (ex_13 l Z a0 hw [] q1 h110 n0 O_111 hr.1 hr.2) hZ (hw _ (wd 19 rfl)) (hw _ (wd 18 rfl)) (by decide) (by decide)) (g := (mkF m 136 #[iv q1, iv q2, iv q3, rv b30, iv q1, .unset] [(.int q1), (.int 0)])) rfl (by rw [hml]; rfl) (argsL := [(.int q1)]) (rest := [(.int 0)]) (lenOf pd_0 rfl) rfl (by show 2 * 0 + _ ≤ _; exact Nat.le_of_eq rfl) (hb hby at_136) (fun _ _ => ⟨rfl, e181, (by decide : 1 + 0 ≤ _), (by decide : 16 + 0 ≤ _)⟩)
      dsimp only [Pt.U, Pt.locs, Pt.cells, Pt.slots] at X183 l183 y183 z183 st183 hQ183
      subst l183 y183 z183
      obtain ⟨rfl, N183q, e183⟩ := hQ183
      have N183 := Fr.app N181 N183q
      have k_184 : Go p.tables e below (s₁.setTop (entryFrame m #[(.int q1), (.int q2), (.int q3)] maxLocals)) (T183.setTop (mkF m 147 #[iv q1, iv q2, iv q3, rv b30, iv q1, .unset] [(.int 1)])) := fun t q => by
        refine k_182 t ?_
        refine st183 _ ?_
        show Steps _ _ _ (T183.setTop (mkF m 139 #[iv q1, iv q2, iv q3, rv b30, iv q1, .unset] [(.int 0), (.int 0)])) _
        refine XS.icmpNo X183.here hx rfl (hb hby at_139) rfl (by decide) ?_
        show Steps _ _ _ (T183.setTop (mkF m 142 #[iv q1, iv q2, iv q3, rv b30, iv q1, .unset] [])) _
        refine XS.iconst X183.here hx rfl (hb hby at_142) ?_
        show Steps _ _ _ (T183.setTop (mkF m 143 #[iv q1, iv q2, iv q3, rv b30, iv q1, .unset] [(.int 1)])) _
        refine XS.goto X183.here hx rfl (pc0 := 143) (pc' := 147) rfl (hb hby at_143) (by decide) (by decide) ?_
        show Steps _ _ _ (T183.setTop (mkF m 147 #[iv q1, iv q2, iv q3, rv b30, iv q1, .unset] [(.int 1)])) _
        exact q
      obtain ⟨fs, hr, hrun, hended, hW, hsame⟩ := X183.leave (v := some (.int 1)) (fun h => by rw [Bd.returns] at h; cases h)
      refine ⟨_, _, k_184 _ ?_, hrun, hended, _, _, rfl, ?_, ⟨_, rfl⟩, hW, hsame.mono (by decide) (by decide)⟩
      · exact retN X183 hx (t := .boolean) Bd.returns (by simp) (hb hby at_147) hr
      · show Q0 n0 _ T183.heap _
        rw [e183]
        exact ⟨rfl, N183⟩
  · skip
    have k_185 : Go p.tables e below (s₁.setTop (entryFrame m #[(.int q1), (.int q2), (.int q3)] maxLocals)) (T110.setTop (mkF m 123 #[iv q1, iv q2, iv q3, rv b30, .unset, .val (.int (((q3 &&& (2147483647 : Int32)) % (3 : Int32)) - (1 : Int32)))] [(.int (((q2.toUInt32 >>> ((1 : Int32) &&& 31).toUInt32).toInt32) &&& (15 : Int32))), (.ref b30)])) := fun t q => by
      refine k_113 t ?_
      refine XS.astoreN X110.here hx rfl (hb hby at_93) rfl rfl (l' := #[iv q1, iv q2, iv q3, rv b30, .unset, .unset]) rfl ?_
      show Steps _ _ _ (T110.setTop (mkF m 94 #[iv q1, iv q2, iv q3, rv b30, .unset, .unset] [])) _
      refine XS.iloadN X110.here hx rfl (hb hby at_94) rfl ?_
      show Steps _ _ _ (T110.setTop (mkF m 95 #[iv q1, iv q2, iv q3, rv b30, .unset, .unset] [(.int q2)])) _
      refine XS.iconst X110.here hx rfl (hb hby at_95) ?_
      show Steps _ _ _ (T110.setTop (mkF m 96 #[iv q1, iv q2, iv q3, rv b30, .unset, .unset] [(.int 1), (.int q2)])) _
      refine XS.iand X110.here hx rfl (hb hby at_96) rfl ?_
      show Steps _ _ _ (T110.setTop (mkF m 97 #[iv q1, iv q2, iv q3, rv b30, .unset, .unset] [(.int (q2 &&& (1 : Int32)))])) _
      rw [hs]
      show Steps _ _ _ (T110.setTop (mkF m 97 #[iv q1, iv q2, iv q3, rv b30, .unset, .unset] [(.int 1)])) _
      refine XS.ifYes X110.here hx rfl (pc0 := 97) (pc' := 106) rfl (hb hby at_97) rfl (by decide) (by decide) (by decide) ?_
      show Steps _ _ _ (T110.setTop (mkF m 106 #[iv q1, iv q2, iv q3, rv b30, .unset, .unset] [])) _
      refine XS.iloadN X110.here hx rfl (hb hby at_106) rfl ?_
      show Steps _ _ _ (T110.setTop (mkF m 107 #[iv q1, iv q2, iv q3, rv b30, .unset, .unset] [(.int q3)])) _
      refine X110.ldcInt hx hown (mvT hZ (hw _ (wd 9 rfl))) (g := (mkF m 107 #[iv q1, iv q2, iv q3, rv b30, .unset, .unset] [(.int q3)])) rfl (hb hby at_107) _ ?_
      show Steps _ _ _ (T110.setTop (mkF m 109 #[iv q1, iv q2, iv q3, rv b30, .unset, .unset] [(.int 2147483647), (.int q3)])) _
      refine XS.iand X110.here hx rfl (hb hby at_109) rfl ?_
      show Steps _ _ _ (T110.setTop (mkF m 110 #[iv q1, iv q2, iv q3, rv b30, .unset, .unset] [(.int (q3 &&& (2147483647 : Int32)))])) _
      refine XS.iconst X110.here hx rfl (hb hby at_110) ?_
      show Steps _ _ _ (T110.setTop (mkF m 111 #[iv q1, iv q2, iv q3, rv b30, .unset, .unset] [(.int 3), (.int (q3 &&& (2147483647 : Int32)))])) _
      refine iremM (g := (mkF m 111 #[iv q1, iv q2, iv q3, rv b30, .unset, .unset] [(.int 3), (.int (q3 &&& (2147483647 : Int32)))])) X110 hx rfl (hb hby at_111) rfl (by decide) ?_
      show Steps _ _ _ (T110.setTop (mkF m 112 #[iv q1, iv q2, iv q3, rv b30, .unset, .unset] [(.int ((q3 &&& (2147483647 : Int32)) % (3 : Int32)))])) _
      refine XS.iconst X110.here hx rfl (hb hby at_112) ?_
      show Steps _ _ _ (T110.setTop (mkF m 113 #[iv q1, iv q2, iv q3, rv b30, .unset, .unset] [(.int 1), (.int ((q3 &&& (2147483647 : Int32)) % (3 : Int32)))])) _
      refine XS.isub X110.here hx rfl (hb hby at_113) rfl ?_
      show Steps _ _ _ (T110.setTop (mkF m 114 #[iv q1, iv q2, iv q3, rv b30, .unset, .unset] [(.int (((q3 &&& (2147483647 : Int32)) % (3 : Int32)) - (1 : Int32)))])) _
      refine XS.istore X110.here hx rfl (hb hby at_114) rfl (l' := #[iv q1, iv q2, iv q3, rv b30, .unset, .val (.int (((q3 &&& (2147483647 : Int32)) % (3 : Int32)) - (1 : Int32)))]) rfl ?_
      show Steps _ _ _ (T110.setTop (mkF m 116 #[iv q1, iv q2, iv q3, rv b30, .unset, .val (.int (((q3 &&& (2147483647 : Int32)) % (3 : Int32)) - (1 : Int32)))] [])) _
      refine XS.aloadN X110.here hx rfl (hb hby at_116) rfl rfl ?_
      show Steps _ _ _ (T110.setTop (mkF m 117 #[iv q1, iv q2, iv q3, rv b30, .unset, .val (.int (((q3 &&& (2147483647 : Int32)) % (3 : Int32)) - (1 : Int32)))] [(.ref b30)])) _
      refine XS.iloadN X110.here hx rfl (hb hby at_117) rfl ?_
      show Steps _ _ _ (T110.setTop (mkF m 118 #[iv q1, iv q2, iv q3, rv b30, .unset, .val (.int (((q3 &&& (2147483647 : Int32)) % (3 : Int32)) - (1 : Int32)))] [(.int q2), (.ref b30)])) _
      refine XS.iconst X110.here hx rfl (hb hby at_118) ?_
      show Steps _ _ _ (T110.setTop (mkF m 119 #[iv q1, iv q2, iv q3, rv b30, .unset, .val (.int (((q3 &&& (2147483647 : Int32)) % (3 : Int32)) - (1 : Int32)))] [(.int 1), (.int q2), (.ref b30)])) _
      refine XS.iushr X110.here hx rfl (hb hby at_119) rfl ?_
      show Steps _ _ _ (T110.setTop (mkF m 120 #[iv q1, iv q2, iv q3, rv b30, .unset, .val (.int (((q3 &&& (2147483647 : Int32)) % (3 : Int32)) - (1 : Int32)))] [(.int ((q2.toUInt32 >>> ((1 : Int32) &&& 31).toUInt32).toInt32)), (.ref b30)])) _
      refine XS.bipush X110.here hx rfl (hb hby at_120) ?_
      show Steps _ _ _ (T110.setTop (mkF m 122 #[iv q1, iv q2, iv q3, rv b30, .unset, .val (.int (((q3 &&& (2147483647 : Int32)) % (3 : Int32)) - (1 : Int32)))] [(.int 15), (.int ((q2.toUInt32 >>> ((1 : Int32) &&& 31).toUInt32).toInt32)), (.ref b30)])) _
      refine XS.iand X110.here hx rfl (hb hby at_122) rfl ?_
      show Steps _ _ _ (T110.setTop (mkF m 123 #[iv q1, iv q2, iv q3, rv b30, .unset, .val (.int (((q3 &&& (2147483647 : Int32)) % (3 : Int32)) - (1 : Int32)))] [(.int (((q2.toUInt32 >>> ((1 : Int32) &&& 31).toUInt32).toInt32) &&& (15 : Int32))), (.ref b30)])) _
      exact q
    obtain ⟨cl186, Ar186, q186, S186, M186, H186, G186⟩ := B110
    have hin186 : ¬ ((((q2.toUInt32 >>> ((1 : Int32) &&& 31).toUInt32).toInt32) &&& (15 : Int32)) < 0 ∨ cl186.slots.size ≤ ((((q2.toUInt32 >>> ((1 : Int32) &&& 31).toUInt32).toInt32) &&& (15 : Int32))).toNatClampNeg) := inb_of S186 (own_in16 _)
    obtain ⟨ed, hed⟩ := own_getD _ _ ((((q2.toUInt32 >>> ((1 : Int32) &&& 31).toUInt32).toInt32) &&& (15 : Int32))).toNatClampNeg (rfl : ((.int 0) :: [(.int 9), (.int 10), (.int 13), (.int 32), (.int 55295), (.int 57344), (.int 65533), (.int 65536), (.int 1114111), (.int 0), (.int 55296), (.int 57343), (.int 65534), (.int 8), (.int 14), (.int 31)]).all isI = true)
    have hat186 := Has.at H186 hin186 hed
    obtain ⟨pt, hpt⟩ : ∃ z, z = (ed + (((q3 &&& (2147483647 : Int32)) % (3 : Int32)) - (1 : Int32))) := ⟨_, rfl⟩
    have k_187 : Go p.tables e below (s₁.setTop (entryFrame m #[(.int q1), (.int q2), (.int q3)] maxLocals)) (T110.setTop (mkF m 129 #[iv q1, iv q2, iv q3, rv b30, iv pt, .val (.int (((q3 &&& (2147483647 : Int32)) % (3 : Int32)) - (1 : Int32)))] [])) := fun t q => by
      refine k_185 t ?_
      refine X110.iaload hx (j := (((q2.toUInt32 >>> ((1 : Int32) &&& 31).toUInt32).toInt32) &&& (15 : Int32))) (v := (.int ed)) (by rw [e110]; exact Ar186.1) (State.isArrayOf_alike hZ.alike Ar186.2.1) Ar186.2.2 hin186 hat186 (g := (mkF m 123 #[iv q1, iv q2, iv q3, rv b30, .unset, .val (.int (((q3 &&& (2147483647 : Int32)) % (3 : Int32)) - (1 : Int32)))] [(.int (((q2.toUInt32 >>> ((1 : Int32) &&& 31).toUInt32).toInt32) &&& (15 : Int32))), (.ref b30)])) rfl rfl (hb hby at_123) _ ?_
      show Steps _ _ _ (T110.setTop (mkF m 124 #[iv q1, iv q2, iv q3, rv b30, .unset, .val (.int (((q3 &&& (2147483647 : Int32)) % (3 : Int32)) - (1 : Int32)))] [(.int ed)])) _
      refine XS.iload X110.here hx rfl (hb hby at_124) rfl ?_
      show Steps _ _ _ (T110.setTop (mkF m 126 #[iv q1, iv q2, iv q3, rv b30, .unset, .val (.int (((q3 &&& (2147483647 : Int32)) % (3 : Int32)) - (1 : Int32)))] [(.int (((q3 &&& (2147483647 : Int32)) % (3 : Int32)) - (1 : Int32))), (.int ed)])) _
      refine XS.iadd X110.here hx rfl (hb hby at_126) rfl ?_
      show Steps _ _ _ (T110.setTop (mkF m 127 #[iv q1, iv q2, iv q3, rv b30, .unset, .val (.int (((q3 &&& (2147483647 : Int32)) % (3 : Int32)) - (1 : Int32)))] [(.int (ed + (((q3 &&& (2147483647 : Int32)) % (3 : Int32)) - (1 : Int32))))])) _
      rw [← hpt]
      show Steps _ _ _ (T110.setTop (mkF m 127 #[iv q1, iv q2, iv q3, rv b30, .unset, .val (.int (((q3 &&& (2147483647 : Int32)) % (3 : Int32)) - (1 : Int32)))] [(.int pt)])) _
      refine XS.istore X110.here hx rfl (hb hby at_127) rfl (l' := #[iv q1, iv q2, iv q3, rv b30, iv pt, .val (.int (((q3 &&& (2147483647 : Int32)) % (3 : Int32)) - (1 : Int32)))]) rfl ?_
      show Steps _ _ _ (T110.setTop (mkF m 129 #[iv q1, iv q2, iv q3, rv b30, iv pt, .val (.int (((q3 &&& (2147483647 : Int32)) % (3 : Int32)) - (1 : Int32)))] [])) _
      exact q
    rcases own_reg pt with hr | hr | hr | hr | hr | hr | hr | hr | hr | hr | hr | hr | hr | hr
    · skip
      have k_188 : Go p.tables e below (s₁.setTop (entryFrame m #[(.int q1), (.int q2), (.int q3)] maxLocals)) (T110.setTop (mkF m 131 #[iv q1, iv q2, iv q3, rv b30, iv pt, .val (.int (((q3 &&& (2147483647 : Int32)) % (3 : Int32)) - (1 : Int32)))] [(.int pt)])) := fun t q => by
        refine k_187 t ?_
        refine XS.iload X110.here hx rfl (hb hby at_129) rfl ?_
        show Steps _ _ _ (T110.setTop (mkF m 131 #[iv q1, iv q2, iv q3, rv b30, iv pt, .val (.int (((q3 &&& (2147483647 : Int32)) % (3 : Int32)) - (1 : Int32)))] [(.int pt)])) _
        exact q
      obtain ⟨_, _, ⟨T189, L189, k189, n189⟩, -, X189, ⟨Lc189, hQ189, l189, y189, z189⟩, st189⟩ := Jvm.LawKit.callS X110 hx (y := y_0) hown (mvT hZ (hw _ (wd 10 rfl))) (mvT hZ (hw _ (wd 11 rfl))) (mvT hZ (hw _ (wd 12 rfl))) (mvT hZ (hw _ (wd 13 rfl))) (by decide) (backOf (W := 0) (ic_0 l Z a0 hw [] pt h110 n0 O_111 hr.1 hr.2) hZ (hw _ (wd 13 rfl)) (hw _ (wd 12 rfl)) (by decide) (by decide)) (g := (mkF m 131 #[iv q1, iv q2, iv q3, rv b30, iv pt, .val (.int (((q3 &&& (2147483647 : Int32)) % (3 : Int32)) - (1 : Int32)))] [(.int pt)])) rfl (by rw [hml]; rfl) (argsL := [(.int pt)]) (rest := []) (lenOf pd_0 rfl) rfl (by show 2 * 0 + _ ≤ _; exact Nat.le_of_eq rfl) (hb hby at_131) (fun _ _ => ⟨rfl, e110, (by decide : 1 + 0 ≤ _), (by decide : 16 + 0 ≤ _)⟩)
      dsimp only [Pt.U, Pt.locs, Pt.cells, Pt.slots] at X189 l189 y189 z189 st189 hQ189
      subst l189 y189 z189
      obtain ⟨rfl, N189q, e189⟩ := hQ189
      have N189 := Fr.app N110 N189q
      have k_190 : Go p.tables e below (s₁.setTop (entryFrame m #[(.int q1), (.int q2), (.int q3)] maxLocals)) (T189.setTop (mkF m 136 #[iv q1, iv q2, iv q3, rv b30, iv pt, .val (.int (((q3 &&& (2147483647 : Int32)) % (3 : Int32)) - (1 : Int32)))] [(.int pt), (.int 0)])) := fun t q => by
        refine k_188 t ?_
        refine st189 _ ?_
        show Steps _ _ _ (T189.setTop (mkF m 134 #[iv q1, iv q2, iv q3, rv b30, iv pt, .val (.int (((q3 &&& (2147483647 : Int32)) % (3 : Int32)) - (1 : Int32)))] [(.int 0)])) _
        refine XS.iload X189.here hx rfl (hb hby at_134) rfl ?_
        show Steps _ _ _ (T189.setTop (mkF m 136 #[iv q1, iv q2, iv q3, rv b30, iv pt, .val (.int (((q3 &&& (2147483647 : Int32)) % (3 : Int32)) - (1 : Int32)))] [(.int pt), (.int 0)])) _
        exact q
      obtain ⟨_, _, ⟨T191, L191, k191, n191⟩, -, X191, ⟨Lc191, hQ191, l191, y191, z191⟩, st191⟩ := Jvm.LawKit.callS X189 hx (y := y_1) hown (mvT hZ (hw _ (wd 16 rfl))) (mvT hZ (hw _ (wd 17 rfl))) (mvT hZ (hw _ (wd 18 rfl))) (mvT hZ (hw _ (wd 19 rfl))) (by decide) (backOf (W := 1) (ex_0 l Z a0 hw [] pt h110 n0 O_111 hr.1 hr.2) hZ (hw _ (wd 19 rfl)) (hw _ (wd 18 rfl)) (by decide) (by decide)) (g := (mkF m 136 #[iv q1, iv q2, iv q3, rv b30, iv pt, .val (.int (((q3 &&& (2147483647 : Int32)) % (3 : Int32)) - (1 : Int32)))] [(.int pt), (.int 0)])) rfl (by rw [hml]; rfl) (argsL := [(.int pt)]) (rest := [(.int 0)]) (lenOf pd_0 rfl) rfl (by show 2 * 0 + _ ≤ _; exact Nat.le_of_eq rfl) (hb hby at_136) (fun _ _ => ⟨rfl, e189, (by decide : 1 + 0 ≤ _), (by decide : 16 + 0 ≤ _)⟩)
      dsimp only [Pt.U, Pt.locs, Pt.cells, Pt.slots] at X191 l191 y191 z191 st191 hQ191
      subst l191 y191 z191
      obtain ⟨rfl, N191q, e191⟩ := hQ191
      have N191 := Fr.app N189 N191q
      have k_192 : Go p.tables e below (s₁.setTop (entryFrame m #[(.int q1), (.int q2), (.int q3)] maxLocals)) (T191.setTop (mkF m 147 #[iv q1, iv q2, iv q3, rv b30, iv pt, .val (.int (((q3 &&& (2147483647 : Int32)) % (3 : Int32)) - (1 : Int32)))] [(.int 1)])) := fun t q => by
        refine k_190 t ?_
        refine st191 _ ?_
        show Steps _ _ _ (T191.setTop (mkF m 139 #[iv q1, iv q2, iv q3, rv b30, iv pt, .val (.int (((q3 &&& (2147483647 : Int32)) % (3 : Int32)) - (1 : Int32)))] [(.int 0), (.int 0)])) _
        refine XS.icmpNo X191.here hx rfl (hb hby at_139) rfl (by decide) ?_
        show Steps _ _ _ (T191.setTop (mkF m 142 #[iv q1, iv q2, iv q3, rv b30, iv pt, .val (.int (((q3 &&& (2147483647 : Int32)) % (3 : Int32)) - (1 : Int32)))] [])) _
        refine XS.iconst X191.here hx rfl (hb hby at_142) ?_
        show Steps _ _ _ (T191.setTop (mkF m 143 #[iv q1, iv q2, iv q3, rv b30, iv pt, .val (.int (((q3 &&& (2147483647 : Int32)) % (3 : Int32)) - (1 : Int32)))] [(.int 1)])) _
        refine XS.goto X191.here hx rfl (pc0 := 143) (pc' := 147) rfl (hb hby at_143) (by decide) (by decide) ?_
        show Steps _ _ _ (T191.setTop (mkF m 147 #[iv q1, iv q2, iv q3, rv b30, iv pt, .val (.int (((q3 &&& (2147483647 : Int32)) % (3 : Int32)) - (1 : Int32)))] [(.int 1)])) _
        exact q
      obtain ⟨fs, hr, hrun, hended, hW, hsame⟩ := X191.leave (v := some (.int 1)) (fun h => by rw [Bd.returns] at h; cases h)
      refine ⟨_, _, k_192 _ ?_, hrun, hended, _, _, rfl, ?_, ⟨_, rfl⟩, hW, hsame.mono (by decide) (by decide)⟩
      · exact retN X191 hx (t := .boolean) Bd.returns (by simp) (hb hby at_147) hr
      · show Q0 n0 _ T191.heap _
        rw [e191]
        exact ⟨rfl, N191⟩
    · skip
      have k_193 : Go p.tables e below (s₁.setTop (entryFrame m #[(.int q1), (.int q2), (.int q3)] maxLocals)) (T110.setTop (mkF m 131 #[iv q1, iv q2, iv q3, rv b30, iv pt, .val (.int (((q3 &&& (2147483647 : Int32)) % (3 : Int32)) - (1 : Int32)))] [(.int pt)])) := fun t q => by
        refine k_187 t ?_
        refine XS.iload X110.here hx rfl (hb hby at_129) rfl ?_
        show Steps _ _ _ (T110.setTop (mkF m 131 #[iv q1, iv q2, iv q3, rv b30, iv pt, .val (.int (((q3 &&& (2147483647 : Int32)) % (3 : Int32)) - (1 : Int32)))] [(.int pt)])) _
        exact q
      obtain ⟨_, _, ⟨T194, L194, k194, n194⟩, -, X194, ⟨Lc194, hQ194, l194, y194, z194⟩, st194⟩ := Jvm.LawKit.callS X110 hx (y := y_0) hown (mvT hZ (hw _ (wd 10 rfl))) (mvT hZ (hw _ (wd 11 rfl))) (mvT hZ (hw _ (wd 12 rfl))) (mvT hZ (hw _ (wd 13 rfl))) (by decide) (backOf (W := 0) (ic_1 l Z a0 hw [] pt h110 n0 O_111 hr.1 hr.2) hZ (hw _ (wd 13 rfl)) (hw _ (wd 12 rfl)) (by decide) (by decide)) (g := (mkF m 131 #[iv q1, iv q2, iv q3, rv b30, iv pt, .val (.int (((q3 &&& (2147483647 : Int32)) % (3 : Int32)) - (1 : Int32)))] [(.int pt)])) rfl (by rw [hml]; rfl) (argsL := [(.int pt)]) (rest := []) (lenOf pd_0 rfl) rfl (by show 2 * 0 + _ ≤ _; exact Nat.le_of_eq rfl) (hb hby at_131) (fun _ _ => ⟨rfl, e110, (by decide : 1 + 0 ≤ _), (by decide : 16 + 0 ≤ _)⟩)
      dsimp only [Pt.U, Pt.locs, Pt.cells, Pt.slots] at X194 l194 y194 z194 st194 hQ194
      subst l194 y194 z194
      obtain ⟨rfl, N194q, e194⟩ := hQ194
      have N194 := Fr.app N110 N194q
      have k_195 : Go p.tables e below (s₁.setTop (entryFrame m #[(.int q1), (.int q2), (.int q3)] maxLocals)) (T194.setTop (mkF m 136 #[iv q1, iv q2, iv q3, rv b30, iv pt, .val (.int (((q3 &&& (2147483647 : Int32)) % (3 : Int32)) - (1 : Int32)))] [(.int pt), (.int 0)])) := fun t q => by
        refine k_193 t ?_
        refine st194 _ ?_
        show Steps _ _ _ (T194.setTop (mkF m 134 #[iv q1, iv q2, iv q3, rv b30, iv pt, .val (.int (((q3 &&& (2147483647 : Int32)) % (3 : Int32)) - (1 : Int32)))] [(.int 0)])) _
        refine XS.iload X194.here hx rfl (hb hby at_134) rfl ?_
        show Steps _ _ _ (T194.setTop (mkF m 136 #[iv q1, iv q2, iv q3, rv b30, iv pt, .val (.int (((q3 &&& (2147483647 : Int32)) % (3 : Int32)) - (1 : Int32)))] [(.int pt), (.int 0)])) _
        exact q
      obtain ⟨_, _, ⟨T196, L196, k196, n196⟩, -, X196, ⟨Lc196, hQ196, l196, y196, z196⟩, st196⟩ := Jvm.LawKit.callS X194 hx (y := y_1) hown (mvT hZ (hw _ (wd 16 rfl))) (mvT hZ (hw _ (wd 17 rfl))) (mvT hZ (hw _ (wd 18 rfl))) (mvT hZ (hw _ (wd 19 rfl))) (by decide) (backOf (W := 1) (ex_1 l Z a0 hw [] pt h110 n0 O_111 hr.1 hr.2) hZ (hw _ (wd 19 rfl)) (hw _ (wd 18 rfl)) (by decide) (by decide)) (g := (mkF m 136 #[iv q1, iv q2, iv q3, rv b30, iv pt, .val (.int (((q3 &&& (2147483647 : Int32)) % (3 : Int32)) - (1 : Int32)))] [(.int pt), (.int 0)])) rfl (by rw [hml]; rfl) (argsL := [(.int pt)]) (rest := [(.int 0)]) (lenOf pd_0 rfl) rfl (by show 2 * 0 + _ ≤ _; exact Nat.le_of_eq rfl) (hb hby at_136) (fun _ _ => ⟨rfl, e194, (by decide : 1 + 0 ≤ _), (by decide : 16 + 0 ≤ _)⟩)
      dsimp only [Pt.U, Pt.locs, Pt.cells, Pt.slots] at X196 l196 y196 z196 st196 hQ196
      subst l196 y196 z196
      obtain ⟨rfl, N196q, e196⟩ := hQ196
      have N196 := Fr.app N194 N196q
      have k_197 : Go p.tables e below (s₁.setTop (entryFrame m #[(.int q1), (.int q2), (.int q3)] maxLocals)) (T196.setTop (mkF m 147 #[iv q1, iv q2, iv q3, rv b30, iv pt, .val (.int (((q3 &&& (2147483647 : Int32)) % (3 : Int32)) - (1 : Int32)))] [(.int 1)])) := fun t q => by
        refine k_195 t ?_
        refine st196 _ ?_
        show Steps _ _ _ (T196.setTop (mkF m 139 #[iv q1, iv q2, iv q3, rv b30, iv pt, .val (.int (((q3 &&& (2147483647 : Int32)) % (3 : Int32)) - (1 : Int32)))] [(.int 0), (.int 0)])) _
        refine XS.icmpNo X196.here hx rfl (hb hby at_139) rfl (by decide) ?_
        show Steps _ _ _ (T196.setTop (mkF m 142 #[iv q1, iv q2, iv q3, rv b30, iv pt, .val (.int (((q3 &&& (2147483647 : Int32)) % (3 : Int32)) - (1 : Int32)))] [])) _
        refine XS.iconst X196.here hx rfl (hb hby at_142) ?_
        show Steps _ _ _ (T196.setTop (mkF m 143 #[iv q1, iv q2, iv q3, rv b30, iv pt, .val (.int (((q3 &&& (2147483647 : Int32)) % (3 : Int32)) - (1 : Int32)))] [(.int 1)])) _
        refine XS.goto X196.here hx rfl (pc0 := 143) (pc' := 147) rfl (hb hby at_143) (by decide) (by decide) ?_
        show Steps _ _ _ (T196.setTop (mkF m 147 #[iv q1, iv q2, iv q3, rv b30, iv pt, .val (.int (((q3 &&& (2147483647 : Int32)) % (3 : Int32)) - (1 : Int32)))] [(.int 1)])) _
        exact q
      obtain ⟨fs, hr, hrun, hended, hW, hsame⟩ := X196.leave (v := some (.int 1)) (fun h => by rw [Bd.returns] at h; cases h)
      refine ⟨_, _, k_197 _ ?_, hrun, hended, _, _, rfl, ?_, ⟨_, rfl⟩, hW, hsame.mono (by decide) (by decide)⟩
      · exact retN X196 hx (t := .boolean) Bd.returns (by simp) (hb hby at_147) hr
      · show Q0 n0 _ T196.heap _
        rw [e196]
        exact ⟨rfl, N196⟩
    · skip
      have k_198 : Go p.tables e below (s₁.setTop (entryFrame m #[(.int q1), (.int q2), (.int q3)] maxLocals)) (T110.setTop (mkF m 131 #[iv q1, iv q2, iv q3, rv b30, iv pt, .val (.int (((q3 &&& (2147483647 : Int32)) % (3 : Int32)) - (1 : Int32)))] [(.int pt)])) := fun t q => by
        refine k_187 t ?_
        refine XS.iload X110.here hx rfl (hb hby at_129) rfl ?_
        show Steps _ _ _ (T110.setTop (mkF m 131 #[iv q1, iv q2, iv q3, rv b30, iv pt, .val (.int (((q3 &&& (2147483647 : Int32)) % (3 : Int32)) - (1 : Int32)))] [(.int pt)])) _
        exact q
      obtain ⟨_, _, ⟨T199, L199, k199, n199⟩, -, X199, ⟨Lc199, hQ199, l199, y199, z199⟩, st199⟩ := Jvm.LawKit.callS X110 hx (y := y_0) hown (mvT hZ (hw _ (wd 10 rfl))) (mvT hZ (hw _ (wd 11 rfl))) (mvT hZ (hw _ (wd 12 rfl))) (mvT hZ (hw _ (wd 13 rfl))) (by decide) (backOf (W := 0) (ic_2 l Z a0 hw [] pt h110 n0 O_111 hr.1 hr.2) hZ (hw _ (wd 13 rfl)) (hw _ (wd 12 rfl)) (by decide) (by decide)) (g := (mkF m 131 #[iv q1, iv q2, iv q3, rv b30, iv pt, .val (.int (((q3 &&& (2147483647 : Int32)) % (3 : Int32)) - (1 : Int32)))] [(.int pt)])) rfl (by rw [hml]; rfl) (argsL := [(.int pt)]) (rest := []) (lenOf pd_0 rfl) rfl (by show 2 * 0 + _ ≤ _; exact Nat.le_of_eq rfl) (hb hby at_131) (fun _ _ => ⟨rfl, e110, (by decide : 1 + 0 ≤ _), (by decide : 16 + 0 ≤ _)⟩)
      dsimp only [Pt.U, Pt.locs, Pt.cells, Pt.slots] at X199 l199 y199 z199 st199 hQ199
      subst l199 y199 z199
      obtain ⟨rfl, N199q, e199⟩ := hQ199
      have N199 := Fr.app N110 N199q
      have k_200 : Go p.tables e below (s₁.setTop (entryFrame m #[(.int q1), (.int q2), (.int q3)] maxLocals)) (T199.setTop (mkF m 136 #[iv q1, iv q2, iv q3, rv b30, iv pt, .val (.int (((q3 &&& (2147483647 : Int32)) % (3 : Int32)) - (1 : Int32)))] [(.int pt), (.int 1)])) := fun t q => by
        refine k_198 t ?_
        refine st199 _ ?_
        show Steps _ _ _ (T199.setTop (mkF m 134 #[iv q1, iv q2, iv q3, rv b30, iv pt, .val (.int (((q3 &&& (2147483647 : Int32)) % (3 : Int32)) - (1 : Int32)))] [(.int 1)])) _
        refine XS.iload X199.here hx rfl (hb hby at_134) rfl ?_
        show Steps _ _ _ (T199.setTop (mkF m 136 #[iv q1, iv q2, iv q3, rv b30, iv pt, .val (.int (((q3 &&& (2147483647 : Int32)) % (3 : Int32)) - (1 : Int32)))] [(.int pt), (.int 1)])) _
        exact q
      obtain ⟨_, _, ⟨T201, L201, k201, n201⟩, -, X201, ⟨Lc201, hQ201, l201, y201, z201⟩, st201⟩ := Jvm.LawKit.callS X199 hx (y := y_1) hown (mvT hZ (hw _ (wd 16 rfl))) (mvT hZ (hw _ (wd 17 rfl))) (mvT hZ (hw _ (wd 18 rfl))) (mvT hZ (hw _ (wd 19 rfl))) (by decide) (backOf (W := 1) (ex_2 l Z a0 hw [] pt h110 n0 O_111 hr.1 hr.2) hZ (hw _ (wd 19 rfl)) (hw _ (wd 18 rfl)) (by decide) (by decide)) (g := (mkF m 136 #[iv q1, iv q2, iv q3, rv b30, iv pt, .val (.int (((q3 &&& (2147483647 : Int32)) % (3 : Int32)) - (1 : Int32)))] [(.int pt), (.int 1)])) rfl (by rw [hml]; rfl) (argsL := [(.int pt)]) (rest := [(.int 1)]) (lenOf pd_0 rfl) rfl (by show 2 * 0 + _ ≤ _; exact Nat.le_of_eq rfl) (hb hby at_136) (fun _ _ => ⟨rfl, e199, (by decide : 1 + 0 ≤ _), (by decide : 16 + 0 ≤ _)⟩)
      dsimp only [Pt.U, Pt.locs, Pt.cells, Pt.slots] at X201 l201 y201 z201 st201 hQ201
      subst l201 y201 z201
      obtain ⟨rfl, N201q, e201⟩ := hQ201
      have N201 := Fr.app N199 N201q
      have k_202 : Go p.tables e below (s₁.setTop (entryFrame m #[(.int q1), (.int q2), (.int q3)] maxLocals)) (T201.setTop (mkF m 147 #[iv q1, iv q2, iv q3, rv b30, iv pt, .val (.int (((q3 &&& (2147483647 : Int32)) % (3 : Int32)) - (1 : Int32)))] [(.int 1)])) := fun t q => by
        refine k_200 t ?_
        refine st201 _ ?_
        show Steps _ _ _ (T201.setTop (mkF m 139 #[iv q1, iv q2, iv q3, rv b30, iv pt, .val (.int (((q3 &&& (2147483647 : Int32)) % (3 : Int32)) - (1 : Int32)))] [(.int 1), (.int 1)])) _
        refine XS.icmpNo X201.here hx rfl (hb hby at_139) rfl (by decide) ?_
        show Steps _ _ _ (T201.setTop (mkF m 142 #[iv q1, iv q2, iv q3, rv b30, iv pt, .val (.int (((q3 &&& (2147483647 : Int32)) % (3 : Int32)) - (1 : Int32)))] [])) _
        refine XS.iconst X201.here hx rfl (hb hby at_142) ?_
        show Steps _ _ _ (T201.setTop (mkF m 143 #[iv q1, iv q2, iv q3, rv b30, iv pt, .val (.int (((q3 &&& (2147483647 : Int32)) % (3 : Int32)) - (1 : Int32)))] [(.int 1)])) _
        refine XS.goto X201.here hx rfl (pc0 := 143) (pc' := 147) rfl (hb hby at_143) (by decide) (by decide) ?_
        show Steps _ _ _ (T201.setTop (mkF m 147 #[iv q1, iv q2, iv q3, rv b30, iv pt, .val (.int (((q3 &&& (2147483647 : Int32)) % (3 : Int32)) - (1 : Int32)))] [(.int 1)])) _
        exact q
      obtain ⟨fs, hr, hrun, hended, hW, hsame⟩ := X201.leave (v := some (.int 1)) (fun h => by rw [Bd.returns] at h; cases h)
      refine ⟨_, _, k_202 _ ?_, hrun, hended, _, _, rfl, ?_, ⟨_, rfl⟩, hW, hsame.mono (by decide) (by decide)⟩
      · exact retN X201 hx (t := .boolean) Bd.returns (by simp) (hb hby at_147) hr
      · show Q0 n0 _ T201.heap _
        rw [e201]
        exact ⟨rfl, N201⟩
    · skip
      have k_203 : Go p.tables e below (s₁.setTop (entryFrame m #[(.int q1), (.int q2), (.int q3)] maxLocals)) (T110.setTop (mkF m 131 #[iv q1, iv q2, iv q3, rv b30, iv pt, .val (.int (((q3 &&& (2147483647 : Int32)) % (3 : Int32)) - (1 : Int32)))] [(.int pt)])) := fun t q => by
        refine k_187 t ?_
        refine XS.iload X110.here hx rfl (hb hby at_129) rfl ?_
        show Steps _ _ _ (T110.setTop (mkF m 131 #[iv q1, iv q2, iv q3, rv b30, iv pt, .val (.int (((q3 &&& (2147483647 : Int32)) % (3 : Int32)) - (1 : Int32)))] [(.int pt)])) _
        exact q
      obtain ⟨_, _, ⟨T204, L204, k204, n204⟩, -, X204, ⟨Lc204, hQ204, l204, y204, z204⟩, st204⟩ := Jvm.LawKit.callS X110 hx (y := y_0) hown (mvT hZ (hw _ (wd 10 rfl))) (mvT hZ (hw _ (wd 11 rfl))) (mvT hZ (hw _ (wd 12 rfl))) (mvT hZ (hw _ (wd 13 rfl))) (by decide) (backOf (W := 0) (ic_3 l Z a0 hw [] pt h110 n0 O_111 hr.1 hr.2) hZ (hw _ (wd 13 rfl)) (hw _ (wd 12 rfl)) (by decide) (by decide)) (g := (mkF m 131 #[iv q1, iv q2, iv q3, rv b30, iv pt, .val (.int (((q3 &&& (2147483647 : Int32)) % (3 : Int32)) - (1 : Int32)))] [(.int pt)])) rfl (by rw [hml]; rfl) (argsL := [(.int pt)]) (rest := []) (lenOf pd_0 rfl) rfl (by show 2 * 0 + _ ≤ _; exact Nat.le_of_eq rfl) (hb hby at_131) (fun _ _ => ⟨rfl, e110, (by decide : 1 + 0 ≤ _), (by decide : 16 + 0 ≤ _)⟩)
      dsimp only [Pt.U, Pt.locs, Pt.cells, Pt.slots] at X204 l204 y204 z204 st204 hQ204
      subst l204 y204 z204
      obtain ⟨rfl, N204q, e204⟩ := hQ204
      have N204 := Fr.app N110 N204q
      have k_205 : Go p.tables e below (s₁.setTop (entryFrame m #[(.int q1), (.int q2), (.int q3)] maxLocals)) (T204.setTop (mkF m 136 #[iv q1, iv q2, iv q3, rv b30, iv pt, .val (.int (((q3 &&& (2147483647 : Int32)) % (3 : Int32)) - (1 : Int32)))] [(.int pt), (.int 1)])) := fun t q => by
        refine k_203 t ?_
        refine st204 _ ?_
        show Steps _ _ _ (T204.setTop (mkF m 134 #[iv q1, iv q2, iv q3, rv b30, iv pt, .val (.int (((q3 &&& (2147483647 : Int32)) % (3 : Int32)) - (1 : Int32)))] [(.int 1)])) _
        refine XS.iload X204.here hx rfl (hb hby at_134) rfl ?_
        show Steps _ _ _ (T204.setTop (mkF m 136 #[iv q1, iv q2, iv q3, rv b30, iv pt, .val (.int (((q3 &&& (2147483647 : Int32)) % (3 : Int32)) - (1 : Int32)))] [(.int pt), (.int 1)])) _
        exact q
      obtain ⟨_, _, ⟨T206, L206, k206, n206⟩, -, X206, ⟨Lc206, hQ206, l206, y206, z206⟩, st206⟩ := Jvm.LawKit.callS X204 hx (y := y_1) hown (mvT hZ (hw _ (wd 16 rfl))) (mvT hZ (hw _ (wd 17 rfl))) (mvT hZ (hw _ (wd 18 rfl))) (mvT hZ (hw _ (wd 19 rfl))) (by decide) (backOf (W := 1) (ex_3 l Z a0 hw [] pt h110 n0 O_111 hr.1 hr.2) hZ (hw _ (wd 19 rfl)) (hw _ (wd 18 rfl)) (by decide) (by decide)) (g := (mkF m 136 #[iv q1, iv q2, iv q3, rv b30, iv pt, .val (.int (((q3 &&& (2147483647 : Int32)) % (3 : Int32)) - (1 : Int32)))] [(.int pt), (.int 1)])) rfl (by rw [hml]; rfl) (argsL := [(.int pt)]) (rest := [(.int 1)]) (lenOf pd_0 rfl) rfl (by show 2 * 0 + _ ≤ _; exact Nat.le_of_eq rfl) (hb hby at_136) (fun _ _ => ⟨rfl, e204, (by decide : 1 + 0 ≤ _), (by decide : 16 + 0 ≤ _)⟩)
      dsimp only [Pt.U, Pt.locs, Pt.cells, Pt.slots] at X206 l206 y206 z206 st206 hQ206
      subst l206 y206 z206
      obtain ⟨rfl, N206q, e206⟩ := hQ206
      have N206 := Fr.app N204 N206q
      have k_207 : Go p.tables e below (s₁.setTop (entryFrame m #[(.int q1), (.int q2), (.int q3)] maxLocals)) (T206.setTop (mkF m 147 #[iv q1, iv q2, iv q3, rv b30, iv pt, .val (.int (((q3 &&& (2147483647 : Int32)) % (3 : Int32)) - (1 : Int32)))] [(.int 1)])) := fun t q => by
        refine k_205 t ?_
        refine st206 _ ?_
        show Steps _ _ _ (T206.setTop (mkF m 139 #[iv q1, iv q2, iv q3, rv b30, iv pt, .val (.int (((q3 &&& (2147483647 : Int32)) % (3 : Int32)) - (1 : Int32)))] [(.int 1), (.int 1)])) _
        refine XS.icmpNo X206.here hx rfl (hb hby at_139) rfl (by decide) ?_
        show Steps _ _ _ (T206.setTop (mkF m 142 #[iv q1, iv q2, iv q3, rv b30, iv pt, .val (.int (((q3 &&& (2147483647 : Int32)) % (3 : Int32)) - (1 : Int32)))] [])) _
        refine XS.iconst X206.here hx rfl (hb hby at_142) ?_
        show Steps _ _ _ (T206.setTop (mkF m 143 #[iv q1, iv q2, iv q3, rv b30, iv pt, .val (.int (((q3 &&& (2147483647 : Int32)) % (3 : Int32)) - (1 : Int32)))] [(.int 1)])) _
        refine XS.goto X206.here hx rfl (pc0 := 143) (pc' := 147) rfl (hb hby at_143) (by decide) (by decide) ?_
        show Steps _ _ _ (T206.setTop (mkF m 147 #[iv q1, iv q2, iv q3, rv b30, iv pt, .val (.int (((q3 &&& (2147483647 : Int32)) % (3 : Int32)) - (1 : Int32)))] [(.int 1)])) _
        exact q
      obtain ⟨fs, hr, hrun, hended, hW, hsame⟩ := X206.leave (v := some (.int 1)) (fun h => by rw [Bd.returns] at h; cases h)
      refine ⟨_, _, k_207 _ ?_, hrun, hended, _, _, rfl, ?_, ⟨_, rfl⟩, hW, hsame.mono (by decide) (by decide)⟩
      · exact retN X206 hx (t := .boolean) Bd.returns (by simp) (hb hby at_147) hr
      · show Q0 n0 _ T206.heap _
        rw [e206]
        exact ⟨rfl, N206⟩
    · skip
      have k_208 : Go p.tables e below (s₁.setTop (entryFrame m #[(.int q1), (.int q2), (.int q3)] maxLocals)) (T110.setTop (mkF m 131 #[iv q1, iv q2, iv q3, rv b30, iv pt, .val (.int (((q3 &&& (2147483647 : Int32)) % (3 : Int32)) - (1 : Int32)))] [(.int pt)])) := fun t q => by
        refine k_187 t ?_
        refine XS.iload X110.here hx rfl (hb hby at_129) rfl ?_
        show Steps _ _ _ (T110.setTop (mkF m 131 #[iv q1, iv q2, iv q3, rv b30, iv pt, .val (.int (((q3 &&& (2147483647 : Int32)) % (3 : Int32)) - (1 : Int32)))] [(.int pt)])) _
        exact q
      obtain ⟨_, _, ⟨T209, L209, k209, n209⟩, -, X209, ⟨Lc209, hQ209, l209, y209, z209⟩, st209⟩ := Jvm.LawKit.callS X110 hx (y := y_0) hown (mvT hZ (hw _ (wd 10 rfl))) (mvT hZ (hw _ (wd 11 rfl))) (mvT hZ (hw _ (wd 12 rfl))) (mvT hZ (hw _ (wd 13 rfl))) (by decide) (backOf (W := 0) (ic_4 l Z a0 hw [] pt h110 n0 O_111 hr.1 hr.2) hZ (hw _ (wd 13 rfl)) (hw _ (wd 12 rfl)) (by decide) (by decide)) (g := (mkF m 131 #[iv q1, iv q2, iv q3, rv b30, iv pt, .val (.int (((q3 &&& (2147483647 : Int32)) % (3 : Int32)) - (1 : Int32)))] [(.int pt)])) rfl (by rw [hml]; rfl) (argsL := [(.int pt)]) (rest := []) (lenOf pd_0 rfl) rfl (by show 2 * 0 + _ ≤ _; exact Nat.le_of_eq rfl) (hb hby at_131) (fun _ _ => ⟨rfl, e110, (by decide : 1 + 0 ≤ _), (by decide : 16 + 0 ≤ _)⟩)
      dsimp only [Pt.U, Pt.locs, Pt.cells, Pt.slots] at X209 l209 y209 z209 st209 hQ209
      subst l209 y209 z209
      obtain ⟨rfl, N209q, e209⟩ := hQ209
      have N209 := Fr.app N110 N209q
      have k_210 : Go p.tables e below (s₁.setTop (entryFrame m #[(.int q1), (.int q2), (.int q3)] maxLocals)) (T209.setTop (mkF m 136 #[iv q1, iv q2, iv q3, rv b30, iv pt, .val (.int (((q3 &&& (2147483647 : Int32)) % (3 : Int32)) - (1 : Int32)))] [(.int pt), (.int 0)])) := fun t q => by
        refine k_208 t ?_
        refine st209 _ ?_
        show Steps _ _ _ (T209.setTop (mkF m 134 #[iv q1, iv q2, iv q3, rv b30, iv pt, .val (.int (((q3 &&& (2147483647 : Int32)) % (3 : Int32)) - (1 : Int32)))] [(.int 0)])) _
        refine XS.iload X209.here hx rfl (hb hby at_134) rfl ?_
        show Steps _ _ _ (T209.setTop (mkF m 136 #[iv q1, iv q2, iv q3, rv b30, iv pt, .val (.int (((q3 &&& (2147483647 : Int32)) % (3 : Int32)) - (1 : Int32)))] [(.int pt), (.int 0)])) _
        exact q
      obtain ⟨_, _, ⟨T211, L211, k211, n211⟩, -, X211, ⟨Lc211, hQ211, l211, y211, z211⟩, st211⟩ := Jvm.LawKit.callS X209 hx (y := y_1) hown (mvT hZ (hw _ (wd 16 rfl))) (mvT hZ (hw _ (wd 17 rfl))) (mvT hZ (hw _ (wd 18 rfl))) (mvT hZ (hw _ (wd 19 rfl))) (by decide) (backOf (W := 1) (ex_4 l Z a0 hw [] pt h110 n0 O_111 hr.1 hr.2) hZ (hw _ (wd 19 rfl)) (hw _ (wd 18 rfl)) (by decide) (by decide)) (g := (mkF m 136 #[iv q1, iv q2, iv q3, rv b30, iv pt, .val (.int (((q3 &&& (2147483647 : Int32)) % (3 : Int32)) - (1 : Int32)))] [(.int pt), (.int 0)])) rfl (by rw [hml]; rfl) (argsL := [(.int pt)]) (rest := [(.int 0)]) (lenOf pd_0 rfl) rfl (by show 2 * 0 + _ ≤ _; exact Nat.le_of_eq rfl) (hb hby at_136) (fun _ _ => ⟨rfl, e209, (by decide : 1 + 0 ≤ _), (by decide : 16 + 0 ≤ _)⟩)
      dsimp only [Pt.U, Pt.locs, Pt.cells, Pt.slots] at X211 l211 y211 z211 st211 hQ211
      subst l211 y211 z211
      obtain ⟨rfl, N211q, e211⟩ := hQ211
      have N211 := Fr.app N209 N211q
      have k_212 : Go p.tables e below (s₁.setTop (entryFrame m #[(.int q1), (.int q2), (.int q3)] maxLocals)) (T211.setTop (mkF m 147 #[iv q1, iv q2, iv q3, rv b30, iv pt, .val (.int (((q3 &&& (2147483647 : Int32)) % (3 : Int32)) - (1 : Int32)))] [(.int 1)])) := fun t q => by
        refine k_210 t ?_
        refine st211 _ ?_
        show Steps _ _ _ (T211.setTop (mkF m 139 #[iv q1, iv q2, iv q3, rv b30, iv pt, .val (.int (((q3 &&& (2147483647 : Int32)) % (3 : Int32)) - (1 : Int32)))] [(.int 0), (.int 0)])) _
        refine XS.icmpNo X211.here hx rfl (hb hby at_139) rfl (by decide) ?_
        show Steps _ _ _ (T211.setTop (mkF m 142 #[iv q1, iv q2, iv q3, rv b30, iv pt, .val (.int (((q3 &&& (2147483647 : Int32)) % (3 : Int32)) - (1 : Int32)))] [])) _
        refine XS.iconst X211.here hx rfl (hb hby at_142) ?_
        show Steps _ _ _ (T211.setTop (mkF m 143 #[iv q1, iv q2, iv q3, rv b30, iv pt, .val (.int (((q3 &&& (2147483647 : Int32)) % (3 : Int32)) - (1 : Int32)))] [(.int 1)])) _
        refine XS.goto X211.here hx rfl (pc0 := 143) (pc' := 147) rfl (hb hby at_143) (by decide) (by decide) ?_
        show Steps _ _ _ (T211.setTop (mkF m 147 #[iv q1, iv q2, iv q3, rv b30, iv pt, .val (.int (((q3 &&& (2147483647 : Int32)) % (3 : Int32)) - (1 : Int32)))] [(.int 1)])) _
        exact q
      obtain ⟨fs, hr, hrun, hended, hW, hsame⟩ := X211.leave (v := some (.int 1)) (fun h => by rw [Bd.returns] at h; cases h)
      refine ⟨_, _, k_212 _ ?_, hrun, hended, _, _, rfl, ?_, ⟨_, rfl⟩, hW, hsame.mono (by decide) (by decide)⟩
      · exact retN X211 hx (t := .boolean) Bd.returns (by simp) (hb hby at_147) hr
      · show Q0 n0 _ T211.heap _
        rw [e211]
        exact ⟨rfl, N211⟩
    · skip
      have k_213 : Go p.tables e below (s₁.setTop (entryFrame m #[(.int q1), (.int q2), (.int q3)] maxLocals)) (T110.setTop (mkF m 131 #[iv q1, iv q2, iv q3, rv b30, iv pt, .val (.int (((q3 &&& (2147483647 : Int32)) % (3 : Int32)) - (1 : Int32)))] [(.int pt)])) := fun t q => by
        refine k_187 t ?_
        refine XS.iload X110.here hx rfl (hb hby at_129) rfl ?_
        show Steps _ _ _ (T110.setTop (mkF m 131 #[iv q1, iv q2, iv q3, rv b30, iv pt, .val (.int (((q3 &&& (2147483647 : Int32)) % (3 : Int32)) - (1 : Int32)))] [(.int pt)])) _
        exact q
      obtain ⟨_, _, ⟨T214, L214, k214, n214⟩, -, X214, ⟨Lc214, hQ214, l214, y214, z214⟩, st214⟩ := Jvm.LawKit.callS X110 hx (y := y_0) hown (mvT hZ (hw _ (wd 10 rfl))) (mvT hZ (hw _ (wd 11 rfl))) (mvT hZ (hw _ (wd 12 rfl))) (mvT hZ (hw _ (wd 13 rfl))) (by decide) (backOf (W := 0) (ic_5 l Z a0 hw [] pt h110 n0 O_111 hr.1 hr.2) hZ (hw _ (wd 13 rfl)) (hw _ (wd 12 rfl)) (by decide) (by decide)) (g := (mkF m 131 #[iv q1, iv q2, iv q3, rv b30, iv pt, .val (.int (((q3 &&& (2147483647 : Int32)) % (3 : Int32)) - (1 : Int32)))] [(.int pt)])) rfl (by rw [hml]; rfl) (argsL := [(.int pt)]) (rest := []) (lenOf pd_0 rfl) rfl (by show 2 * 0 + _ ≤ _; exact Nat.le_of_eq rfl) (hb hby at_131) (fun _ _ => ⟨rfl, e110, (by decide : 1 + 0 ≤ _), (by decide : 16 + 0 ≤ _)⟩)
      dsimp only [Pt.U, Pt.locs, Pt.cells, Pt.slots] at X214 l214 y214 z214 st214 hQ214
      subst l214 y214 z214
      obtain ⟨rfl, N214q, e214⟩ := hQ214
      have N214 := Fr.app N110 N214q
      have k_215 : Go p.tables e below (s₁.setTop (entryFrame m #[(.int q1), (.int q2), (.int q3)] maxLocals)) (T214.setTop (mkF m 136 #[iv q1, iv q2, iv q3, rv b30, iv pt, .val (.int (((q3 &&& (2147483647 : Int32)) % (3 : Int32)) - (1 : Int32)))] [(.int pt), (.int 1)])) := fun t q => by
        refine k_213 t ?_
        refine st214 _ ?_
        show Steps _ _ _ (T214.setTop (mkF m 134 #[iv q1, iv q2, iv q3, rv b30, iv pt, .val (.int (((q3 &&& (2147483647 : Int32)) % (3 : Int32)) - (1 : Int32)))] [(.int 1)])) _
        refine XS.iload X214.here hx rfl (hb hby at_134) rfl ?_
        show Steps _ _ _ (T214.setTop (mkF m 136 #[iv q1, iv q2, iv q3, rv b30, iv pt, .val (.int (((q3 &&& (2147483647 : Int32)) % (3 : Int32)) - (1 : Int32)))] [(.int pt), (.int 1)])) _
        exact q
      obtain ⟨_, _, ⟨T216, L216, k216, n216⟩, -, X216, ⟨Lc216, hQ216, l216, y216, z216⟩, st216⟩ := Jvm.LawKit.callS X214 hx (y := y_1) hown (mvT hZ (hw _ (wd 16 rfl))) (mvT hZ (hw _ (wd 17 rfl))) (mvT hZ (hw _ (wd 18 rfl))) (mvT hZ (hw _ (wd 19 rfl))) (by decide) (backOf (W := 1) (ex_5 l Z a0 hw [] pt h110 n0 O_111 hr.1 hr.2) hZ (hw _ (wd 19 rfl)) (hw _ (wd 18 rfl)) (by decide) (by decide)) (g := (mkF m 136 #[iv q1, iv q2, iv q3, rv b30, iv pt, .val (.int (((q3 &&& (2147483647 : Int32)) % (3 : Int32)) - (1 : Int32)))] [(.int pt), (.int 1)])) rfl (by rw [hml]; rfl) (argsL := [(.int pt)]) (rest := [(.int 1)]) (lenOf pd_0 rfl) rfl (by show 2 * 0 + _ ≤ _; exact Nat.le_of_eq rfl) (hb hby at_136) (fun _ _ => ⟨rfl, e214, (by decide : 1 + 0 ≤ _), (by decide : 16 + 0 ≤ _)⟩)
      dsimp only [Pt.U, Pt.locs, Pt.cells, Pt.slots] at X216 l216 y216 z216 st216 hQ216
      subst l216 y216 z216
      obtain ⟨rfl, N216q, e216⟩ := hQ216
      have N216 := Fr.app N214 N216q
      have k_217 : Go p.tables e below (s₁.setTop (entryFrame m #[(.int q1), (.int q2), (.int q3)] maxLocals)) (T216.setTop (mkF m 147 #[iv q1, iv q2, iv q3, rv b30, iv pt, .val (.int (((q3 &&& (2147483647 : Int32)) % (3 : Int32)) - (1 : Int32)))] [(.int 1)])) := fun t q => by
        refine k_215 t ?_
        refine st216 _ ?_
        show Steps _ _ _ (T216.setTop (mkF m 139 #[iv q1, iv q2, iv q3, rv b30, iv pt, .val (.int (((q3 &&& (2147483647 : Int32)) % (3 : Int32)) - (1 : Int32)))] [(.int 1), (.int 1)])) _
        refine XS.icmpNo X216.here hx rfl (hb hby at_139) rfl (by decide) ?_
        show Steps _ _ _ (T216.setTop (mkF m 142 #[iv q1, iv q2, iv q3, rv b30, iv pt, .val (.int (((q3 &&& (2147483647 : Int32)) % (3 : Int32)) - (1 : Int32)))] [])) _
        refine XS.iconst X216.here hx rfl (hb hby at_142) ?_
        show Steps _ _ _ (T216.setTop (mkF m 143 #[iv q1, iv q2, iv q3, rv b30, iv pt, .val (.int (((q3 &&& (2147483647 : Int32)) % (3 : Int32)) - (1 : Int32)))] [(.int 1)])) _
        refine XS.goto X216.here hx rfl (pc0 := 143) (pc' := 147) rfl (hb hby at_143) (by decide) (by decide) ?_
        show Steps _ _ _ (T216.setTop (mkF m 147 #[iv q1, iv q2, iv q3, rv b30, iv pt, .val (.int (((q3 &&& (2147483647 : Int32)) % (3 : Int32)) - (1 : Int32)))] [(.int 1)])) _
        exact q
      obtain ⟨fs, hr, hrun, hended, hW, hsame⟩ := X216.leave (v := some (.int 1)) (fun h => by rw [Bd.returns] at h; cases h)
      refine ⟨_, _, k_217 _ ?_, hrun, hended, _, _, rfl, ?_, ⟨_, rfl⟩, hW, hsame.mono (by decide) (by decide)⟩
      · exact retN X216 hx (t := .boolean) Bd.returns (by simp) (hb hby at_147) hr
      · show Q0 n0 _ T216.heap _
        rw [e216]
        exact ⟨rfl, N216⟩
    · skip
      have k_218 : Go p.tables e below (s₁.setTop (entryFrame m #[(.int q1), (.int q2), (.int q3)] maxLocals)) (T110.setTop (mkF m 131 #[iv q1, iv q2, iv q3, rv b30, iv pt, .val (.int (((q3 &&& (2147483647 : Int32)) % (3 : Int32)) - (1 : Int32)))] [(.int pt)])) := fun t q => by
        refine k_187 t ?_
        refine XS.iload X110.here hx rfl (hb hby at_129) rfl ?_
        show Steps _ _ _ (T110.setTop (mkF m 131 #[iv q1, iv q2, iv q3, rv b30, iv pt, .val (.int (((q3 &&& (2147483647 : Int32)) % (3 : Int32)) - (1 : Int32)))] [(.int pt)])) _
        exact q
      obtain ⟨_, _, ⟨T219, L219, k219, n219⟩, -, X219, ⟨Lc219, hQ219, l219, y219, z219⟩, st219⟩ := Jvm.LawKit.callS X110 hx (y := y_0) hown (mvT hZ (hw _ (wd 10 rfl))) (mvT hZ (hw _ (wd 11 rfl))) (mvT hZ (hw _ (wd 12 rfl))) (mvT hZ (hw _ (wd 13 rfl))) (by decide) (backOf (W := 0) (ic_6 l Z a0 hw [] pt h110 n0 O_111 hr.1 hr.2) hZ (hw _ (wd 13 rfl)) (hw _ (wd 12 rfl)) (by decide) (by decide)) (g := (mkF m 131 #[iv q1, iv q2, iv q3, rv b30, iv pt, .val (.int (((q3 &&& (2147483647 : Int32)) % (3 : Int32)) - (1 : Int32)))] [(.int pt)])) rfl (by rw [hml]; rfl) (argsL := [(.int pt)]) (rest := []) (lenOf pd_0 rfl) rfl (by show 2 * 0 + _ ≤ _; exact Nat.le_of_eq rfl) (hb hby at_131) (fun _ _ => ⟨rfl, e110, (by decide : 1 + 0 ≤ _), (by decide : 16 + 0 ≤ _)⟩)
      dsimp only [Pt.U, Pt.locs, Pt.cells, Pt.slots] at X219 l219 y219 z219 st219 hQ219
      subst l219 y219 z219
      obtain ⟨rfl, N219q, e219⟩ := hQ219
      have N219 := Fr.app N110 N219q
      have k_220 : Go p.tables e below (s₁.setTop (entryFrame m #[(.int q1), (.int q2), (.int q3)] maxLocals)) (T219.setTop (mkF m 136 #[iv q1, iv q2, iv q3, rv b30, iv pt, .val (.int (((q3 &&& (2147483647 : Int32)) % (3 : Int32)) - (1 : Int32)))] [(.int pt), (.int 0)])) := fun t q => by
        refine k_218 t ?_
        refine st219 _ ?_
        show Steps _ _ _ (T219.setTop (mkF m 134 #[iv q1, iv q2, iv q3, rv b30, iv pt, .val (.int (((q3 &&& (2147483647 : Int32)) % (3 : Int32)) - (1 : Int32)))] [(.int 0)])) _
        refine XS.iload X219.here hx rfl (hb hby at_134) rfl ?_
        show Steps _ _ _ (T219.setTop (mkF m 136 #[iv q1, iv q2, iv q3, rv b30, iv pt, .val (.int (((q3 &&& (2147483647 : Int32)) % (3 : Int32)) - (1 : Int32)))] [(.int pt), (.int 0)])) _
        exact q
      obtain ⟨_, _, ⟨T221, L221, k221, n221⟩, -, X221, ⟨Lc221, hQ221, l221, y221, z221⟩, st221⟩ := Jvm.LawKit.callS X219 hx (y := y_1) hown (mvT hZ (hw _ (wd 16 rfl))) (mvT hZ (hw _ (wd 17 rfl))) (mvT hZ (hw _ (wd 18 rfl))) (mvT hZ (hw _ (wd 19 rfl))) (by decide) (backOf (W := 1) (ex_6 l Z a0 hw [] pt h110 n0 O_111 hr.1 hr.2) hZ (hw _ (wd 19 rfl)) (hw _ (wd 18 rfl)) (by decide) (by decide)) (g := (mkF m 136 #[iv q1, iv q2, iv q3, rv b30, iv pt, .val (.int (((q3 &&& (2147483647 : Int32)) % (3 : Int32)) - (1 : Int32)))] [(.int pt), (.int 0)])) rfl (by rw [hml]; rfl) (argsL := [(.int pt)]) (rest := [(.int 0)]) (lenOf pd_0 rfl) rfl (by show 2 * 0 + _ ≤ _; exact Nat.le_of_eq rfl) (hb hby at_136) (fun _ _ => ⟨rfl, e219, (by decide : 1 + 0 ≤ _), (by decide : 16 + 0 ≤ _)⟩)
      dsimp only [Pt.U, Pt.locs, Pt.cells, Pt.slots] at X221 l221 y221 z221 st221 hQ221
      subst l221 y221 z221
      obtain ⟨rfl, N221q, e221⟩ := hQ221
      have N221 := Fr.app N219 N221q
      have k_222 : Go p.tables e below (s₁.setTop (entryFrame m #[(.int q1), (.int q2), (.int q3)] maxLocals)) (T221.setTop (mkF m 147 #[iv q1, iv q2, iv q3, rv b30, iv pt, .val (.int (((q3 &&& (2147483647 : Int32)) % (3 : Int32)) - (1 : Int32)))] [(.int 1)])) := fun t q => by
        refine k_220 t ?_
        refine st221 _ ?_
        show Steps _ _ _ (T221.setTop (mkF m 139 #[iv q1, iv q2, iv q3, rv b30, iv pt, .val (.int (((q3 &&& (2147483647 : Int32)) % (3 : Int32)) - (1 : Int32)))] [(.int 0), (.int 0)])) _
        refine XS.icmpNo X221.here hx rfl (hb hby at_139) rfl (by decide) ?_
        show Steps _ _ _ (T221.setTop (mkF m 142 #[iv q1, iv q2, iv q3, rv b30, iv pt, .val (.int (((q3 &&& (2147483647 : Int32)) % (3 : Int32)) - (1 : Int32)))] [])) _
        refine XS.iconst X221.here hx rfl (hb hby at_142) ?_
        show Steps _ _ _ (T221.setTop (mkF m 143 #[iv q1, iv q2, iv q3, rv b30, iv pt, .val (.int (((q3 &&& (2147483647 : Int32)) % (3 : Int32)) - (1 : Int32)))] [(.int 1)])) _
        refine XS.goto X221.here hx rfl (pc0 := 143) (pc' := 147) rfl (hb hby at_143) (by decide) (by decide) ?_
        show Steps _ _ _ (T221.setTop (mkF m 147 #[iv q1, iv q2, iv q3, rv b30, iv pt, .val (.int (((q3 &&& (2147483647 : Int32)) % (3 : Int32)) - (1 : Int32)))] [(.int 1)])) _
        exact q
      obtain ⟨fs, hr, hrun, hended, hW, hsame⟩ := X221.leave (v := some (.int 1)) (fun h => by rw [Bd.returns] at h; cases h)
      refine ⟨_, _, k_222 _ ?_, hrun, hended, _, _, rfl, ?_, ⟨_, rfl⟩, hW, hsame.mono (by decide) (by decide)⟩
      · exact retN X221 hx (t := .boolean) Bd.returns (by simp) (hb hby at_147) hr
      · show Q0 n0 _ T221.heap _
        rw [e221]
        exact ⟨rfl, N221⟩
    · skip
      have k_223 : Go p.tables e below (s₁.setTop (entryFrame m #[(.int q1), (.int q2), (.int q3)] maxLocals)) (T110.setTop (mkF m 131 #[iv q1, iv q2, iv q3, rv b30, iv pt, .val (.int (((q3 &&& (2147483647 : Int32)) % (3 : Int32)) - (1 : Int32)))] [(.int pt)])) := fun t q => by
        refine k_187 t ?_
        refine XS.iload X110.here hx rfl (hb hby at_129) rfl ?_
        show Steps _ _ _ (T110.setTop (mkF m 131 #[iv q1, iv q2, iv q3, rv b30, iv pt, .val (.int (((q3 &&& (2147483647 : Int32)) % (3 : Int32)) - (1 : Int32)))] [(.int pt)])) _
        exact q
      obtain ⟨_, _, ⟨T224, L224, k224, n224⟩, -, X224, ⟨Lc224, hQ224, l224, y224, z224⟩, st224⟩ := Jvm.LawKit.callS X110 hx (y := y_0) hown (mvT hZ (hw _ (wd 10 rfl))) (mvT hZ (hw _ (wd 11 rfl))) (mvT hZ (hw _ (wd 12 rfl))) (mvT hZ (hw _ (wd 13 rfl))) (by decide) (backOf (W := 0) (ic_7 l Z a0 hw [] pt h110 n0 O_111 hr.1 hr.2) hZ (hw _ (wd 13 rfl)) (hw _ (wd 12 rfl)) (by decide) (by decide)) (g := (mkF m 131 #[iv q1, iv q2, iv q3, rv b30, iv pt, .val (.int (((q3 &&& (2147483647 : Int32)) % (3 : Int32)) - (1 : Int32)))] [(.int pt)])) rfl (by rw [hml]; rfl) (argsL := [(.int pt)]) (rest := []) (lenOf pd_0 rfl) rfl (by show 2 * 0 + _ ≤ _; exact Nat.le_of_eq rfl) (hb hby at_131) (fun _ _ => ⟨rfl, e110, (by decide : 1 + 0 ≤ _), (by decide : 16 + 0 ≤ _)⟩)
      dsimp only [Pt.U, Pt.locs, Pt.cells, Pt.slots] at X224 l224 y224 z224 st224 hQ224
      subst l224 y224 z224
      obtain ⟨rfl, N224q, e224⟩ := hQ224
      have N224 := Fr.app N110 N224q
      have k_225 : Go p.tables e below (s₁.setTop (entryFrame m #[(.int q1), (.int q2), (.int q3)] maxLocals)) (T224.setTop (mkF m 136 #[iv q1, iv q2, iv q3, rv b30, iv pt, .val (.int (((q3 &&& (2147483647 : Int32)) % (3 : Int32)) - (1 : Int32)))] [(.int pt), (.int 1)])) := fun t q => by
        refine k_223 t ?_
        refine st224 _ ?_
        show Steps _ _ _ (T224.setTop (mkF m 134 #[iv q1, iv q2, iv q3, rv b30, iv pt, .val (.int (((q3 &&& (2147483647 : Int32)) % (3 : Int32)) - (1 : Int32)))] [(.int 1)])) _
        refine XS.iload X224.here hx rfl (hb hby at_134) rfl ?_
        show Steps _ _ _ (T224.setTop (mkF m 136 #[iv q1, iv q2, iv q3, rv b30, iv pt, .val (.int (((q3 &&& (2147483647 : Int32)) % (3 : Int32)) - (1 : Int32)))] [(.int pt), (.int 1)])) _
        exact q
      obtain ⟨_, _, ⟨T226, L226, k226, n226⟩, -, X226, ⟨Lc226, hQ226, l226, y226, z226⟩, st226⟩ := Jvm.LawKit.callS X224 hx (y := y_1) hown (mvT hZ (hw _ (wd 16 rfl))) (mvT hZ (hw _ (wd 17 rfl))) (mvT hZ (hw _ (wd 18 rfl))) (mvT hZ (hw _ (wd 19 rfl))) (by decide) (backOf (W := 1) (ex_7 l Z a0 hw [] pt h110 n0 O_111 hr.1 hr.2) hZ (hw _ (wd 19 rfl)) (hw _ (wd 18 rfl)) (by decide) (by decide)) (g := (mkF m 136 #[iv q1, iv q2, iv q3, rv b30, iv pt, .val (.int (((q3 &&& (2147483647 : Int32)) % (3 : Int32)) - (1 : Int32)))] [(.int pt), (.int 1)])) rfl (by rw [hml]; rfl) (argsL := [(.int pt)]) (rest := [(.int 1)]) (lenOf pd_0 rfl) rfl (by show 2 * 0 + _ ≤ _; exact Nat.le_of_eq rfl) (hb hby at_136) (fun _ _ => ⟨rfl, e224, (by decide : 1 + 0 ≤ _), (by decide : 16 + 0 ≤ _)⟩)
      dsimp only [Pt.U, Pt.locs, Pt.cells, Pt.slots] at X226 l226 y226 z226 st226 hQ226
      subst l226 y226 z226
      obtain ⟨rfl, N226q, e226⟩ := hQ226
      have N226 := Fr.app N224 N226q
      have k_227 : Go p.tables e below (s₁.setTop (entryFrame m #[(.int q1), (.int q2), (.int q3)] maxLocals)) (T226.setTop (mkF m 147 #[iv q1, iv q2, iv q3, rv b30, iv pt, .val (.int (((q3 &&& (2147483647 : Int32)) % (3 : Int32)) - (1 : Int32)))] [(.int 1)])) := fun t q => by
        refine k_225 t ?_
        refine st226 _ ?_
        show Steps _ _ _ (T226.setTop (mkF m 139 #[iv q1, iv q2, iv q3, rv b30, iv pt, .val (.int (((q3 &&& (2147483647 : Int32)) % (3 : Int32)) - (1 : Int32)))] [(.int 1), (.int 1)])) _
        refine XS.icmpNo X226.here hx rfl (hb hby at_139) rfl (by decide) ?_
        show Steps _ _ _ (T226.setTop (mkF m 142 #[iv q1, iv q2, iv q3, rv b30, iv pt, .val (.int (((q3 &&& (2147483647 : Int32)) % (3 : Int32)) - (1 : Int32)))] [])) _
        refine XS.iconst X226.here hx rfl (hb hby at_142) ?_
        show Steps _ _ _ (T226.setTop (mkF m 143 #[iv q1, iv q2, iv q3, rv b30, iv pt, .val (.int (((q3 &&& (2147483647 : Int32)) % (3 : Int32)) - (1 : Int32)))] [(.int 1)])) _
        refine XS.goto X226.here hx rfl (pc0 := 143) (pc' := 147) rfl (hb hby at_143) (by decide) (by decide) ?_
        show Steps _ _ _ (T226.setTop (mkF m 147 #[iv q1, iv q2, iv q3, rv b30, iv pt, .val (.int (((q3 &&& (2147483647 : Int32)) % (3 : Int32)) - (1 : Int32)))] [(.int 1)])) _
        exact q
      obtain ⟨fs, hr, hrun, hended, hW, hsame⟩ := X226.leave (v := some (.int 1)) (fun h => by rw [Bd.returns] at h; cases h)
      refine ⟨_, _, k_227 _ ?_, hrun, hended, _, _, rfl, ?_, ⟨_, rfl⟩, hW, hsame.mono (by decide) (by decide)⟩
      · exact retN X226 hx (t := .boolean) Bd.returns (by simp) (hb hby at_147) hr
      · show Q0 n0 _ T226.heap _
        rw [e226]
        exact ⟨rfl, N226⟩
    · skip
      have k_228 : Go p.tables e below (s₁.setTop (entryFrame m #[(.int q1), (.int q2), (.int q3)] maxLocals)) (T110.setTop (mkF m 131 #[iv q1, iv q2, iv q3, rv b30, iv pt, .val (.int (((q3 &&& (2147483647 : Int32)) % (3 : Int32)) - (1 : Int32)))] [(.int pt)])) := fun t q => by
        refine k_187 t ?_
        refine XS.iload X110.here hx rfl (hb hby at_129) rfl ?_
        show Steps _ _ _ (T110.setTop (mkF m 131 #[iv q1, iv q2, iv q3, rv b30, iv pt, .val (.int (((q3 &&& (2147483647 : Int32)) % (3 : Int32)) - (1 : Int32)))] [(.int pt)])) _
        exact q
      obtain ⟨_, _, ⟨T229, L229, k229, n229⟩, -, X229, ⟨Lc229, hQ229, l229, y229, z229⟩, st229⟩ := Jvm.LawKit.callS X110 hx (y := y_0) hown (mvT hZ (hw _ (wd 10 rfl))) (mvT hZ (hw _ (wd 11 rfl))) (mvT hZ (hw _ (wd 12 rfl))) (mvT hZ (hw _ (wd 13 rfl))) (by decide) (backOf (W := 0) (ic_8 l Z a0 hw [] pt h110 n0 O_111 hr.1 hr.2) hZ (hw _ (wd 13 rfl)) (hw _ (wd 12 rfl)) (by decide) (by decide)) (g := (mkF m 131 #[iv q1, iv q2, iv q3, rv b30, iv pt, .val (.int (((q3 &&& (2147483647 : Int32)) % (3 : Int32)) - (1 : Int32)))] [(.int pt)])) rfl (by rw [hml]; rfl) (argsL := [(.int pt)]) (rest := []) (lenOf pd_0 rfl) rfl (by show 2 * 0 + _ ≤ _; exact Nat.le_of_eq rfl) (hb hby at_131) (fun _ _ => ⟨rfl, e110, (by decide : 1 + 0 ≤ _), (by decide : 16 + 0 ≤ _)⟩)
      dsimp only [Pt.U, Pt.locs, Pt.cells, Pt.slots] at X229 l229 y229 z229 st229 hQ229
      subst l229 y229 z229
      obtain ⟨rfl, N229q, e229⟩ := hQ229
      have N229 := Fr.app N110 N229q
      have k_230 : Go p.tables e below (s₁.setTop (entryFrame m #[(.int q1), (.int q2), (.int q3)] maxLocals)) (T229.setTop (mkF m 136 #[iv q1, iv q2, iv q3, rv b30, iv pt, .val (.int (((q3 &&& (2147483647 : Int32)) % (3 : Int32)) - (1 : Int32)))] [(.int pt), (.int 0)])) := fun t q => by
        refine k_228 t ?_
        refine st229 _ ?_
        show Steps _ _ _ (T229.setTop (mkF m 134 #[iv q1, iv q2, iv q3, rv b30, iv pt, .val (.int (((q3 &&& (2147483647 : Int32)) % (3 : Int32)) - (1 : Int32)))] [(.int 0)])) _
        refine XS.iload X229.here hx rfl (hb hby at_134) rfl ?_
        show Steps _ _ _ (T229.setTop (mkF m 136 #[iv q1, iv q2, iv q3, rv b30, iv pt, .val (.int (((q3 &&& (2147483647 : Int32)) % (3 : Int32)) - (1 : Int32)))] [(.int pt), (.int 0)])) _
        exact q
      obtain ⟨_, _, ⟨T231, L231, k231, n231⟩, -, X231, ⟨Lc231, hQ231, l231, y231, z231⟩, st231⟩ := Jvm.LawKit.callS X229 hx (y := y_1) hown (mvT hZ (hw _ (wd 16 rfl))) (mvT hZ (hw _ (wd 17 rfl))) (mvT hZ (hw _ (wd 18 rfl))) (mvT hZ (hw _ (wd 19 rfl))) (by decide) (backOf (W := 1) (ex_8 l Z a0 hw [] pt h110 n0 O_111 hr.1 hr.2) hZ (hw _ (wd 19 rfl)) (hw _ (wd 18 rfl)) (by decide) (by decide)) (g := (mkF m 136 #[iv q1, iv q2, iv q3, rv b30, iv pt, .val (.int (((q3 &&& (2147483647 : Int32)) % (3 : Int32)) - (1 : Int32)))] [(.int pt), (.int 0)])) rfl (by rw [hml]; rfl) (argsL := [(.int pt)]) (rest := [(.int 0)]) (lenOf pd_0 rfl) rfl (by show 2 * 0 + _ ≤ _; exact Nat.le_of_eq rfl) (hb hby at_136) (fun _ _ => ⟨rfl, e229, (by decide : 1 + 0 ≤ _), (by decide : 16 + 0 ≤ _)⟩)
      dsimp only [Pt.U, Pt.locs, Pt.cells, Pt.slots] at X231 l231 y231 z231 st231 hQ231
      subst l231 y231 z231
      obtain ⟨rfl, N231q, e231⟩ := hQ231
      have N231 := Fr.app N229 N231q
      have k_232 : Go p.tables e below (s₁.setTop (entryFrame m #[(.int q1), (.int q2), (.int q3)] maxLocals)) (T231.setTop (mkF m 147 #[iv q1, iv q2, iv q3, rv b30, iv pt, .val (.int (((q3 &&& (2147483647 : Int32)) % (3 : Int32)) - (1 : Int32)))] [(.int 1)])) := fun t q => by
        refine k_230 t ?_
        refine st231 _ ?_
        show Steps _ _ _ (T231.setTop (mkF m 139 #[iv q1, iv q2, iv q3, rv b30, iv pt, .val (.int (((q3 &&& (2147483647 : Int32)) % (3 : Int32)) - (1 : Int32)))] [(.int 0), (.int 0)])) _
        refine XS.icmpNo X231.here hx rfl (hb hby at_139) rfl (by decide) ?_
        show Steps _ _ _ (T231.setTop (mkF m 142 #[iv q1, iv q2, iv q3, rv b30, iv pt, .val (.int (((q3 &&& (2147483647 : Int32)) % (3 : Int32)) - (1 : Int32)))] [])) _
        refine XS.iconst X231.here hx rfl (hb hby at_142) ?_
        show Steps _ _ _ (T231.setTop (mkF m 143 #[iv q1, iv q2, iv q3, rv b30, iv pt, .val (.int (((q3 &&& (2147483647 : Int32)) % (3 : Int32)) - (1 : Int32)))] [(.int 1)])) _
        refine XS.goto X231.here hx rfl (pc0 := 143) (pc' := 147) rfl (hb hby at_143) (by decide) (by decide) ?_
        show Steps _ _ _ (T231.setTop (mkF m 147 #[iv q1, iv q2, iv q3, rv b30, iv pt, .val (.int (((q3 &&& (2147483647 : Int32)) % (3 : Int32)) - (1 : Int32)))] [(.int 1)])) _
        exact q
      obtain ⟨fs, hr, hrun, hended, hW, hsame⟩ := X231.leave (v := some (.int 1)) (fun h => by rw [Bd.returns] at h; cases h)
      refine ⟨_, _, k_232 _ ?_, hrun, hended, _, _, rfl, ?_, ⟨_, rfl⟩, hW, hsame.mono (by decide) (by decide)⟩
      · exact retN X231 hx (t := .boolean) Bd.returns (by simp) (hb hby at_147) hr
      · show Q0 n0 _ T231.heap _
        rw [e231]
        exact ⟨rfl, N231⟩
    · skip
      have k_233 : Go p.tables e below (s₁.setTop (entryFrame m #[(.int q1), (.int q2), (.int q3)] maxLocals)) (T110.setTop (mkF m 131 #[iv q1, iv q2, iv q3, rv b30, iv pt, .val (.int (((q3 &&& (2147483647 : Int32)) % (3 : Int32)) - (1 : Int32)))] [(.int pt)])) := fun t q => by
        refine k_187 t ?_
        refine XS.iload X110.here hx rfl (hb hby at_129) rfl ?_
        show Steps _ _ _ (T110.setTop (mkF m 131 #[iv q1, iv q2, iv q3, rv b30, iv pt, .val (.int (((q3 &&& (2147483647 : Int32)) % (3 : Int32)) - (1 : Int32)))] [(.int pt)])) _
        exact q
      obtain ⟨_, _, ⟨T234, L234, k234, n234⟩, -, X234, ⟨Lc234, hQ234, l234, y234, z234⟩, st234⟩ := Jvm.LawKit.callS X110 hx (y := y_0) hown (mvT hZ (hw _ (wd 10 rfl))) (mvT hZ (hw _ (wd 11 rfl))) (mvT hZ (hw _ (wd 12 rfl))) (mvT hZ (hw _ (wd 13 rfl))) (by decide) (backOf (W := 0) (ic_9 l Z a0 hw [] pt h110 n0 O_111 hr.1 hr.2) hZ (hw _ (wd 13 rfl)) (hw _ (wd 12 rfl)) (by decide) (by decide)) (g := (mkF m 131 #[iv q1, iv q2, iv q3, rv b30, iv pt, .val (.int (((q3 &&& (2147483647 : Int32)) % (3 : Int32)) - (1 : Int32)))] [(.int pt)])) rfl (by rw [hml]; rfl) (argsL := [(.int pt)]) (rest := []) (lenOf pd_0 rfl) rfl (by show 2 * 0 + _ ≤ _; exact Nat.le_of_eq rfl) (hb hby at_131) (fun _ _ => ⟨rfl, e110, (by decide : 1 + 0 ≤ _), (by decide : 16 + 0 ≤ _)⟩)
      dsimp only [Pt.U, Pt.locs, Pt.cells, Pt.slots] at X234 l234 y234 z234 st234 hQ234
      subst l234 y234 z234
      obtain ⟨rfl, N234q, e234⟩ := hQ234
      have N234 := Fr.app N110 N234q
      have k_235 : Go p.tables e below (s₁.setTop (entryFrame m #[(.int q1), (.int q2), (.int q3)] maxLocals)) (T234.setTop (mkF m 136 #[iv q1, iv q2, iv q3, rv b30, iv pt, .val (.int (((q3 &&& (2147483647 : Int32)) % (3 : Int32)) - (1 : Int32)))] [(.int pt), (.int 1)])) := fun t q => by
        refine k_233 t ?_
        refine st234 _ ?_
        show Steps _ _ _ (T234.setTop (mkF m 134 #[iv q1, iv q2, iv q3, rv b30, iv pt, .val (.int (((q3 &&& (2147483647 : Int32)) % (3 : Int32)) - (1 : Int32)))] [(.int 1)])) _
        refine XS.iload X234.here hx rfl (hb hby at_134) rfl ?_
        show Steps _ _ _ (T234.setTop (mkF m 136 #[iv q1, iv q2, iv q3, rv b30, iv pt, .val (.int (((q3 &&& (2147483647 : Int32)) % (3 : Int32)) - (1 : Int32)))] [(.int pt), (.int 1)])) _
        exact q
      obtain ⟨_, _, ⟨T236, L236, k236, n236⟩, -, X236, ⟨Lc236, hQ236, l236, y236, z236⟩, st236⟩ := Jvm.LawKit.callS X234 hx (y := y_1) hown (mvT hZ (hw _ (wd 16 rfl))) (mvT hZ (hw _ (wd 17 rfl))) (mvT hZ (hw _ (wd 18 rfl))) (mvT hZ (hw _ (wd 19 rfl))) (by decide) (backOf (W := 1) (ex_9 l Z a0 hw [] pt h110 n0 O_111 hr.1 hr.2) hZ (hw _ (wd 19 rfl)) (hw _ (wd 18 rfl)) (by decide) (by decide)) (g := (mkF m 136 #[iv q1, iv q2, iv q3, rv b30, iv pt, .val (.int (((q3 &&& (2147483647 : Int32)) % (3 : Int32)) - (1 : Int32)))] [(.int pt), (.int 1)])) rfl (by rw [hml]; rfl) (argsL := [(.int pt)]) (rest := [(.int 1)]) (lenOf pd_0 rfl) rfl (by show 2 * 0 + _ ≤ _; exact Nat.le_of_eq rfl) (hb hby at_136) (fun _ _ => ⟨rfl, e234, (by decide : 1 + 0 ≤ _), (by decide : 16 + 0 ≤ _)⟩)
      dsimp only [Pt.U, Pt.locs, Pt.cells, Pt.slots] at X236 l236 y236 z236 st236 hQ236
      subst l236 y236 z236
      obtain ⟨rfl, N236q, e236⟩ := hQ236
      have N236 := Fr.app N234 N236q
      have k_237 : Go p.tables e below (s₁.setTop (entryFrame m #[(.int q1), (.int q2), (.int q3)] maxLocals)) (T236.setTop (mkF m 147 #[iv q1, iv q2, iv q3, rv b30, iv pt, .val (.int (((q3 &&& (2147483647 : Int32)) % (3 : Int32)) - (1 : Int32)))] [(.int 1)])) := fun t q => by
        refine k_235 t ?_
        refine st236 _ ?_
        show Steps _ _ _ (T236.setTop (mkF m 139 #[iv q1, iv q2, iv q3, rv b30, iv pt, .val (.int (((q3 &&& (2147483647 : Int32)) % (3 : Int32)) - (1 : Int32)))] [(.int 1), (.int 1)])) _
        refine XS.icmpNo X236.here hx rfl (hb hby at_139) rfl (by decide) ?_
        show Steps _ _ _ (T236.setTop (mkF m 142 #[iv q1, iv q2, iv q3, rv b30, iv pt, .val (.int (((q3 &&& (2147483647 : Int32)) % (3 : Int32)) - (1 : Int32)))] [])) _
        refine XS.iconst X236.here hx rfl (hb hby at_142) ?_
        show Steps _ _ _ (T236.setTop (mkF m 143 #[iv q1, iv q2, iv q3, rv b30, iv pt, .val (.int (((q3 &&& (2147483647 : Int32)) % (3 : Int32)) - (1 : Int32)))] [(.int 1)])) _
        refine XS.goto X236.here hx rfl (pc0 := 143) (pc' := 147) rfl (hb hby at_143) (by decide) (by decide) ?_
        show Steps _ _ _ (T236.setTop (mkF m 147 #[iv q1, iv q2, iv q3, rv b30, iv pt, .val (.int (((q3 &&& (2147483647 : Int32)) % (3 : Int32)) - (1 : Int32)))] [(.int 1)])) _
        exact q
      obtain ⟨fs, hr, hrun, hended, hW, hsame⟩ := X236.leave (v := some (.int 1)) (fun h => by rw [Bd.returns] at h; cases h)
      refine ⟨_, _, k_237 _ ?_, hrun, hended, _, _, rfl, ?_, ⟨_, rfl⟩, hW, hsame.mono (by decide) (by decide)⟩
      · exact retN X236 hx (t := .boolean) Bd.returns (by simp) (hb hby at_147) hr
      · show Q0 n0 _ T236.heap _
        rw [e236]
        exact ⟨rfl, N236⟩
    · skip
      have k_238 : Go p.tables e below (s₁.setTop (entryFrame m #[(.int q1), (.int q2), (.int q3)] maxLocals)) (T110.setTop (mkF m 131 #[iv q1, iv q2, iv q3, rv b30, iv pt, .val (.int (((q3 &&& (2147483647 : Int32)) % (3 : Int32)) - (1 : Int32)))] [(.int pt)])) := fun t q => by
        refine k_187 t ?_
        refine XS.iload X110.here hx rfl (hb hby at_129) rfl ?_
        show Steps _ _ _ (T110.setTop (mkF m 131 #[iv q1, iv q2, iv q3, rv b30, iv pt, .val (.int (((q3 &&& (2147483647 : Int32)) % (3 : Int32)) - (1 : Int32)))] [(.int pt)])) _
        exact q
      obtain ⟨_, _, ⟨T239, L239, k239, n239⟩, -, X239, ⟨Lc239, hQ239, l239, y239, z239⟩, st239⟩ := Jvm.LawKit.callS X110 hx (y := y_0) hown (mvT hZ (hw _ (wd 10 rfl))) (mvT hZ (hw _ (wd 11 rfl))) (mvT hZ (hw _ (wd 12 rfl))) (mvT hZ (hw _ (wd 13 rfl))) (by decide) (backOf (W := 0) (ic_10 l Z a0 hw [] pt h110 n0 O_111 hr.1 hr.2) hZ (hw _ (wd 13 rfl)) (hw _ (wd 12 rfl)) (by decide) (by decide)) (g := (mkF m 131 #[iv q1, iv q2, iv q3, rv b30, iv pt, .val (.int (((q3 &&& (2147483647 : Int32)) % (3 : Int32)) - (1 : Int32)))] [(.int pt)])) rfl (by rw [hml]; rfl) (argsL := [(.int pt)]) (rest := []) (lenOf pd_0 rfl) rfl (by show 2 * 0 + _ ≤ _; exact Nat.le_of_eq rfl) (hb hby at_131) (fun _ _ => ⟨rfl, e110, (by decide : 1 + 0 ≤ _), (by decide : 16 + 0 ≤ _)⟩)
      dsimp only [Pt.U, Pt.locs, Pt.cells, Pt.slots] at X239 l239 y239 z239 st239 hQ239
      subst l239 y239 z239
      obtain ⟨rfl, N239q, e239⟩ := hQ239
      have N239 := Fr.app N110 N239q
      have k_240 : Go p.tables e below (s₁.setTop (entryFrame m #[(.int q1), (.int q2), (.int q3)] maxLocals)) (T239.setTop (mkF m 136 #[iv q1, iv q2, iv q3, rv b30, iv pt, .val (.int (((q3 &&& (2147483647 : Int32)) % (3 : Int32)) - (1 : Int32)))] [(.int pt), (.int 0)])) := fun t q => by
        refine k_238 t ?_
        refine st239 _ ?_
        show Steps _ _ _ (T239.setTop (mkF m 134 #[iv q1, iv q2, iv q3, rv b30, iv pt, .val (.int (((q3 &&& (2147483647 : Int32)) % (3 : Int32)) - (1 : Int32)))] [(.int 0)])) _
        refine XS.iload X239.here hx rfl (hb hby at_134) rfl ?_
        show Steps _ _ _ (T239.setTop (mkF m 136 #[iv q1, iv q2, iv q3, rv b30, iv pt, .val (.int (((q3 &&& (2147483647 : Int32)) % (3 : Int32)) - (1 : Int32)))] [(.int pt), (.int 0)])) _
        exact q
      obtain ⟨_, _, ⟨T241, L241, k241, n241⟩, -, X241, ⟨Lc241, hQ241, l241, y241, z241⟩, st241⟩ := Jvm.LawKit.callS X239 hx (y := y_1) hown (mvT hZ (hw _ (wd 16 rfl))) (mvT hZ (hw _ (wd 17 rfl))) (mvT hZ (hw _ (wd 18 rfl))) (mvT hZ (hw _ (wd 19 rfl))) (by decide) (backOf (W := 1) (ex_10 l Z a0 hw [] pt h110 n0 O_111 hr.1 hr.2) hZ (hw _ (wd 19 rfl)) (hw _ (wd 18 rfl)) (by decide) (by decide)) (g := (mkF m 136 #[iv q1, iv q2, iv q3, rv b30, iv pt, .val (.int (((q3 &&& (2147483647 : Int32)) % (3 : Int32)) - (1 : Int32)))] [(.int pt), (.int 0)])) rfl (by rw [hml]; rfl) (argsL := [(.int pt)]) (rest := [(.int 0)]) (lenOf pd_0 rfl) rfl (by show 2 * 0 + _ ≤ _; exact Nat.le_of_eq rfl) (hb hby at_136) (fun _ _ => ⟨rfl, e239, (by decide : 1 + 0 ≤ _), (by decide : 16 + 0 ≤ _)⟩)
      dsimp only [Pt.U, Pt.locs, Pt.cells, Pt.slots] at X241 l241 y241 z241 st241 hQ241
      subst l241 y241 z241
      obtain ⟨rfl, N241q, e241⟩ := hQ241
      have N241 := Fr.app N239 N241q
      have k_242 : Go p.tables e below (s₁.setTop (entryFrame m #[(.int q1), (.int q2), (.int q3)] maxLocals)) (T241.setTop (mkF m 147 #[iv q1, iv q2, iv q3, rv b30, iv pt, .val (.int (((q3 &&& (2147483647 : Int32)) % (3 : Int32)) - (1 : Int32)))] [(.int 1)])) := fun t q => by
        refine k_240 t ?_
        refine st241 _ ?_
        show Steps _ _ _ (T241.setTop (mkF m 139 #[iv q1, iv q2, iv q3, rv b30, iv pt, .val (.int (((q3 &&& (2147483647 : Int32)) % (3 : Int32)) - (1 : Int32)))] [(.int 0), (.int 0)])) _
        refine XS.icmpNo X241.here hx rfl (hb hby at_139) rfl (by decide) ?_
        show Steps _ _ _ (T241.setTop (mkF m 142 #[iv q1, iv q2, iv q3, rv b30, iv pt, .val (.int (((q3 &&& (2147483647 : Int32)) % (3 : Int32)) - (1 : Int32)))] [])) _
        refine XS.iconst X241.here hx rfl (hb hby at_142) ?_
        show Steps _ _ _ (T241.setTop (mkF m 143 #[iv q1, iv q2, iv q3, rv b30, iv pt, .val (.int (((q3 &&& (2147483647 : Int32)) % (3 : Int32)) - (1 : Int32)))] [(.int 1)])) _
        refine XS.goto X241.here hx rfl (pc0 := 143) (pc' := 147) rfl (hb hby at_143) (by decide) (by decide) ?_
        show Steps _ _ _ (T241.setTop (mkF m 147 #[iv q1, iv q2, iv q3, rv b30, iv pt, .val (.int (((q3 &&& (2147483647 : Int32)) % (3 : Int32)) - (1 : Int32)))] [(.int 1)])) _
        exact q
      obtain ⟨fs, hr, hrun, hended, hW, hsame⟩ := X241.leave (v := some (.int 1)) (fun h => by rw [Bd.returns] at h; cases h)
      refine ⟨_, _, k_242 _ ?_, hrun, hended, _, _, rfl, ?_, ⟨_, rfl⟩, hW, hsame.mono (by decide) (by decide)⟩
      · exact retN X241 hx (t := .boolean) Bd.returns (by simp) (hb hby at_147) hr
      · show Q0 n0 _ T241.heap _
        rw [e241]
        exact ⟨rfl, N241⟩
    · skip
      have k_243 : Go p.tables e below (s₁.setTop (entryFrame m #[(.int q1), (.int q2), (.int q3)] maxLocals)) (T110.setTop (mkF m 131 #[iv q1, iv q2, iv q3, rv b30, iv pt, .val (.int (((q3 &&& (2147483647 : Int32)) % (3 : Int32)) - (1 : Int32)))] [(.int pt)])) := fun t q => by
        refine k_187 t ?_
        refine XS.iload X110.here hx rfl (hb hby at_129) rfl ?_
        show Steps _ _ _ (T110.setTop (mkF m 131 #[iv q1, iv q2, iv q3, rv b30, iv pt, .val (.int (((q3 &&& (2147483647 : Int32)) % (3 : Int32)) - (1 : Int32)))] [(.int pt)])) _
        exact q
      obtain ⟨_, _, ⟨T244, L244, k244, n244⟩, -, X244, ⟨Lc244, hQ244, l244, y244, z244⟩, st244⟩ := Jvm.LawKit.callS X110 hx (y := y_0) hown (mvT hZ (hw _ (wd 10 rfl))) (mvT hZ (hw _ (wd 11 rfl))) (mvT hZ (hw _ (wd 12 rfl))) (mvT hZ (hw _ (wd 13 rfl))) (by decide) (backOf (W := 0) (ic_11 l Z a0 hw [] pt h110 n0 O_111 hr.1 hr.2) hZ (hw _ (wd 13 rfl)) (hw _ (wd 12 rfl)) (by decide) (by decide)) (g := (mkF m 131 #[iv q1, iv q2, iv q3, rv b30, iv pt, .val (.int (((q3 &&& (2147483647 : Int32)) % (3 : Int32)) - (1 : Int32)))] [(.int pt)])) rfl (by rw [hml]; rfl) (argsL := [(.int pt)]) (rest := []) (lenOf pd_0 rfl) rfl (by show 2 * 0 + _ ≤ _; exact Nat.le_of_eq rfl) (hb hby at_131) (fun _ _ => ⟨rfl, e110, (by decide : 1 + 0 ≤ _), (by decide : 16 + 0 ≤ _)⟩)
      dsimp only [Pt.U, Pt.locs, Pt.cells, Pt.slots] at X244 l244 y244 z244 st244 hQ244
      subst l244 y244 z244
      obtain ⟨rfl, N244q, e244⟩ := hQ244
      have N244 := Fr.app N110 N244q
      have k_245 : Go p.tables e below (s₁.setTop (entryFrame m #[(.int q1), (.int q2), (.int q3)] maxLocals)) (T244.setTop (mkF m 136 #[iv q1, iv q2, iv q3, rv b30, iv pt, .val (.int (((q3 &&& (2147483647 : Int32)) % (3 : Int32)) - (1 : Int32)))] [(.int pt), (.int 0)])) := fun t q => by
        refine k_243 t ?_
        refine st244 _ ?_
        show Steps _ _ _ (T244.setTop (mkF m 134 #[iv q1, iv q2, iv q3, rv b30, iv pt, .val (.int (((q3 &&& (2147483647 : Int32)) % (3 : Int32)) - (1 : Int32)))] [(.int 0)])) _
        refine XS.iload X244.here hx rfl (hb hby at_134) rfl ?_
        show Steps _ _ _ (T244.setTop (mkF m 136 #[iv q1, iv q2, iv q3, rv b30, iv pt, .val (.int (((q3 &&& (2147483647 : Int32)) % (3 : Int32)) - (1 : Int32)))] [(.int pt), (.int 0)])) _
        exact q
      obtain ⟨_, _, ⟨T246, L246, k246, n246⟩, -, X246, ⟨Lc246, hQ246, l246, y246, z246⟩, st246⟩ := Jvm.LawKit.callS X244 hx (y := y_1) hown (mvT hZ (hw _ (wd 16 rfl))) (mvT hZ (hw _ (wd 17 rfl))) (mvT hZ (hw _ (wd 18 rfl))) (mvT hZ (hw _ (wd 19 rfl))) (by decide) (backOf (W := 1) (ex_11 l Z a0 hw [] pt h110 n0 O_111 hr.1 hr.2) hZ (hw _ (wd 19 rfl)) (hw _ (wd 18 rfl)) (by decide) (by decide)) (g := (mkF m 136 #[iv q1, iv q2, iv q3, rv b30, iv pt, .val (.int (((q3 &&& (2147483647 : Int32)) % (3 : Int32)) - (1 : Int32)))] [(.int pt), (.int 0)])) rfl (by rw [hml]; rfl) (argsL := [(.int pt)]) (rest := [(.int 0)]) (lenOf pd_0 rfl) rfl (by show 2 * 0 + _ ≤ _; exact Nat.le_of_eq rfl) (hb hby at_136) (fun _ _ => ⟨rfl, e244, (by decide : 1 + 0 ≤ _), (by decide : 16 + 0 ≤ _)⟩)
      dsimp only [Pt.U, Pt.locs, Pt.cells, Pt.slots] at X246 l246 y246 z246 st246 hQ246
      subst l246 y246 z246
      obtain ⟨rfl, N246q, e246⟩ := hQ246
      have N246 := Fr.app N244 N246q
      have k_247 : Go p.tables e below (s₁.setTop (entryFrame m #[(.int q1), (.int q2), (.int q3)] maxLocals)) (T246.setTop (mkF m 147 #[iv q1, iv q2, iv q3, rv b30, iv pt, .val (.int (((q3 &&& (2147483647 : Int32)) % (3 : Int32)) - (1 : Int32)))] [(.int 1)])) := fun t q => by
        refine k_245 t ?_
        refine st246 _ ?_
        show Steps _ _ _ (T246.setTop (mkF m 139 #[iv q1, iv q2, iv q3, rv b30, iv pt, .val (.int (((q3 &&& (2147483647 : Int32)) % (3 : Int32)) - (1 : Int32)))] [(.int 0), (.int 0)])) _
        refine XS.icmpNo X246.here hx rfl (hb hby at_139) rfl (by decide) ?_
        show Steps _ _ _ (T246.setTop (mkF m 142 #[iv q1, iv q2, iv q3, rv b30, iv pt, .val (.int (((q3 &&& (2147483647 : Int32)) % (3 : Int32)) - (1 : Int32)))] [])) _
        refine XS.iconst X246.here hx rfl (hb hby at_142) ?_
        show Steps _ _ _ (T246.setTop (mkF m 143 #[iv q1, iv q2, iv q3, rv b30, iv pt, .val (.int (((q3 &&& (2147483647 : Int32)) % (3 : Int32)) - (1 : Int32)))] [(.int 1)])) _
        refine XS.goto X246.here hx rfl (pc0 := 143) (pc' := 147) rfl (hb hby at_143) (by decide) (by decide) ?_
        show Steps _ _ _ (T246.setTop (mkF m 147 #[iv q1, iv q2, iv q3, rv b30, iv pt, .val (.int (((q3 &&& (2147483647 : Int32)) % (3 : Int32)) - (1 : Int32)))] [(.int 1)])) _
        exact q
      obtain ⟨fs, hr, hrun, hended, hW, hsame⟩ := X246.leave (v := some (.int 1)) (fun h => by rw [Bd.returns] at h; cases h)
      refine ⟨_, _, k_247 _ ?_, hrun, hended, _, _, rfl, ?_, ⟨_, rfl⟩, hW, hsame.mono (by decide) (by decide)⟩
      · exact retN X246 hx (t := .boolean) Bd.returns (by simp) (hb hby at_147) hr
      · show Q0 n0 _ T246.heap _
        rw [e246]
        exact ⟨rfl, N246⟩
    · skip
      have k_248 : Go p.tables e below (s₁.setTop (entryFrame m #[(.int q1), (.int q2), (.int q3)] maxLocals)) (T110.setTop (mkF m 131 #[iv q1, iv q2, iv q3, rv b30, iv pt, .val (.int (((q3 &&& (2147483647 : Int32)) % (3 : Int32)) - (1 : Int32)))] [(.int pt)])) := fun t q => by
        refine k_187 t ?_
        refine XS.iload X110.here hx rfl (hb hby at_129) rfl ?_
        show Steps _ _ _ (T110.setTop (mkF m 131 #[iv q1, iv q2, iv q3, rv b30, iv pt, .val (.int (((q3 &&& (2147483647 : Int32)) % (3 : Int32)) - (1 : Int32)))] [(.int pt)])) _
        exact q
      obtain ⟨_, _, ⟨T249, L249, k249, n249⟩, -, X249, ⟨Lc249, hQ249, l249, y249, z249⟩, st249⟩ := Jvm.LawKit.callS X110 hx (y := y_0) hown (mvT hZ (hw _ (wd 10 rfl))) (mvT hZ (hw _ (wd 11 rfl))) (mvT hZ (hw _ (wd 12 rfl))) (mvT hZ (hw _ (wd 13 rfl))) (by decide) (backOf (W := 0) (ic_12 l Z a0 hw [] pt h110 n0 O_111 hr.1 hr.2) hZ (hw _ (wd 13 rfl)) (hw _ (wd 12 rfl)) (by decide) (by decide)) (g := (mkF m 131 #[iv q1, iv q2, iv q3, rv b30, iv pt, .val (.int (((q3 &&& (2147483647 : Int32)) % (3 : Int32)) - (1 : Int32)))] [(.int pt)])) rfl (by rw [hml]; rfl) (argsL := [(.int pt)]) (rest := []) (lenOf pd_0 rfl) rfl (by show 2 * 0 + _ ≤ _; exact Nat.le_of_eq rfl) (hb hby at_131) (fun _ _ => ⟨rfl, e110, (by decide : 1 + 0 ≤ _), (by decide : 16 + 0 ≤ _)⟩)
      dsimp only [Pt.U, Pt.locs, Pt.cells, Pt.slots] at X249 l249 y249 z249 st249 hQ249
      subst l249 y249 z249
      obtain ⟨rfl, N249q, e249⟩ := hQ249
      have N249 := Fr.app N110 N249q
      have k_250 : Go p.tables e below (s₁.setTop (entryFrame m #[(.int q1), (.int q2), (.int q3)] maxLocals)) (T249.setTop (mkF m 136 #[iv q1, iv q2, iv q3, rv b30, iv pt, .val (.int (((q3 &&& (2147483647 : Int32)) % (3 : Int32)) - (1 : Int32)))] [(.int pt), (.int 1)])) := fun t q => by
        refine k_248 t ?_
        refine st249 _ ?_
        show Steps _ _ _ (T249.setTop (mkF m 134 #[iv q1, iv q2, iv q3, rv b30, iv pt, .val (.int (((q3 &&& (2147483647 : Int32)) % (3 : Int32)) - (1 : Int32)))] [(.int 1)])) _
        refine XS.iload X249.here hx rfl (hb hby at_134) rfl ?_
        show Steps _ _ _ (T249.setTop (mkF m 136 #[iv q1, iv q2, iv q3, rv b30, iv pt, .val (.int (((q3 &&& (2147483647 : Int32)) % (3 : Int32)) - (1 : Int32)))] [(.int pt), (.int 1)])) _
        exact q
      obtain ⟨_, _, ⟨T251, L251, k251, n251⟩, -, X251, ⟨Lc251, hQ251, l251, y251, z251⟩, st251⟩ := Jvm.LawKit.callS X249 hx (y := y_1) hown (mvT hZ (hw _ (wd 16 rfl))) (mvT hZ (hw _ (wd 17 rfl))) (mvT hZ (hw _ (wd 18 rfl))) (mvT hZ (hw _ (wd 19 rfl))) (by decide) (backOf (W := 1) (ex_12 l Z a0 hw [] pt h110 n0 O_111 hr.1 hr.2) hZ (hw _ (wd 19 rfl)) (hw _ (wd 18 rfl)) (by decide) (by decide)) (g := (mkF m 136 #[iv q1, iv q2, iv q3, rv b30, iv pt, .val (.int (((q3 &&& (2147483647 : Int32)) % (3 : Int32)) - (1 : Int32)))] [(.int pt), (.int 1)])) rfl (by rw [hml]; rfl) (argsL := [(.int pt)]) (rest := [(.int 1)]) (lenOf pd_0 rfl) rfl (by show 2 * 0 + _ ≤ _; exact Nat.le_of_eq rfl) (hb hby at_136) (fun _ _ => ⟨rfl, e249, (by decide : 1 + 0 ≤ _), (by decide : 16 + 0 ≤ _)⟩)
      dsimp only [Pt.U, Pt.locs, Pt.cells, Pt.slots] at X251 l251 y251 z251 st251 hQ251
      subst l251 y251 z251
      obtain ⟨rfl, N251q, e251⟩ := hQ251
      have N251 := Fr.app N249 N251q
      have k_252 : Go p.tables e below (s₁.setTop (entryFrame m #[(.int q1), (.int q2), (.int q3)] maxLocals)) (T251.setTop (mkF m 147 #[iv q1, iv q2, iv q3, rv b30, iv pt, .val (.int (((q3 &&& (2147483647 : Int32)) % (3 : Int32)) - (1 : Int32)))] [(.int 1)])) := fun t q => by
        refine k_250 t ?_
        refine st251 _ ?_
        show Steps _ _ _ (T251.setTop (mkF m 139 #[iv q1, iv q2, iv q3, rv b30, iv pt, .val (.int (((q3 &&& (2147483647 : Int32)) % (3 : Int32)) - (1 : Int32)))] [(.int 1), (.int 1)])) _
        refine XS.icmpNo X251.here hx rfl (hb hby at_139) rfl (by decide) ?_
        show Steps _ _ _ (T251.setTop (mkF m 142 #[iv q1, iv q2, iv q3, rv b30, iv pt, .val (.int (((q3 &&& (2147483647 : Int32)) % (3 : Int32)) - (1 : Int32)))] [])) _
        refine XS.iconst X251.here hx rfl (hb hby at_142) ?_
        show Steps _ _ _ (T251.setTop (mkF m 143 #[iv q1, iv q2, iv q3, rv b30, iv pt, .val (.int (((q3 &&& (2147483647 : Int32)) % (3 : Int32)) - (1 : Int32)))] [(.int 1)])) _
        refine XS.goto X251.here hx rfl (pc0 := 143) (pc' := 147) rfl (hb hby at_143) (by decide) (by decide) ?_
        show Steps _ _ _ (T251.setTop (mkF m 147 #[iv q1, iv q2, iv q3, rv b30, iv pt, .val (.int (((q3 &&& (2147483647 : Int32)) % (3 : Int32)) - (1 : Int32)))] [(.int 1)])) _
        exact q
      obtain ⟨fs, hr, hrun, hended, hW, hsame⟩ := X251.leave (v := some (.int 1)) (fun h => by rw [Bd.returns] at h; cases h)
      refine ⟨_, _, k_252 _ ?_, hrun, hended, _, _, rfl, ?_, ⟨_, rfl⟩, hW, hsame.mono (by decide) (by decide)⟩
      · exact retN X251 hx (t := .boolean) Bd.returns (by simp) (hb hby at_147) hr
      · show Q0 n0 _ T251.heap _
        rw [e251]
        exact ⟨rfl, N251⟩
    · skip
      have k_253 : Go p.tables e below (s₁.setTop (entryFrame m #[(.int q1), (.int q2), (.int q3)] maxLocals)) (T110.setTop (mkF m 131 #[iv q1, iv q2, iv q3, rv b30, iv pt, .val (.int (((q3 &&& (2147483647 : Int32)) % (3 : Int32)) - (1 : Int32)))] [(.int pt)])) := fun t q => by
        refine k_187 t ?_
        refine XS.iload X110.here hx rfl (hb hby at_129) rfl ?_
        show Steps _ _ _ (T110.setTop (mkF m 131 #[iv q1, iv q2, iv q3, rv b30, iv pt, .val (.int (((q3 &&& (2147483647 : Int32)) % (3 : Int32)) - (1 : Int32)))] [(.int pt)])) _
        exact q
      obtain ⟨_, _, ⟨T254, L254, k254, n254⟩, -, X254, ⟨Lc254, hQ254, l254, y254, z254⟩, st254⟩ := Jvm.LawKit.callS X110 hx (y := y_0) hown (mvT hZ (hw _ (wd 10 rfl))) (mvT hZ (hw _ (wd 11 rfl))) (mvT hZ (hw _ (wd 12 rfl))) (mvT hZ (hw _ (wd 13 rfl))) (by decide) (backOf (W := 0) (ic_13 l Z a0 hw [] pt h110 n0 O_111 hr.1 hr.2) hZ (hw _ (wd 13 rfl)) (hw _ (wd 12 rfl)) (by decide) (by decide)) (g := (mkF m 131 #[iv q1, iv q2, iv q3, rv b30, iv pt, .val (.int (((q3 &&& (2147483647 : Int32)) % (3 : Int32)) - (1 : Int32)))] [(.int pt)])) rfl (by rw [hml]; rfl) (argsL := [(.int pt)]) (rest := []) (lenOf pd_0 rfl) rfl (by show 2 * 0 + _ ≤ _; exact Nat.le_of_eq rfl) (hb hby at_131) (fun _ _ => ⟨rfl, e110, (by decide : 1 + 0 ≤ _), (by decide : 16 + 0 ≤ _)⟩)
      dsimp only [Pt.U, Pt.locs, Pt.cells, Pt.slots] at X254 l254 y254 z254 st254 hQ254
      subst l254 y254 z254
      obtain ⟨rfl, N254q, e254⟩ := hQ254
      have N254 := Fr.app N110 N254q
      have k_255 : Go p.tables e below (s₁.setTop (entryFrame m #[(.int q1), (.int q2), (.int q3)] maxLocals)) (T254.setTop (mkF m 136 #[iv q1, iv q2, iv q3, rv b30, iv pt, .val (.int (((q3 &&& (2147483647 : Int32)) % (3 : Int32)) - (1 : Int32)))] [(.int pt), (.int 0)])) := fun t q => by
        refine k_253 t ?_
        refine st254 _ ?_
        show Steps _ _ _ (T254.setTop (mkF m 134 #[iv q1, iv q2, iv q3, rv b30, iv pt, .val (.int (((q3 &&& (2147483647 : Int32)) % (3 : Int32)) - (1 : Int32)))] [(.int 0)])) _
        refine XS.iload X254.here hx rfl (hb hby at_134) rfl ?_
        show Steps _ _ _ (T254.setTop (mkF m 136 #[iv q1, iv q2, iv q3, rv b30, iv pt, .val (.int (((q3 &&& (2147483647 : Int32)) % (3 : Int32)) - (1 : Int32)))] [(.int pt), (.int 0)])) _
        exact q
      obtain ⟨_, _, ⟨T256, L256, k256, n256⟩, -, X256, ⟨Lc256, hQ256, l256, y256, z256⟩, st256⟩ := Jvm.LawKit.callS X254 hx (y := y_1) hown (mvT hZ (hw _ (wd 16 rfl))) (mvT hZ (hw _ (wd 17 rfl))) (mvT hZ (hw _ (wd 18 rfl))) (mvT hZ (hw _ (wd 19 rfl))) (by decide) (backOf (W := 1) (ex_13 l Z a0 hw [] pt h110 n0 O_111 hr.1 hr.2) hZ (hw _ (wd 19 rfl)) (hw _ (wd 18 rfl)) (by decide) (by decide)) (g := (mkF m 136 #[iv q1, iv q2, iv q3, rv b30, iv pt, .val (.int (((q3 &&& (2147483647 : Int32)) % (3 : Int32)) - (1 : Int32)))] [(.int pt), (.int 0)])) rfl (by rw [hml]; rfl) (argsL := [(.int pt)]) (rest := [(.int 0)]) (lenOf pd_0 rfl) rfl (by show 2 * 0 + _ ≤ _; exact Nat.le_of_eq rfl) (hb hby at_136) (fun _ _ => ⟨rfl, e254, (by decide : 1 + 0 ≤ _), (by decide : 16 + 0 ≤ _)⟩)
      dsimp only [Pt.U, Pt.locs, Pt.cells, Pt.slots] at X256 l256 y256 z256 st256 hQ256
      subst l256 y256 z256
      obtain ⟨rfl, N256q, e256⟩ := hQ256
      have N256 := Fr.app N254 N256q
      have k_257 : Go p.tables e below (s₁.setTop (entryFrame m #[(.int q1), (.int q2), (.int q3)] maxLocals)) (T256.setTop (mkF m 147 #[iv q1, iv q2, iv q3, rv b30, iv pt, .val (.int (((q3 &&& (2147483647 : Int32)) % (3 : Int32)) - (1 : Int32)))] [(.int 1)])) := fun t q => by
        refine k_255 t ?_
        refine st256 _ ?_
        show Steps _ _ _ (T256.setTop (mkF m 139 #[iv q1, iv q2, iv q3, rv b30, iv pt, .val (.int (((q3 &&& (2147483647 : Int32)) % (3 : Int32)) - (1 : Int32)))] [(.int 0), (.int 0)])) _
        refine XS.icmpNo X256.here hx rfl (hb hby at_139) rfl (by decide) ?_
        show Steps _ _ _ (T256.setTop (mkF m 142 #[iv q1, iv q2, iv q3, rv b30, iv pt, .val (.int (((q3 &&& (2147483647 : Int32)) % (3 : Int32)) - (1 : Int32)))] [])) _
        refine XS.iconst X256.here hx rfl (hb hby at_142) ?_
        show Steps _ _ _ (T256.setTop (mkF m 143 #[iv q1, iv q2, iv q3, rv b30, iv pt, .val (.int (((q3 &&& (2147483647 : Int32)) % (3 : Int32)) - (1 : Int32)))] [(.int 1)])) _
        refine XS.goto X256.here hx rfl (pc0 := 143) (pc' := 147) rfl (hb hby at_143) (by decide) (by decide) ?_
        show Steps _ _ _ (T256.setTop (mkF m 147 #[iv q1, iv q2, iv q3, rv b30, iv pt, .val (.int (((q3 &&& (2147483647 : Int32)) % (3 : Int32)) - (1 : Int32)))] [(.int 1)])) _
        exact q
      obtain ⟨fs, hr, hrun, hended, hW, hsame⟩ := X256.leave (v := some (.int 1)) (fun h => by rw [Bd.returns] at h; cases h)
      refine ⟨_, _, k_257 _ ?_, hrun, hended, _, _, rfl, ?_, ⟨_, rfl⟩, hW, hsame.mono (by decide) (by decide)⟩
      · exact retN X256 hx (t := .boolean) Bd.returns (by simp) (hb hby at_147) hr
      · show Q0 n0 _ T256.heap _
        rw [e256]
        exact ⟨rfl, N256⟩
set_option maxRecDepth 65536 in
set_option maxHeartbeats 40000000 in
theorem comes_1 {Post : Tables → Env → Array Value → State → Outcome → State → Prop} (hpost : ∀ tb e args s v u, (limb_1_1.after args s (.returned v) u = true ∧ limb_1_2.after args s (.returned v) u = true ∧ True) → FrameEnd s (.returned v) u (Jvm.fieldLocs frame_1_writes args s ++ Jvm.arrayLocs frame_1_arrays args s ++ Jvm.staticLocs frame_1_statics s) 16 128 → Post tb e args s (.returned v) u) :
    ArmFor flags0 classFile x code maxLocals ret World_1 tables_1 room_1 Calls_1 rest_1 Pre_1 Post := by
  intro l hfl _ _ p e ha hc hk s m args below hf hA hF happ hP
  obtain ⟨hcalls, hrest, hpre⟩ := hP
  obtain ⟨-, -, -, hnamed, -, -, -, hat⟩ := (Spec.applies_iff hf).mp happ
  obtain ⟨hg, hn⟩ := and_e (Cond.before_iff.mp (show (Jvm.Cond.and given_1 narrow_1).before args s = true from hpre))
  obtain ⟨g0, c0⟩ := and_e hg
  obtain ⟨g1, c1⟩ := and_e c0
  obtain ⟨g2, c2⟩ := and_e c1
  obtain ⟨w0, w1, w2, rfl⟩ : ∃ w0 w1 w2 : Value, args = #[w0, w1, w2] := by
    have hs : args.size = 3 := by simpa [Cond.value, given_1] using g0
    obtain ⟨L⟩ := args
    match L, hs with
    | [w0, w1, w2], _ => exact ⟨w0, w1, w2, rfl⟩
  have hw := fun d (hd : d ∈ tables_1) => atoms_spec (ws := Jvm.Cond.code x code maxLocals ret :: tables_1) hat d (List.mem_cons_of_mem _ hd)
  obtain ⟨i0, ei0⟩ := is_v g1
  obtain rfl : w0 = (.int i0) := Option.some.inj ei0
  obtain ⟨i1, ei1⟩ := is_v g2
  obtain rfl : w1 = (.int i1) := Option.some.inj ei1
  obtain ⟨i2, ei2⟩ := is_v c2
  obtain rfl : w2 = (.int i2) := Option.some.inj ei2
  obtain ⟨n, o, h1, h2, h3, _, L, rfl, ⟨rfl, N⟩, hq⟩ := rm0 l s _ hw tables_1 i0 i1 i2 s.heap s.heap.size (Old.start s) p e ha hc hk s m _ below hf ((Spec.applies_iff_loose hf).mp happ).1 ⟨rfl, State.Warmed39.refl s, rfl⟩ trivial
  refine ⟨n, _, h1, h2, h3, hpost _ _ _ _ _ _ ⟨Cond.after_iff.mpr rfl, Cond.after_iff.mpr (eq_i res_at (Term.int_eval (1)) rfl), trivial⟩ ⟨hq.1, hq.2.1, (hq.2.2.sift fun y hy => Or.inr (N y hy)).mono (by decide) (by decide)⟩⟩
theorem main_1_1 : Claimed_1_1 := comes_1 fun _ _ _ _ _ _ h hF => ⟨h.1, hF⟩
theorem main_1_2 : Claimed_1_2 := comes_1 fun _ _ _ _ _ _ h hF => ⟨h.2.1, hF⟩
end Jvm.Pilot.@@N@@
namespace Jvm.Pilot.@@N@@
open Jvm Jvm.ClassFile Sem Op Lib Jvm.Free Jvm.Stand Jvm.Pilot.@@N@@.Jvm.D
/-! MADE BY PROGRAM (witnessworld.py) out of the Statement's table words and the real class files: 9 classes; the members and pool entries that the words name. The judged class is class 1, her method 1. -/
namespace start1
open Jvm.ClassFile
def u (s : String) : CpInfo := .utf8 (stringToUtf16 s)
/-- a pool by its gaps: so many unusable entries, then the entry; so many at the end -/
def gap : Nat → List CpInfo → List CpInfo
  | 0, r => r
  | n + 1, r => .unusable :: gap n r
def poolList (es : List (Nat × CpInfo)) (last : Nat) : List CpInfo := es.foldr (fun e r => gap e.1 (e.2 :: r)) (gap last [])
def pool (es : List (Nat × CpInfo)) (last : Nat) : Array CpInfo := ⟨poolList es last⟩
def fileOf (pool : Array CpInfo) (this : Nat) (attrs : Array Attribute := #[]) (ms : Array MethodInfo := #[]) (fl : Nat := 33) (sup : Nat := 0) (ifs : Array Nat := #[]) (fds : Array FieldInfo := #[]) : ClassFile where
  minorVersion := 0
  majorVersion := 65
  constantPool := pool
  accessFlags := fl
  thisClass := this
  superClass := sup
  interfaces := ifs
  fields := fds
  methods := ms
  attributes := attrs
def plain (name : String) (sup : Option ClassId) : Class where
  name := name
  kind := .ordinary
  loader := none
  accessFlags := 33
  super := sup
  interfaces := #[]
  cf := none
  fields := #[]
  methods := #[]
  instanceTypes := #[]
  staticTypes := #[]
  resolved := #[]
  callSites := []
  init := .initialized
  statics := none
  mirror := none

def pool0 : Array CpInfo := pool [(5, u "<init>"), (0, u "()V"), (1, .class_ 10), (1, u "java/lang/Object")] 113

def k0m0 : Method := { name := "<init>", desc := "()V", sig := { parameters := [], returnType := none }, accessFlags := 1, code := none }
/-- java/lang/Object -/
def k0 : Class := { plain "java/lang/Object" none with
  accessFlags := 33
  interfaces := #[]
  cf := some (fileOf pool0 8 #[] #[{ accessFlags := 1, nameIndex := 5, descriptorIndex := 6, attributes := #[] }] 33 0 #[] #[])
  fields := #[]
  methods := #[k0m0]
  instanceTypes := #[]
  staticTypes := #[]
  resolved := Array.replicate 124 none
  statics := none }

def pool1 : Array CpInfo := pool [(2, .class_ 4), (1, u "java/lang/Object"), (0, u "<init>"), (0, u "()V"), (0, .integer 55295), (0, .integer 57344), (0, .integer 65533), (0, .integer 65536), (0, .integer 1114111), (0, .integer 55296), (0, .integer 57343), (0, .integer 65534), (0, .integer 2147483647), (0, .methodref 17 18), (0, .class_ 19), (0, .nameAndType 20 21), (0, u "com/example/befundweg/befundweg/XmlParser"), (0, u "isCharacter"), (0, u "(I)Z"), (0, .methodref 23 24), (0, .class_ 25), (0, .nameAndType 26 21), (0, u "com/example/befundweg/befundweg/XmlParserIsCharacterPinLaw"), (0, u "expected"), (0, .integer 65535), (2, u "law"), (0, u "(III)Z")] 5

def k1m0 : Method := { name := "<init>", desc := "()V", sig := { parameters := [], returnType := none }, accessFlags := 2, code := none }
def k1c1 : Code := { maxStack := 4, maxLocals := 6, code := code, exceptionTable := #[], attributes := #[] }
def k1m1 : Method := { name := "law", desc := "(III)Z", sig := { parameters := [.int, .int, .int], returnType := some .boolean }, accessFlags := 9, code := some k1c1 }
def k1c2 : Code := { maxStack := 2, maxLocals := 5, code := method_3_code, exceptionTable := #[], attributes := #[] }
def k1m2 : Method := { name := "expected", desc := "(I)Z", sig := { parameters := [.int], returnType := some .boolean }, accessFlags := 10, code := some k1c2 }
/-- com/example/befundweg/befundweg/XmlParserIsCharacterPinLaw -/
def k1 : Class := { plain "com/example/befundweg/befundweg/XmlParserIsCharacterPinLaw" (some 0) with
  accessFlags := 49
  interfaces := #[]
  cf := some (fileOf pool1 23 #[] #[{ accessFlags := 2, nameIndex := 5, descriptorIndex := 6, attributes := #[] }, { accessFlags := 9, nameIndex := 30, descriptorIndex := 31, attributes := #[] }, { accessFlags := 10, nameIndex := 26, descriptorIndex := 21, attributes := #[] }] 49 2 #[] #[])
  fields := #[]
  methods := #[k1m0, k1m1, k1m2]
  instanceTypes := #[]
  staticTypes := #[]
  resolved := Array.replicate 37 none
  statics := none }

def pool2 : Array CpInfo := pool [(1, .class_ 2), (0, u "com/example/befundweg/befundweg/XmlParser"), (3, .class_ 8), (1, u "java/lang/Object"), (2, .class_ 12), (0, u "com/example/befundweg/befundweg/XmlParser$Names"), (3, u "names"), (0, u "Lcom/example/befundweg/befundweg/XmlParser$Names;"), (0, .class_ 19), (0, u "com/example/befundweg/befundweg/XmlParser$RecentValues"), (3, u "values"), (0, u "Lcom/example/befundweg/befundweg/XmlParser$RecentValues;"), (0, .class_ 26), (0, u "com/example/befundweg/befundweg/XmlParser$Found"), (3, u "attributes"), (0, u "Lcom/example/befundweg/befundweg/XmlParser$Found;"), (0, .class_ 33), (0, u "com/example/befundweg/befundweg/XmlParser$Position"), (5, u "locator"), (0, u "Lcom/example/befundweg/befundweg/XmlParser$Position;"), (4, u "prefixes"), (0, u "[Ljava/lang/String;"), (2, u "namespaces"), (2, u "shadowed"), (0, u "[I"), (5, u "value"), (0, u "Ljava/lang/StringBuilder;"), (2, u "referenced"), (0, u "[C"), (2, u "text"), (2, u "kept"), (0, u "I"), (3, u "decoder"), (0, u "Lcom/example/befundweg/befundweg/XmlDecoder;"), (2, u "deepest"), (0, .class_ 81), (0, u "com/example/befundweg/befundweg/XmlParser$QName"), (2, u "openNames"), (0, u "[Lcom/example/befundweg/befundweg/XmlParser$QName;"), (2, u "openNamespaces"), (2, u "openBindings"), (2, u "handler"), (0, u "Lorg/xml/sax/ContentHandler;"), (2, u "position"), (2, u "limit"), (2, u "line"), (2, u "lineStart"), (2, u "released"), (2, u "ended"), (0, u "Z"), (2, u "depth"), (2, u "bindings"), (2, u "bindingCharacters"), (2, u "innermost"), (0, u "Ljava/util/Map;"), (2, u "scope"), (0, u "J"), (4, u "version"), (0, u "Ljava/lang/String;"), (74, u "partStart"), (2, u "declaring"), (2, u "(I)Z"), (88, .class_ 308), (0, u "com/example/befundweg/befundweg/XmlParser$DoctypeFound"), (63, u "textLength"), (84, .class_ 458), (0, u "com/example/befundweg/befundweg/XmlParser$TooDeep"), (134, u "isCharacter"), (20, .integer 55295), (0, .integer 57344), (0, .integer 65533), (0, .integer 65536), (0, .integer 1114111), (34, u "ASCII"), (0, u "[B"), (50, .class_ 706), (0, u "com/example/befundweg/befundweg/XmlParser$OverLimit"), (36, u "LONGEST_NAME"), (2, u "MOST_ATTRIBUTES"), (1, u "LONGEST_PART"), (0, u "MOST_BINDINGS"), (0, u "MOST_BINDING_CHARACTERS"), (0, u "XML_NAMESPACE"), (0, u "XMLNS_NAMESPACE"), (0, u "ROOM"), (1, u "READ"), (1, u "NAME"), (0, u "B"), (1, u "NAME_START"), (1, u "FEW_BINDINGS")] 73

def k2c0 : Code := { maxStack := 2, maxLocals := 1, code := prog_154_method_29_code, exceptionTable := #[], attributes := #[] }
def k2m0 : Method := { name := "isCharacter", desc := "(I)Z", sig := { parameters := [.int], returnType := some .boolean }, accessFlags := 8, code := some k2c0 }
/-- com/example/befundweg/befundweg/XmlParser -/
def k2 : Class := { plain "com/example/befundweg/befundweg/XmlParser" (some 0) with
  accessFlags := 48
  interfaces := #[]
  cf := some (fileOf pool2 1 #[.nestMembers #[705, 457, 307, 32, 25, 18, 11, 80]] #[{ accessFlags := 8, nameIndex := 593, descriptorIndex := 218, attributes := #[] }] 48 6 #[] #[{ accessFlags := 24, nameIndex := 743, descriptorIndex := 71, attributes := #[] }, { accessFlags := 24, nameIndex := 746, descriptorIndex := 71, attributes := #[] }, { accessFlags := 24, nameIndex := 748, descriptorIndex := 71, attributes := #[] }, { accessFlags := 24, nameIndex := 749, descriptorIndex := 71, attributes := #[] }, { accessFlags := 24, nameIndex := 750, descriptorIndex := 71, attributes := #[] }, { accessFlags := 26, nameIndex := 751, descriptorIndex := 137, attributes := #[] }, { accessFlags := 26, nameIndex := 752, descriptorIndex := 137, attributes := #[] }, { accessFlags := 24, nameIndex := 753, descriptorIndex := 71, attributes := #[] }, { accessFlags := 26, nameIndex := 755, descriptorIndex := 71, attributes := #[] }, { accessFlags := 26, nameIndex := 653, descriptorIndex := 654, attributes := #[] }, { accessFlags := 26, nameIndex := 757, descriptorIndex := 758, attributes := #[] }, { accessFlags := 26, nameIndex := 760, descriptorIndex := 758, attributes := #[] }, { accessFlags := 18, nameIndex := 79, descriptorIndex := 71, attributes := #[] }, { accessFlags := 18, nameIndex := 16, descriptorIndex := 17, attributes := #[] }, { accessFlags := 18, nameIndex := 23, descriptorIndex := 24, attributes := #[] }, { accessFlags := 18, nameIndex := 30, descriptorIndex := 31, attributes := #[] }, { accessFlags := 18, nameIndex := 39, descriptorIndex := 40, attributes := #[] }, { accessFlags := 18, nameIndex := 84, descriptorIndex := 85, attributes := #[] }, { accessFlags := 18, nameIndex := 88, descriptorIndex := 46, attributes := #[] }, { accessFlags := 18, nameIndex := 91, descriptorIndex := 53, attributes := #[] }, { accessFlags := 2, nameIndex := 117, descriptorIndex := 71, attributes := #[] }, { accessFlags := 2, nameIndex := 45, descriptorIndex := 46, attributes := #[] }, { accessFlags := 2, nameIndex := 49, descriptorIndex := 46, attributes := #[] }, { accessFlags := 2, nameIndex := 120, descriptorIndex := 71, attributes := #[] }, { accessFlags := 2, nameIndex := 123, descriptorIndex := 71, attributes := #[] }, { accessFlags := 26, nameIndex := 762, descriptorIndex := 71, attributes := #[] }, { accessFlags := 2, nameIndex := 126, descriptorIndex := 127, attributes := #[] }, { accessFlags := 2, nameIndex := 52, descriptorIndex := 53, attributes := #[] }, { accessFlags := 2, nameIndex := 130, descriptorIndex := 131, attributes := #[] }, { accessFlags := 2, nameIndex := 59, descriptorIndex := 60, attributes := #[] }, { accessFlags := 18, nameIndex := 63, descriptorIndex := 64, attributes := #[] }, { accessFlags := 2, nameIndex := 67, descriptorIndex := 64, attributes := #[] }, { accessFlags := 2, nameIndex := 98, descriptorIndex := 71, attributes := #[] }, { accessFlags := 2, nameIndex := 101, descriptorIndex := 71, attributes := #[] }, { accessFlags := 2, nameIndex := 70, descriptorIndex := 71, attributes := #[] }, { accessFlags := 2, nameIndex := 104, descriptorIndex := 71, attributes := #[] }, { accessFlags := 2, nameIndex := 110, descriptorIndex := 71, attributes := #[] }, { accessFlags := 2, nameIndex := 107, descriptorIndex := 71, attributes := #[] }, { accessFlags := 2, nameIndex := 212, descriptorIndex := 71, attributes := #[] }, { accessFlags := 2, nameIndex := 215, descriptorIndex := 114, attributes := #[] }, { accessFlags := 2, nameIndex := 372, descriptorIndex := 71, attributes := #[] }, { accessFlags := 2, nameIndex := 136, descriptorIndex := 137, attributes := #[] }, { accessFlags := 18, nameIndex := 75, descriptorIndex := 76, attributes := #[] }, { accessFlags := 2, nameIndex := 113, descriptorIndex := 114, attributes := #[] }, { accessFlags := 2, nameIndex := 94, descriptorIndex := 95, attributes := #[] }])
  fields := #[{ name := "LONGEST_NAME", type := .int, accessFlags := 24, slot := 0, constantValue := 0 }, { name := "MOST_ATTRIBUTES", type := .int, accessFlags := 24, slot := 1, constantValue := 0 }, { name := "LONGEST_PART", type := .int, accessFlags := 24, slot := 2, constantValue := 0 }, { name := "MOST_BINDINGS", type := .int, accessFlags := 24, slot := 3, constantValue := 0 }, { name := "MOST_BINDING_CHARACTERS", type := .int, accessFlags := 24, slot := 4, constantValue := 0 }, { name := "XML_NAMESPACE", type := (.object "java/lang/String"), accessFlags := 26, slot := 5, constantValue := 0 }, { name := "XMLNS_NAMESPACE", type := (.object "java/lang/String"), accessFlags := 26, slot := 6, constantValue := 0 }, { name := "ROOM", type := .int, accessFlags := 24, slot := 7, constantValue := 0 }, { name := "READ", type := .int, accessFlags := 26, slot := 8, constantValue := 0 }, { name := "ASCII", type := (.array .byte), accessFlags := 26, slot := 9, constantValue := 0 }, { name := "NAME", type := .byte, accessFlags := 26, slot := 10, constantValue := 0 }, { name := "NAME_START", type := .byte, accessFlags := 26, slot := 11, constantValue := 0 }, { name := "deepest", type := .int, accessFlags := 18, slot := 0, constantValue := 0 }, { name := "names", type := (.object "com/example/befundweg/befundweg/XmlParser$Names"), accessFlags := 18, slot := 1, constantValue := 0 }, { name := "values", type := (.object "com/example/befundweg/befundweg/XmlParser$RecentValues"), accessFlags := 18, slot := 2, constantValue := 0 }, { name := "attributes", type := (.object "com/example/befundweg/befundweg/XmlParser$Found"), accessFlags := 18, slot := 3, constantValue := 0 }, { name := "locator", type := (.object "com/example/befundweg/befundweg/XmlParser$Position"), accessFlags := 18, slot := 4, constantValue := 0 }, { name := "openNames", type := (.array (.object "com/example/befundweg/befundweg/XmlParser$QName")), accessFlags := 18, slot := 5, constantValue := 0 }, { name := "openNamespaces", type := (.array (.object "java/lang/String")), accessFlags := 18, slot := 6, constantValue := 0 }, { name := "openBindings", type := (.array .int), accessFlags := 18, slot := 7, constantValue := 0 }, { name := "depth", type := .int, accessFlags := 2, slot := 8, constantValue := 0 }, { name := "prefixes", type := (.array (.object "java/lang/String")), accessFlags := 2, slot := 9, constantValue := 0 }, { name := "namespaces", type := (.array (.object "java/lang/String")), accessFlags := 2, slot := 10, constantValue := 0 }, { name := "bindings", type := .int, accessFlags := 2, slot := 11, constantValue := 0 }, { name := "bindingCharacters", type := .int, accessFlags := 2, slot := 12, constantValue := 0 }, { name := "FEW_BINDINGS", type := .int, accessFlags := 26, slot := 12, constantValue := 0 }, { name := "innermost", type := (.object "java/util/Map"), accessFlags := 2, slot := 13, constantValue := 0 }, { name := "shadowed", type := (.array .int), accessFlags := 2, slot := 14, constantValue := 0 }, { name := "scope", type := .long, accessFlags := 2, slot := 15, constantValue := 0 }, { name := "value", type := (.object "java/lang/StringBuilder"), accessFlags := 2, slot := 16, constantValue := 0 }, { name := "referenced", type := (.array .char), accessFlags := 18, slot := 17, constantValue := 0 }, { name := "text", type := (.array .char), accessFlags := 2, slot := 18, constantValue := 0 }, { name := "position", type := .int, accessFlags := 2, slot := 19, constantValue := 0 }, { name := "limit", type := .int, accessFlags := 2, slot := 20, constantValue := 0 }, { name := "kept", type := .int, accessFlags := 2, slot := 21, constantValue := 0 }, { name := "line", type := .int, accessFlags := 2, slot := 22, constantValue := 0 }, { name := "released", type := .int, accessFlags := 2, slot := 23, constantValue := 0 }, { name := "lineStart", type := .int, accessFlags := 2, slot := 24, constantValue := 0 }, { name := "partStart", type := .int, accessFlags := 2, slot := 25, constantValue := 0 }, { name := "declaring", type := .boolean, accessFlags := 2, slot := 26, constantValue := 0 }, { name := "textLength", type := .int, accessFlags := 2, slot := 27, constantValue := 0 }, { name := "version", type := (.object "java/lang/String"), accessFlags := 2, slot := 28, constantValue := 0 }, { name := "decoder", type := (.object "com/example/befundweg/befundweg/XmlDecoder"), accessFlags := 18, slot := 29, constantValue := 0 }, { name := "ended", type := .boolean, accessFlags := 2, slot := 30, constantValue := 0 }, { name := "handler", type := (.object "org/xml/sax/ContentHandler"), accessFlags := 2, slot := 31, constantValue := 0 }]
  methods := #[k2m0]
  instanceTypes := #[.int, (.object "com/example/befundweg/befundweg/XmlParser$Names"), (.object "com/example/befundweg/befundweg/XmlParser$RecentValues"), (.object "com/example/befundweg/befundweg/XmlParser$Found"), (.object "com/example/befundweg/befundweg/XmlParser$Position"), (.array (.object "com/example/befundweg/befundweg/XmlParser$QName")), (.array (.object "java/lang/String")), (.array .int), .int, (.array (.object "java/lang/String")), (.array (.object "java/lang/String")), .int, .int, (.object "java/util/Map"), (.array .int), .long, (.object "java/lang/StringBuilder"), (.array .char), (.array .char), .int, .int, .int, .int, .int, .int, .int, .boolean, .int, (.object "java/lang/String"), (.object "com/example/befundweg/befundweg/XmlDecoder"), .boolean, (.object "org/xml/sax/ContentHandler")]
  staticTypes := #[.int, .int, .int, .int, .int, (.object "java/lang/String"), (.object "java/lang/String"), .int, .int, (.array .byte), .byte, .byte, .int]
  resolved := Array.replicate 836 none
  statics := none }

def pool3 : Array CpInfo := pool [(1, u "java/lang/Cloneable"), (0, .class_ 1), (0, u "java/lang/Object"), (0, .class_ 3)] 3

/-- java/lang/Cloneable -/
def k3 : Class := { plain "java/lang/Cloneable" (some 0) with
  accessFlags := 1537
  interfaces := #[]
  cf := some (fileOf pool3 2 #[] #[] 1537 4 #[] #[])
  fields := #[]
  methods := #[]
  instanceTypes := #[]
  staticTypes := #[]
  resolved := Array.replicate 8 none
  statics := none }

def pool4 : Array CpInfo := pool [(1, u "java/io/Serializable"), (0, .class_ 1), (0, u "java/lang/Object"), (0, .class_ 3)] 3

/-- java/io/Serializable -/
def k4 : Class := { plain "java/io/Serializable" (some 0) with
  accessFlags := 1537
  interfaces := #[]
  cf := some (fileOf pool4 2 #[] #[] 1537 4 #[] #[])
  fields := #[]
  methods := #[]
  instanceTypes := #[]
  staticTypes := #[]
  resolved := Array.replicate 8 none
  statics := none }

/-- the primitive byte -/
def k5 : Class := { plain "byte" none with kind := .primitive 'B', accessFlags := 0x411 }
/-- [B -/
def k6 : Class := { plain "[B" (some 0) with kind := .array 5 .byte, interfaces := #[3, 4], accessFlags := 1041 }

/-- the primitive int -/
def k7 : Class := { plain "int" none with kind := .primitive 'I', accessFlags := 0x411 }
/-- [I -/
def k8 : Class := { plain "[I" (some 0) with kind := .array 7 .int, interfaces := #[3, 4], accessFlags := 1041 }

def heap : Heap := #[]
def classes : Array Class := #[k0, k1, k2, k3, k4, k5, k6, k7, k8]
def interned : List (Array UInt16 × Addr) := []
def slotsUsed : Nat := 0
def theMethod : MethodId := ⟨1, 1⟩
def args0 : Array Value := #[.int 5, .int 6, .int 7]
def aboutOver (below : List Frame) : State where
  vm := { classes := classes, interned := interned.toArray }
  heap := heap
  slotsUsed := slotsUsed
  threads := #[{ frames := .invoking theMethod args0 :: below }]
def below0 : List Frame := [.native { method := ⟨0, 0⟩, args := #[] }]
def about1 : State := aboutOver below0
def p0 : Program := .bare "" "" ""
def e0 : Env := launch0.env 0 0 0
theorem w_frames : about1.frames = Frame.invoking theMethod args0 :: below0 := rfl
set_option maxRecDepth 65536 in
theorem w_args : argsFit about1.vm theMethod args0 = true := by decide +kernel
set_option maxRecDepth 65536 in
theorem w_heap : heapFits about1 = true := by decide +kernel
set_option maxRecDepth 65536 in
theorem w_runnable : about1.curStatus? = some .runnable := by decide +kernel
set_option maxRecDepth 65536 in
theorem w_alone : about1.alone = true := by decide +kernel
set_option maxRecDepth 65536 in
theorem w_named : about1.methodNamed? x = some theMethod := by decide +kernel
set_option maxRecDepth 65536 in
theorem w_hears : about1.hears theMethod below0 = true := by decide +kernel
set_option maxRecDepth 65536 in
theorem w_ripe : about1.ripe theMethod args0 below0 = true := by decide +kernel
theorem w_running : about1.status = .running := rfl
set_option maxRecDepth 65536 in
theorem w_room : about1.hasRoom e0.platform room_1 = true :=
  launch0.hasRoom_least _ room_1 (by decide +kernel) (by decide +kernel) (by decide +kernel) (by decide +kernel) (by decide +kernel) (by decide +kernel)
theorem allAtoms_all (ts : List Jvm.Cond) (a : Array Jvm.Value) (st : Jvm.State) : (allAtoms ts).before a st = ts.all (fun c => c.before a st) := by
  induction ts with
  | nil => rfl
  | cons c t ih =>
    show (Jvm.Cond.and c (allAtoms t)).before a st = _
    rw [Jvm.Cond.before_and, ih, List.all_cons]
def words1 : List Jvm.Cond := Jvm.Cond.code x code maxLocals ret :: tables_1
/-- a 'code' word, met by the world's own term for the bytes: nothing is compared byte by byte -/
theorem code_word {y : MethodName} {bytes : ByteArray} {mx : Nat} {rt : Option FieldType} {a : Array Value} {s : State} {m : MethodId} {meth : Method} {c : Code} (h1 : s.methodNamed? y = some m) (h2 : s.vm.method? m = some meth) (h3 : meth.code = some c) (h4 : c.code = bytes)
    (h5 : (c.maxLocals == mx && c.exceptionTable.isEmpty && decide (c.maxStack ≤ mostOperands) && decide (meth.sig.returnType = rt) && !meth.locks && decide (parseMethodDescriptor y.desc = some meth.sig)) = true) : (Jvm.Cond.code y bytes mx rt).before a s = true := by
  simp only [Bool.and_eq_true, beq_iff_eq, Bool.not_eq_true', decide_eq_true_eq] at h5
  obtain ⟨⟨⟨⟨⟨g1, g2⟩, g3⟩, g4⟩, g5⟩, g6⟩ := h5
  simp [Cond.before, Cond.holds, Cond.value, h1, h2, h3, h4, g1, g2, g3, g4, g5, g6]
def isCode : Jvm.Cond → Bool
  | .code _ _ _ _ => true
  | _ => false
theorem all_split {L : List Jvm.Cond} {P : Jvm.Cond → Bool} (h1 : L.all (fun c => isCode c || P c) = true) (h2 : ∀ c ∈ L.filter isCode, P c = true) : L.all P = true := by
  refine List.all_eq_true.mpr fun c hc => ?_
  have h := List.all_eq_true.mp h1 c hc
  rcases Bool.eq_false_or_eq_true (isCode c) with hi | hi
  · exact h2 c (List.mem_filter.mpr ⟨hc, hi⟩)
  · simpa [hi] using h
set_option maxRecDepth 65536 in
theorem w_c0 : (Jvm.Cond.code x code maxLocals ret).before args0 about1 = true := code_word (m := ⟨1, 1⟩) (meth := k1m1) (c := k1c1) (by decide +kernel) rfl rfl rfl (by decide +kernel)
set_option maxRecDepth 65536 in
theorem w_c1 : (Jvm.Cond.code ({ cls := "com/example/befundweg/befundweg/XmlParser", name := "isCharacter", desc := "(I)Z" } : Jvm.MethodName) prog_154_method_29_code (1 : Nat) (Option.some Jvm.ClassFile.FieldType.boolean)).before args0 about1 = true := code_word (m := ⟨2, 0⟩) (meth := k2m0) (c := k2c0) (by decide +kernel) rfl rfl rfl (by decide +kernel)
set_option maxRecDepth 65536 in
theorem w_c2 : (Jvm.Cond.code ({ cls := "com/example/befundweg/befundweg/XmlParserIsCharacterPinLaw", name := "expected", desc := "(I)Z" } : Jvm.MethodName) method_3_code (5 : Nat) (Option.some Jvm.ClassFile.FieldType.boolean)).before args0 about1 = true := code_word (m := ⟨1, 2⟩) (meth := k1m2) (c := k1c2) (by decide +kernel) rfl rfl rfl (by decide +kernel)
def codes1 : List Jvm.Cond := [Jvm.Cond.code x code maxLocals ret, Jvm.Cond.code ({ cls := "com/example/befundweg/befundweg/XmlParser", name := "isCharacter", desc := "(I)Z" } : Jvm.MethodName) prog_154_method_29_code (1 : Nat) (Option.some Jvm.ClassFile.FieldType.boolean), Jvm.Cond.code ({ cls := "com/example/befundweg/befundweg/XmlParserIsCharacterPinLaw", name := "expected", desc := "(I)Z" } : Jvm.MethodName) method_3_code (5 : Nat) (Option.some Jvm.ClassFile.FieldType.boolean)]
set_option maxRecDepth 65536 in
theorem codes_eq : words1.filter isCode = codes1 := rfl
theorem w_codes : ∀ c ∈ words1.filter isCode, c.before args0 about1 = true := by
  rw [codes_eq]
  intro c hc
  simp only [codes1, List.mem_cons, List.not_mem_nil, or_false] at hc
  rcases hc with rfl | rfl | rfl
  · exact w_c0
  · exact w_c1
  · exact w_c2
set_option maxRecDepth 65536 in
theorem w_t1 : (words1.take 24).all (fun c => isCode c || c.before args0 about1) = true := by decide +kernel
set_option maxRecDepth 65536 in
theorem w_t2 : (words1.drop 24).all (fun c => isCode c || c.before args0 about1) = true := by decide +kernel
theorem w_tables : (allAtoms (Jvm.Cond.code x code maxLocals ret :: tables_1)).before args0 about1 = true := by
  rw [allAtoms_all]
  show words1.all (fun c => c.before args0 about1) = true
  refine all_split ?_ w_codes
  rw [← List.take_append_drop 24 words1, List.all_append, w_t1, w_t2]
  rfl
set_option maxRecDepth 65536 in
theorem w_case : (Jvm.Cond.and given_1 narrow_1).before args0 about1 = true := by decide +kernel
theorem w_applies : (headSpec (Jvm.Cond.code x code maxLocals ret :: tables_1) room_1).applies x e0.platform about1 = true :=
  (Spec.applies_iff w_frames).mpr ⟨w_running, w_runnable, w_alone, w_named, w_hears, w_ripe, w_room, w_tables⟩
theorem atStart : AtStart classFile x code maxLocals ret World_1 tables_1 room_1 Calls_1 rest_1 Pre_1 launch0 p0 e0 about1 theMethod args0 below0 :=
  ⟨lists_1, trivial, launch0.admits_env _ _ _, launch0.least_env, fairChoices_fair.cas, fairChoices_fair.clock, w_frames, w_args, w_heap, w_applies, trivial, trivial, w_case⟩
end start1
theorem witness_1 : WitnessClaimed_1 := ⟨start1.p0, start1.e0, start1.about1, start1.theMethod, start1.args0, start1.below0, start1.atStart⟩
end Jvm.Pilot.@@N@@
