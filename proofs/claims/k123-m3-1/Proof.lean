import JvmDerived
import JvmDerived.Pilot.@@N@@Statement
import JvmDerived.Pilot.@@N@@Code
set_option linter.unusedVariables false
set_option linter.unusedSimpArgs false
namespace Jvm.Pilot.@@N@@
open Jvm Jvm.ClassFile Sem Op Lib Jvm.Free Jvm.Stand Jvm.LawKit Jvm.RoadKit Bundle Jvm.Pilot.@@N@@.Jvm.D
theorem wd {d : Jvm.Cond} (i : Nat) (h : tables_1[i]? = some d) : d ∈ tables_1 := List.mem_of_getElem? h
def Go (tb : Tables) (e : Env) (below : List Frame) (S0 S : State) : Prop := ∀ t, Steps tb e below S t → Steps tb e below S0 t
theorem own_old_le {Z : State} {n0 : Nat} {h : Heap} (O : Old Z n0 h) : n0 ≤ h.size := O.1 ▸ O.2.1
theorem own_lcmp_self (x : Int64) : lcmpW x x = 0 := by rw [lcW, lc_eq]
theorem own_ne {Z : State} {h : Heap} {a b : Addr} {C n d : String} {i j : Int32} (F : Fld Z h a C n d (.int i)) (G : Fld Z h b C n d (.int j)) (q : i ≠ j) : a ≠ b := F.ne G fun e => q (Value.int.inj e)
theorem own_narrow_ref {v : Value} {n : String} (h : v.isRef = true) : narrow (.object n) v = v := by rcases ref_cases h with rfl | ⟨_, rfl⟩ <;> rfl
theorem own_fits_ref {v : Value} {n : String} (h : v.isRef = true) : fits (.object n) v = true := by rcases ref_cases h with rfl | ⟨_, rfl⟩ <;> rfl
theorem own_narrow_bool {z : Int32} (h : z = 0 ∨ z = 1) : narrow .boolean (.int z) = .int z := by rcases h with rfl | rfl <;> rfl
theorem own_fits_bool {z : Int32} (h : z = 0 ∨ z = 1) : fits .boolean (.int z) = true := by rcases h with rfl | rfl <;> rfl
def QV (w : Option Value) (h0 : Heap) (n0 : Nat) (v : Option Value) (h : Heap) (L : List Loc) : Prop := v = w ∧ Fr n0 L ∧ h = h0
def Q0 (n0 : Nat) (v : Option Value) (h : Heap) (L : List Loc) : Prop := v = some (.int (1 : Int32)) ∧ Fr n0 L
abbrev y_0 : MethodName := ⟨"com/example/nkdb/nkdb/transaction/LockModeConflictsWithPinLaw", "pick", "(I)Lcom/example/nkdb/nkdb/transaction/LockMode;"⟩
abbrev y_1 : MethodName := ⟨"com/example/nkdb/nkdb/transaction/LockMode", "conflictsWith", "(Lcom/example/nkdb/nkdb/transaction/LockMode;)Z"⟩
theorem d1_0 : decode method_2_code 0 = .ok (.iload_n 0, 1) := by decide +kernel
theorem d1_1 : decode method_2_code 1 = .ok (.iconst 1, 1) := by decide +kernel
theorem d1_2 : decode method_2_code 2 = .ok (.iand, 1) := by decide +kernel
theorem d1_3 : decode method_2_code 3 = .ok (.ifCond .ne 9, 3) := by decide +kernel
theorem d1_6 : decode method_2_code 6 = .ok (.getstatic 7, 3) := by decide +kernel
theorem d1_9 : decode method_2_code 9 = .ok (.goto 6, 3) := by decide +kernel
theorem d1_12 : decode method_2_code 12 = .ok (.getstatic 13, 3) := by decide +kernel
theorem d1_15 : decode method_2_code 15 = .ok (.areturn, 1) := by decide +kernel
theorem d2_0 : decode prog_96_method_4_code 0 = .ok (.aload_n 0, 1) := by decide +kernel
theorem d2_1 : decode prog_96_method_4_code 1 = .ok (.getstatic 7, 3) := by decide +kernel
theorem d2_4 : decode prog_96_method_4_code 4 = .ok (.if_acmp .eq 10, 3) := by decide +kernel
theorem d2_7 : decode prog_96_method_4_code 7 = .ok (.aload_n 1, 1) := by decide +kernel
theorem d2_8 : decode prog_96_method_4_code 8 = .ok (.getstatic 7, 3) := by decide +kernel
theorem d2_11 : decode prog_96_method_4_code 11 = .ok (.if_acmp .ne 7, 3) := by decide +kernel
theorem d2_14 : decode prog_96_method_4_code 14 = .ok (.iconst 1, 1) := by decide +kernel
theorem d2_15 : decode prog_96_method_4_code 15 = .ok (.goto 4, 3) := by decide +kernel
theorem d2_18 : decode prog_96_method_4_code 18 = .ok (.iconst 0, 1) := by decide +kernel
theorem d2_19 : decode prog_96_method_4_code 19 = .ok (.ireturn, 1) := by decide +kernel
theorem pn_0 : plainName "com/example/nkdb/nkdb/transaction/LockModeConflictsWithPinLaw" = true := by first | (simp [plainName, overriddenIn]; done) | decide +kernel
theorem pn_1 : plainName "com/example/nkdb/nkdb/transaction/LockMode" = true := by first | (simp [plainName, overriddenIn]; done) | decide +kernel
theorem pd_0 : parseMethodDescriptor "(I)Lcom/example/nkdb/nkdb/transaction/LockMode;" = some ⟨[.int], some (.object "com/example/nkdb/nkdb/transaction/LockMode")⟩ := by decide +kernel
theorem pd_1 : parseMethodDescriptor "(Lcom/example/nkdb/nkdb/transaction/LockMode;)Z" = some ⟨[(.object "com/example/nkdb/nkdb/transaction/LockMode")], some .boolean⟩ := by decide +kernel
def Own (Z : State) (a_SHARED a_EXCLUSIVE : Addr) : Prop := Sta Z Z.heap "com/example/nkdb/nkdb/transaction/LockMode" "SHARED" "Lcom/example/nkdb/nkdb/transaction/LockMode;" (.ref a_SHARED) ∧ Exa Z Z.heap a_SHARED "com/example/nkdb/nkdb/transaction/LockMode" ∧ Sta Z Z.heap "com/example/nkdb/nkdb/transaction/LockMode" "EXCLUSIVE" "Lcom/example/nkdb/nkdb/transaction/LockMode;" (.ref a_EXCLUSIVE) ∧ Exa Z Z.heap a_EXCLUSIVE "com/example/nkdb/nkdb/transaction/LockMode" ∧ Fld Z Z.heap a_SHARED "java/lang/Enum" "ordinal" "I" (.int 0) ∧ Fld Z Z.heap a_EXCLUSIVE "java/lang/Enum" "ordinal" "I" (.int 1)
theorem own_fld {args : Array Value} {s : State} {t : Term} {C n d : String} {a : Addr} {k : Int32} (ev : t.eval args s none [] s = some (.ref a)) (h : (Jvm.Cond.eq (.field t C n d) (.int k)).value args s none s [] = some true) : Fld s s.heap a C n d (.int k) := by
  refine Fld.start ?_
  obtain ⟨u, w, h1, h2, h3, h4⟩ := cmp_v (Or.inl h)
  have e2 : w = .int k := (Option.some.inj h2).symm
  subst e2
  obtain ⟨z, rfl⟩ := h4
  rw [fld_at ev] at h1
  rw [h1]
  have q : (Jvm.Cond.eq (.field t C n d) (.int k)).value args s none s [] = some (decide (z = k)) := by simp [Cond.value, Term.eval, ev, h1]
  have := gotT q h
  rw [this]
set_option maxRecDepth 65536 in
set_option maxHeartbeats 40000000 in
theorem pick_0 (l : Launch) (Z : State) (a0 : Array Value) (hw : ∀ d ∈ tables_1, d.before a0 Z = true) (ws : List Jvm.Cond) (a_SHARED a_EXCLUSIVE : Addr) (G : Own Z a_SHARED a_EXCLUSIVE) (q1 : Int32) (h0 : Heap) (n0 : Nat) (O0 : Old Z n0 h0) (hq : q1 &&& 1 = 0) :
    MetFree l y_0 (head1 (Jvm.Cond.code y_0 method_2_code 1 (some (.object "com/example/nkdb/nkdb/transaction/LockMode")) :: ws) ({ frames := 0, cells := 0, slots := 0, locals := 0 } : Room)) (fun a U => a = #[(.int q1)] ∧ Z.Warmed39 U.vm ∧ U.heap = h0) (fun _ _ _ _ _ => True) (fun _ U o U' => ∃ v L, o = .returned v ∧ QV (some (.ref a_SHARED)) h0 n0 v U'.heap L ∧ FrameEnd U o U' L ({ frames := 0, cells := 0, slots := 0, locals := 0 } : Room).cells ({ frames := 0, cells := 0, slots := 0, locals := 0 } : Room).slots) := by
  refine MetFree.of_bodySF (plainFor_of_name pn_0) hisR ?_
  intro p e s m args below meth c s₁ Bd hml0 hP hK
  obtain ⟨rfl, hZ, hh⟩ := hP
  have hx := Bd.exec
  have hby := Bd.bytes
  have hml : c.maxLocals = 1 := hml0
  have hown : s.vm.findClass "com/example/nkdb/nkdb/transaction/LockModeConflictsWithPinLaw" = some m.cls := findClass_of_methodNamed Bd.named
  have hnm := (name_of_methodNamed Bd.named Bd.method).1
  have X0 : Stand p l e ({ frames := 0, cells := 0, slots := 0, locals := 0 } : Room) s m #[(.int q1)] below meth c s₁ [] 0 0 := Stand.of_body Bd
  have e0 : s₁.heap = h0 := by rw [← hh, Bd.state]; rfl
  have N0 := Fr.nil n0
  have K0 := Keep.refl h0 []
  have k0 : Go p.tables e below (s₁.setTop (entryFrame m #[(.int q1)] 1)) (s₁.setTop (mkF m 0 #[iv q1] [])) := fun t k => castTop (by first | rfl | (simp [entryFrame, mkF, argsToLocals, Value.category]; done)) k
  have ⟨S_SHARED, E_SHARED, S_EXCLUSIVE, E_EXCLUSIVE, R_SHARED_ordinal, R_EXCLUSIVE_ordinal⟩ := G
  have k_1 : Go p.tables e below (s₁.setTop (entryFrame m #[(.int q1)] 1)) (s₁.setTop (mkF m 6 #[iv q1] [])) := fun t q => by
    refine k0 t ?_
    refine XS.iloadN X0.here hx rfl (hb hby d1_0) rfl ?_
    show Steps _ _ _ (s₁.setTop (mkF m 1 #[iv q1] [(.int q1)])) _
    refine XS.iconst X0.here hx rfl (hb hby d1_1) ?_
    show Steps _ _ _ (s₁.setTop (mkF m 2 #[iv q1] [(.int 1), (.int q1)])) _
    refine XS.iand X0.here hx rfl (hb hby d1_2) rfl ?_
    show Steps _ _ _ (s₁.setTop (mkF m 3 #[iv q1] [(.int (q1 &&& (1 : Int32)))])) _
    rw [hq]
    show Steps _ _ _ (s₁.setTop (mkF m 3 #[iv q1] [(.int 0)])) _
    refine XS.ifNo X0.here hx rfl (hb hby d1_3) rfl (by decide) ?_
    show Steps _ _ _ (s₁.setTop (mkF m 6 #[iv q1] [])) _
    exact q
  obtain ⟨T2, X2, e2, st2⟩ := getS2 X0 hx hZ hown (host := "") (Or.inl (hw _ (wd 4 rfl))) Via.refl e0 (S_SHARED.ext O0.2) (g := (mkF m 6 #[iv q1] [])) rfl (hb hby d1_6)
  have k_3 : Go p.tables e below (s₁.setTop (entryFrame m #[(.int q1)] 1)) (T2.setTop (mkF m 15 #[iv q1] [(.ref a_SHARED)])) := fun t q => by
    refine k_1 t ?_
    refine st2 _ ?_
    show Steps _ _ _ (T2.setTop (mkF m 9 #[iv q1] [(.ref a_SHARED)])) _
    refine XS.goto X2.here hx rfl (pc0 := 9) (pc' := 15) rfl (hb hby d1_9) (by decide) (by decide) ?_
    show Steps _ _ _ (T2.setTop (mkF m 15 #[iv q1] [(.ref a_SHARED)])) _
    exact q
  obtain ⟨fs, hr, hrun, hended, hW, hsame⟩ := X2.leave (v := some (.ref a_SHARED)) (fun h => by rw [Bd.returns] at h; cases h)
  refine ⟨_, _, k_3 _ ?_, hrun, hended, _, _, rfl, ?_, ⟨_, rfl⟩, hW, hsame.mono (by decide) (by decide)⟩
  · exact retOut X2 hx Bd.returns rfl (Or.inr (Or.inr (Or.inr (Or.inr ⟨rfl, rfl, rfl⟩)))) (hb hby d1_15) hr
  · show QV (some (.ref a_SHARED)) h0 n0 _ T2.heap _
    rw [e2]
    exact ⟨rfl, N0, rfl⟩
set_option maxRecDepth 65536 in
set_option maxHeartbeats 40000000 in
theorem pick_1 (l : Launch) (Z : State) (a0 : Array Value) (hw : ∀ d ∈ tables_1, d.before a0 Z = true) (ws : List Jvm.Cond) (a_SHARED a_EXCLUSIVE : Addr) (G : Own Z a_SHARED a_EXCLUSIVE) (q1 : Int32) (h0 : Heap) (n0 : Nat) (O0 : Old Z n0 h0) (hq : q1 &&& 1 = 1) :
    MetFree l y_0 (head1 (Jvm.Cond.code y_0 method_2_code 1 (some (.object "com/example/nkdb/nkdb/transaction/LockMode")) :: ws) ({ frames := 0, cells := 0, slots := 0, locals := 0 } : Room)) (fun a U => a = #[(.int q1)] ∧ Z.Warmed39 U.vm ∧ U.heap = h0) (fun _ _ _ _ _ => True) (fun _ U o U' => ∃ v L, o = .returned v ∧ QV (some (.ref a_EXCLUSIVE)) h0 n0 v U'.heap L ∧ FrameEnd U o U' L ({ frames := 0, cells := 0, slots := 0, locals := 0 } : Room).cells ({ frames := 0, cells := 0, slots := 0, locals := 0 } : Room).slots) := by
  refine MetFree.of_bodySF (plainFor_of_name pn_0) hisR ?_
  intro p e s m args below meth c s₁ Bd hml0 hP hK
  obtain ⟨rfl, hZ, hh⟩ := hP
  have hx := Bd.exec
  have hby := Bd.bytes
  have hml : c.maxLocals = 1 := hml0
  have hown : s.vm.findClass "com/example/nkdb/nkdb/transaction/LockModeConflictsWithPinLaw" = some m.cls := findClass_of_methodNamed Bd.named
  have hnm := (name_of_methodNamed Bd.named Bd.method).1
  have X0 : Stand p l e ({ frames := 0, cells := 0, slots := 0, locals := 0 } : Room) s m #[(.int q1)] below meth c s₁ [] 0 0 := Stand.of_body Bd
  have e0 : s₁.heap = h0 := by rw [← hh, Bd.state]; rfl
  have N0 := Fr.nil n0
  have K0 := Keep.refl h0 []
  have k0 : Go p.tables e below (s₁.setTop (entryFrame m #[(.int q1)] 1)) (s₁.setTop (mkF m 0 #[iv q1] [])) := fun t k => castTop (by first | rfl | (simp [entryFrame, mkF, argsToLocals, Value.category]; done)) k
  have ⟨S_SHARED, E_SHARED, S_EXCLUSIVE, E_EXCLUSIVE, R_SHARED_ordinal, R_EXCLUSIVE_ordinal⟩ := G
  have k_4 : Go p.tables e below (s₁.setTop (entryFrame m #[(.int q1)] 1)) (s₁.setTop (mkF m 12 #[iv q1] [])) := fun t q => by
    refine k0 t ?_
    refine XS.iloadN X0.here hx rfl (hb hby d1_0) rfl ?_
    show Steps _ _ _ (s₁.setTop (mkF m 1 #[iv q1] [(.int q1)])) _
    refine XS.iconst X0.here hx rfl (hb hby d1_1) ?_
    show Steps _ _ _ (s₁.setTop (mkF m 2 #[iv q1] [(.int 1), (.int q1)])) _
    refine XS.iand X0.here hx rfl (hb hby d1_2) rfl ?_
    show Steps _ _ _ (s₁.setTop (mkF m 3 #[iv q1] [(.int (q1 &&& (1 : Int32)))])) _
    rw [hq]
    show Steps _ _ _ (s₁.setTop (mkF m 3 #[iv q1] [(.int 1)])) _
    refine XS.ifYes X0.here hx rfl (pc0 := 3) (pc' := 12) rfl (hb hby d1_3) rfl (by decide) (by decide) (by decide) ?_
    show Steps _ _ _ (s₁.setTop (mkF m 12 #[iv q1] [])) _
    exact q
  obtain ⟨T5, X5, e5, st5⟩ := getS2 X0 hx hZ hown (host := "") (Or.inl (hw _ (wd 7 rfl))) Via.refl e0 (S_EXCLUSIVE.ext O0.2) (g := (mkF m 12 #[iv q1] [])) rfl (hb hby d1_12)
  have k_6 : Go p.tables e below (s₁.setTop (entryFrame m #[(.int q1)] 1)) (T5.setTop (mkF m 15 #[iv q1] [(.ref a_EXCLUSIVE)])) := fun t q => by
    refine k_4 t ?_
    refine st5 _ ?_
    show Steps _ _ _ (T5.setTop (mkF m 15 #[iv q1] [(.ref a_EXCLUSIVE)])) _
    exact q
  obtain ⟨fs, hr, hrun, hended, hW, hsame⟩ := X5.leave (v := some (.ref a_EXCLUSIVE)) (fun h => by rw [Bd.returns] at h; cases h)
  refine ⟨_, _, k_6 _ ?_, hrun, hended, _, _, rfl, ?_, ⟨_, rfl⟩, hW, hsame.mono (by decide) (by decide)⟩
  · exact retOut X5 hx Bd.returns rfl (Or.inr (Or.inr (Or.inr (Or.inr ⟨rfl, rfl, rfl⟩)))) (hb hby d1_15) hr
  · show QV (some (.ref a_EXCLUSIVE)) h0 n0 _ T5.heap _
    rw [e5]
    exact ⟨rfl, N0, rfl⟩
set_option maxRecDepth 65536 in
set_option maxHeartbeats 40000000 in
theorem cw_0_0 (l : Launch) (Z : State) (a0 : Array Value) (hw : ∀ d ∈ tables_1, d.before a0 Z = true) (ws : List Jvm.Cond) (a_SHARED a_EXCLUSIVE : Addr) (G : Own Z a_SHARED a_EXCLUSIVE)  (h0 : Heap) (n0 : Nat) (O0 : Old Z n0 h0)  :
    MetFree l y_1 (head1 (Jvm.Cond.code y_1 prog_96_method_4_code 2 (some .boolean) :: ws) ({ frames := 0, cells := 0, slots := 0, locals := 0 } : Room)) (fun a U => a = #[(.ref a_SHARED), (.ref a_SHARED)] ∧ Z.Warmed39 U.vm ∧ U.heap = h0) (fun _ _ _ _ _ => True) (fun _ U o U' => ∃ v L, o = .returned v ∧ QV (some (.int 0)) h0 n0 v U'.heap L ∧ FrameEnd U o U' L ({ frames := 0, cells := 0, slots := 0, locals := 0 } : Room).cells ({ frames := 0, cells := 0, slots := 0, locals := 0 } : Room).slots) := by
  refine MetFree.of_bodySF (plainFor_of_name pn_1) hisR ?_
  intro p e s m args below meth c s₁ Bd hml0 hP hK
  obtain ⟨rfl, hZ, hh⟩ := hP
  have hx := Bd.exec
  have hby := Bd.bytes
  have hml : c.maxLocals = 2 := hml0
  have hown : s.vm.findClass "com/example/nkdb/nkdb/transaction/LockMode" = some m.cls := findClass_of_methodNamed Bd.named
  have hnm := (name_of_methodNamed Bd.named Bd.method).1
  have X0 : Stand p l e ({ frames := 0, cells := 0, slots := 0, locals := 0 } : Room) s m #[(.ref a_SHARED), (.ref a_SHARED)] below meth c s₁ [] 0 0 := Stand.of_body Bd
  have e0 : s₁.heap = h0 := by rw [← hh, Bd.state]; rfl
  have N0 := Fr.nil n0
  have K0 := Keep.refl h0 []
  have k0 : Go p.tables e below (s₁.setTop (entryFrame m #[(.ref a_SHARED), (.ref a_SHARED)] 2)) (s₁.setTop (mkF m 0 #[rv a_SHARED, rv a_SHARED] [])) := fun t k => castTop (by first | rfl | (simp [entryFrame, mkF, argsToLocals, Value.category]; done)) k
  have ⟨S_SHARED, E_SHARED, S_EXCLUSIVE, E_EXCLUSIVE, R_SHARED_ordinal, R_EXCLUSIVE_ordinal⟩ := G
  have k_7 : Go p.tables e below (s₁.setTop (entryFrame m #[(.ref a_SHARED), (.ref a_SHARED)] 2)) (s₁.setTop (mkF m 1 #[rv a_SHARED, rv a_SHARED] [(.ref a_SHARED)])) := fun t q => by
    refine k0 t ?_
    refine XS.aloadN X0.here hx rfl (hb hby d2_0) rfl rfl ?_
    show Steps _ _ _ (s₁.setTop (mkF m 1 #[rv a_SHARED, rv a_SHARED] [(.ref a_SHARED)])) _
    exact q
  obtain ⟨T8, X8, e8, st8⟩ := getS2 X0 hx hZ hown (host := "") (Or.inl (hw _ (wd 14 rfl))) Via.refl e0 (S_EXCLUSIVE.ext O0.2) (g := (mkF m 1 #[rv a_SHARED, rv a_SHARED] [(.ref a_SHARED)])) rfl (hb hby d2_1)
  have k_9 : Go p.tables e below (s₁.setTop (entryFrame m #[(.ref a_SHARED), (.ref a_SHARED)] 2)) (T8.setTop (mkF m 8 #[rv a_SHARED, rv a_SHARED] [(.ref a_SHARED)])) := fun t q => by
    refine k_7 t ?_
    refine st8 _ ?_
    show Steps _ _ _ (T8.setTop (mkF m 4 #[rv a_SHARED, rv a_SHARED] [(.ref a_EXCLUSIVE), (.ref a_SHARED)])) _
    refine Jvm.RoadKit.acmp (g := (mkF m 4 #[rv a_SHARED, rv a_SHARED] [(.ref a_EXCLUSIVE), (.ref a_SHARED)])) X8 hx rfl rfl rfl (pc0 := 4) (pc' := 7) (same := false) rfl (hb hby d2_4) rfl (decide_eq_false fun q => (own_ne R_SHARED_ordinal R_EXCLUSIVE_ordinal (by decide)) (Value.ref.inj q)) (by decide) (by decide) ?_
    show Steps _ _ _ (T8.setTop (mkF m 7 #[rv a_SHARED, rv a_SHARED] [])) _
    refine XS.aloadN X8.here hx rfl (hb hby d2_7) rfl rfl ?_
    show Steps _ _ _ (T8.setTop (mkF m 8 #[rv a_SHARED, rv a_SHARED] [(.ref a_SHARED)])) _
    exact q
  obtain ⟨T10, X10, e10, st10⟩ := getS2 X8 hx hZ hown (host := "") (Or.inl (hw _ (wd 14 rfl))) Via.refl e8 (S_EXCLUSIVE.ext O0.2) (g := (mkF m 8 #[rv a_SHARED, rv a_SHARED] [(.ref a_SHARED)])) rfl (hb hby d2_8)
  have k_11 : Go p.tables e below (s₁.setTop (entryFrame m #[(.ref a_SHARED), (.ref a_SHARED)] 2)) (T10.setTop (mkF m 19 #[rv a_SHARED, rv a_SHARED] [(.int 0)])) := fun t q => by
    refine k_9 t ?_
    refine st10 _ ?_
    show Steps _ _ _ (T10.setTop (mkF m 11 #[rv a_SHARED, rv a_SHARED] [(.ref a_EXCLUSIVE), (.ref a_SHARED)])) _
    refine Jvm.RoadKit.acmp (g := (mkF m 11 #[rv a_SHARED, rv a_SHARED] [(.ref a_EXCLUSIVE), (.ref a_SHARED)])) X10 hx rfl rfl rfl (pc0 := 11) (pc' := 18) (same := false) rfl (hb hby d2_11) rfl (decide_eq_false fun q => (own_ne R_SHARED_ordinal R_EXCLUSIVE_ordinal (by decide)) (Value.ref.inj q)) (by decide) (by decide) ?_
    show Steps _ _ _ (T10.setTop (mkF m 18 #[rv a_SHARED, rv a_SHARED] [])) _
    refine XS.iconst X10.here hx rfl (hb hby d2_18) ?_
    show Steps _ _ _ (T10.setTop (mkF m 19 #[rv a_SHARED, rv a_SHARED] [(.int 0)])) _
    exact q
  obtain ⟨fs, hr, hrun, hended, hW, hsame⟩ := X10.leave (v := some (.int 0)) (fun h => by rw [Bd.returns] at h; cases h)
  refine ⟨_, _, k_11 _ ?_, hrun, hended, _, _, rfl, ?_, ⟨_, rfl⟩, hW, hsame.mono (by decide) (by decide)⟩
  · exact retN X10 hx (t := .boolean) Bd.returns (by simp) (hb hby d2_19) hr
  · show QV (some (.int 0)) h0 n0 _ T10.heap _
    rw [e10]
    exact ⟨rfl, N0, rfl⟩
set_option maxRecDepth 65536 in
set_option maxHeartbeats 40000000 in
theorem cw_0_1 (l : Launch) (Z : State) (a0 : Array Value) (hw : ∀ d ∈ tables_1, d.before a0 Z = true) (ws : List Jvm.Cond) (a_SHARED a_EXCLUSIVE : Addr) (G : Own Z a_SHARED a_EXCLUSIVE)  (h0 : Heap) (n0 : Nat) (O0 : Old Z n0 h0)  :
    MetFree l y_1 (head1 (Jvm.Cond.code y_1 prog_96_method_4_code 2 (some .boolean) :: ws) ({ frames := 0, cells := 0, slots := 0, locals := 0 } : Room)) (fun a U => a = #[(.ref a_SHARED), (.ref a_EXCLUSIVE)] ∧ Z.Warmed39 U.vm ∧ U.heap = h0) (fun _ _ _ _ _ => True) (fun _ U o U' => ∃ v L, o = .returned v ∧ QV (some (.int 1)) h0 n0 v U'.heap L ∧ FrameEnd U o U' L ({ frames := 0, cells := 0, slots := 0, locals := 0 } : Room).cells ({ frames := 0, cells := 0, slots := 0, locals := 0 } : Room).slots) := by
  refine MetFree.of_bodySF (plainFor_of_name pn_1) hisR ?_
  intro p e s m args below meth c s₁ Bd hml0 hP hK
  obtain ⟨rfl, hZ, hh⟩ := hP
  have hx := Bd.exec
  have hby := Bd.bytes
  have hml : c.maxLocals = 2 := hml0
  have hown : s.vm.findClass "com/example/nkdb/nkdb/transaction/LockMode" = some m.cls := findClass_of_methodNamed Bd.named
  have hnm := (name_of_methodNamed Bd.named Bd.method).1
  have X0 : Stand p l e ({ frames := 0, cells := 0, slots := 0, locals := 0 } : Room) s m #[(.ref a_SHARED), (.ref a_EXCLUSIVE)] below meth c s₁ [] 0 0 := Stand.of_body Bd
  have e0 : s₁.heap = h0 := by rw [← hh, Bd.state]; rfl
  have N0 := Fr.nil n0
  have K0 := Keep.refl h0 []
  have k0 : Go p.tables e below (s₁.setTop (entryFrame m #[(.ref a_SHARED), (.ref a_EXCLUSIVE)] 2)) (s₁.setTop (mkF m 0 #[rv a_SHARED, rv a_EXCLUSIVE] [])) := fun t k => castTop (by first | rfl | (simp [entryFrame, mkF, argsToLocals, Value.category]; done)) k
  have ⟨S_SHARED, E_SHARED, S_EXCLUSIVE, E_EXCLUSIVE, R_SHARED_ordinal, R_EXCLUSIVE_ordinal⟩ := G
  have k_12 : Go p.tables e below (s₁.setTop (entryFrame m #[(.ref a_SHARED), (.ref a_EXCLUSIVE)] 2)) (s₁.setTop (mkF m 1 #[rv a_SHARED, rv a_EXCLUSIVE] [(.ref a_SHARED)])) := fun t q => by
    refine k0 t ?_
    refine XS.aloadN X0.here hx rfl (hb hby d2_0) rfl rfl ?_
    show Steps _ _ _ (s₁.setTop (mkF m 1 #[rv a_SHARED, rv a_EXCLUSIVE] [(.ref a_SHARED)])) _
    exact q
  obtain ⟨T13, X13, e13, st13⟩ := getS2 X0 hx hZ hown (host := "") (Or.inl (hw _ (wd 14 rfl))) Via.refl e0 (S_EXCLUSIVE.ext O0.2) (g := (mkF m 1 #[rv a_SHARED, rv a_EXCLUSIVE] [(.ref a_SHARED)])) rfl (hb hby d2_1)
  have k_14 : Go p.tables e below (s₁.setTop (entryFrame m #[(.ref a_SHARED), (.ref a_EXCLUSIVE)] 2)) (T13.setTop (mkF m 8 #[rv a_SHARED, rv a_EXCLUSIVE] [(.ref a_EXCLUSIVE)])) := fun t q => by
    refine k_12 t ?_
    refine st13 _ ?_
    show Steps _ _ _ (T13.setTop (mkF m 4 #[rv a_SHARED, rv a_EXCLUSIVE] [(.ref a_EXCLUSIVE), (.ref a_SHARED)])) _
    refine Jvm.RoadKit.acmp (g := (mkF m 4 #[rv a_SHARED, rv a_EXCLUSIVE] [(.ref a_EXCLUSIVE), (.ref a_SHARED)])) X13 hx rfl rfl rfl (pc0 := 4) (pc' := 7) (same := false) rfl (hb hby d2_4) rfl (decide_eq_false fun q => (own_ne R_SHARED_ordinal R_EXCLUSIVE_ordinal (by decide)) (Value.ref.inj q)) (by decide) (by decide) ?_
    show Steps _ _ _ (T13.setTop (mkF m 7 #[rv a_SHARED, rv a_EXCLUSIVE] [])) _
    refine XS.aloadN X13.here hx rfl (hb hby d2_7) rfl rfl ?_
    show Steps _ _ _ (T13.setTop (mkF m 8 #[rv a_SHARED, rv a_EXCLUSIVE] [(.ref a_EXCLUSIVE)])) _
    exact q
  obtain ⟨T15, X15, e15, st15⟩ := getS2 X13 hx hZ hown (host := "") (Or.inl (hw _ (wd 14 rfl))) Via.refl e13 (S_EXCLUSIVE.ext O0.2) (g := (mkF m 8 #[rv a_SHARED, rv a_EXCLUSIVE] [(.ref a_EXCLUSIVE)])) rfl (hb hby d2_8)
  have k_16 : Go p.tables e below (s₁.setTop (entryFrame m #[(.ref a_SHARED), (.ref a_EXCLUSIVE)] 2)) (T15.setTop (mkF m 19 #[rv a_SHARED, rv a_EXCLUSIVE] [(.int 1)])) := fun t q => by
    refine k_14 t ?_
    refine st15 _ ?_
    show Steps _ _ _ (T15.setTop (mkF m 11 #[rv a_SHARED, rv a_EXCLUSIVE] [(.ref a_EXCLUSIVE), (.ref a_EXCLUSIVE)])) _
    refine Jvm.RoadKit.acmp (g := (mkF m 11 #[rv a_SHARED, rv a_EXCLUSIVE] [(.ref a_EXCLUSIVE), (.ref a_EXCLUSIVE)])) X15 hx rfl rfl rfl (pc0 := 11) (pc' := 14) (same := true) rfl (hb hby d2_11) rfl (decide_eq_true rfl) (by decide) (by decide) ?_
    show Steps _ _ _ (T15.setTop (mkF m 14 #[rv a_SHARED, rv a_EXCLUSIVE] [])) _
    refine XS.iconst X15.here hx rfl (hb hby d2_14) ?_
    show Steps _ _ _ (T15.setTop (mkF m 15 #[rv a_SHARED, rv a_EXCLUSIVE] [(.int 1)])) _
    refine XS.goto X15.here hx rfl (pc0 := 15) (pc' := 19) rfl (hb hby d2_15) (by decide) (by decide) ?_
    show Steps _ _ _ (T15.setTop (mkF m 19 #[rv a_SHARED, rv a_EXCLUSIVE] [(.int 1)])) _
    exact q
  obtain ⟨fs, hr, hrun, hended, hW, hsame⟩ := X15.leave (v := some (.int 1)) (fun h => by rw [Bd.returns] at h; cases h)
  refine ⟨_, _, k_16 _ ?_, hrun, hended, _, _, rfl, ?_, ⟨_, rfl⟩, hW, hsame.mono (by decide) (by decide)⟩
  · exact retN X15 hx (t := .boolean) Bd.returns (by simp) (hb hby d2_19) hr
  · show QV (some (.int 1)) h0 n0 _ T15.heap _
    rw [e15]
    exact ⟨rfl, N0, rfl⟩
set_option maxRecDepth 65536 in
set_option maxHeartbeats 40000000 in
theorem cw_1_0 (l : Launch) (Z : State) (a0 : Array Value) (hw : ∀ d ∈ tables_1, d.before a0 Z = true) (ws : List Jvm.Cond) (a_SHARED a_EXCLUSIVE : Addr) (G : Own Z a_SHARED a_EXCLUSIVE)  (h0 : Heap) (n0 : Nat) (O0 : Old Z n0 h0)  :
    MetFree l y_1 (head1 (Jvm.Cond.code y_1 prog_96_method_4_code 2 (some .boolean) :: ws) ({ frames := 0, cells := 0, slots := 0, locals := 0 } : Room)) (fun a U => a = #[(.ref a_EXCLUSIVE), (.ref a_SHARED)] ∧ Z.Warmed39 U.vm ∧ U.heap = h0) (fun _ _ _ _ _ => True) (fun _ U o U' => ∃ v L, o = .returned v ∧ QV (some (.int 1)) h0 n0 v U'.heap L ∧ FrameEnd U o U' L ({ frames := 0, cells := 0, slots := 0, locals := 0 } : Room).cells ({ frames := 0, cells := 0, slots := 0, locals := 0 } : Room).slots) := by
  refine MetFree.of_bodySF (plainFor_of_name pn_1) hisR ?_
  intro p e s m args below meth c s₁ Bd hml0 hP hK
  obtain ⟨rfl, hZ, hh⟩ := hP
  have hx := Bd.exec
  have hby := Bd.bytes
  have hml : c.maxLocals = 2 := hml0
  have hown : s.vm.findClass "com/example/nkdb/nkdb/transaction/LockMode" = some m.cls := findClass_of_methodNamed Bd.named
  have hnm := (name_of_methodNamed Bd.named Bd.method).1
  have X0 : Stand p l e ({ frames := 0, cells := 0, slots := 0, locals := 0 } : Room) s m #[(.ref a_EXCLUSIVE), (.ref a_SHARED)] below meth c s₁ [] 0 0 := Stand.of_body Bd
  have e0 : s₁.heap = h0 := by rw [← hh, Bd.state]; rfl
  have N0 := Fr.nil n0
  have K0 := Keep.refl h0 []
  have k0 : Go p.tables e below (s₁.setTop (entryFrame m #[(.ref a_EXCLUSIVE), (.ref a_SHARED)] 2)) (s₁.setTop (mkF m 0 #[rv a_EXCLUSIVE, rv a_SHARED] [])) := fun t k => castTop (by first | rfl | (simp [entryFrame, mkF, argsToLocals, Value.category]; done)) k
  have ⟨S_SHARED, E_SHARED, S_EXCLUSIVE, E_EXCLUSIVE, R_SHARED_ordinal, R_EXCLUSIVE_ordinal⟩ := G
  have k_17 : Go p.tables e below (s₁.setTop (entryFrame m #[(.ref a_EXCLUSIVE), (.ref a_SHARED)] 2)) (s₁.setTop (mkF m 1 #[rv a_EXCLUSIVE, rv a_SHARED] [(.ref a_EXCLUSIVE)])) := fun t q => by
    refine k0 t ?_
    refine XS.aloadN X0.here hx rfl (hb hby d2_0) rfl rfl ?_
    show Steps _ _ _ (s₁.setTop (mkF m 1 #[rv a_EXCLUSIVE, rv a_SHARED] [(.ref a_EXCLUSIVE)])) _
    exact q
  obtain ⟨T18, X18, e18, st18⟩ := getS2 X0 hx hZ hown (host := "") (Or.inl (hw _ (wd 14 rfl))) Via.refl e0 (S_EXCLUSIVE.ext O0.2) (g := (mkF m 1 #[rv a_EXCLUSIVE, rv a_SHARED] [(.ref a_EXCLUSIVE)])) rfl (hb hby d2_1)
  have k_19 : Go p.tables e below (s₁.setTop (entryFrame m #[(.ref a_EXCLUSIVE), (.ref a_SHARED)] 2)) (T18.setTop (mkF m 19 #[rv a_EXCLUSIVE, rv a_SHARED] [(.int 1)])) := fun t q => by
    refine k_17 t ?_
    refine st18 _ ?_
    show Steps _ _ _ (T18.setTop (mkF m 4 #[rv a_EXCLUSIVE, rv a_SHARED] [(.ref a_EXCLUSIVE), (.ref a_EXCLUSIVE)])) _
    refine Jvm.RoadKit.acmp (g := (mkF m 4 #[rv a_EXCLUSIVE, rv a_SHARED] [(.ref a_EXCLUSIVE), (.ref a_EXCLUSIVE)])) X18 hx rfl rfl rfl (pc0 := 4) (pc' := 14) (same := true) rfl (hb hby d2_4) rfl (decide_eq_true rfl) (by decide) (by decide) ?_
    show Steps _ _ _ (T18.setTop (mkF m 14 #[rv a_EXCLUSIVE, rv a_SHARED] [])) _
    refine XS.iconst X18.here hx rfl (hb hby d2_14) ?_
    show Steps _ _ _ (T18.setTop (mkF m 15 #[rv a_EXCLUSIVE, rv a_SHARED] [(.int 1)])) _
    refine XS.goto X18.here hx rfl (pc0 := 15) (pc' := 19) rfl (hb hby d2_15) (by decide) (by decide) ?_
    show Steps _ _ _ (T18.setTop (mkF m 19 #[rv a_EXCLUSIVE, rv a_SHARED] [(.int 1)])) _
    exact q
  obtain ⟨fs, hr, hrun, hended, hW, hsame⟩ := X18.leave (v := some (.int 1)) (fun h => by rw [Bd.returns] at h; cases h)
  refine ⟨_, _, k_19 _ ?_, hrun, hended, _, _, rfl, ?_, ⟨_, rfl⟩, hW, hsame.mono (by decide) (by decide)⟩
  · exact retN X18 hx (t := .boolean) Bd.returns (by simp) (hb hby d2_19) hr
  · show QV (some (.int 1)) h0 n0 _ T18.heap _
    rw [e18]
    exact ⟨rfl, N0, rfl⟩
set_option maxRecDepth 65536 in
set_option maxHeartbeats 40000000 in
theorem cw_1_1 (l : Launch) (Z : State) (a0 : Array Value) (hw : ∀ d ∈ tables_1, d.before a0 Z = true) (ws : List Jvm.Cond) (a_SHARED a_EXCLUSIVE : Addr) (G : Own Z a_SHARED a_EXCLUSIVE)  (h0 : Heap) (n0 : Nat) (O0 : Old Z n0 h0)  :
    MetFree l y_1 (head1 (Jvm.Cond.code y_1 prog_96_method_4_code 2 (some .boolean) :: ws) ({ frames := 0, cells := 0, slots := 0, locals := 0 } : Room)) (fun a U => a = #[(.ref a_EXCLUSIVE), (.ref a_EXCLUSIVE)] ∧ Z.Warmed39 U.vm ∧ U.heap = h0) (fun _ _ _ _ _ => True) (fun _ U o U' => ∃ v L, o = .returned v ∧ QV (some (.int 1)) h0 n0 v U'.heap L ∧ FrameEnd U o U' L ({ frames := 0, cells := 0, slots := 0, locals := 0 } : Room).cells ({ frames := 0, cells := 0, slots := 0, locals := 0 } : Room).slots) := by
  refine MetFree.of_bodySF (plainFor_of_name pn_1) hisR ?_
  intro p e s m args below meth c s₁ Bd hml0 hP hK
  obtain ⟨rfl, hZ, hh⟩ := hP
  have hx := Bd.exec
  have hby := Bd.bytes
  have hml : c.maxLocals = 2 := hml0
  have hown : s.vm.findClass "com/example/nkdb/nkdb/transaction/LockMode" = some m.cls := findClass_of_methodNamed Bd.named
  have hnm := (name_of_methodNamed Bd.named Bd.method).1
  have X0 : Stand p l e ({ frames := 0, cells := 0, slots := 0, locals := 0 } : Room) s m #[(.ref a_EXCLUSIVE), (.ref a_EXCLUSIVE)] below meth c s₁ [] 0 0 := Stand.of_body Bd
  have e0 : s₁.heap = h0 := by rw [← hh, Bd.state]; rfl
  have N0 := Fr.nil n0
  have K0 := Keep.refl h0 []
  have k0 : Go p.tables e below (s₁.setTop (entryFrame m #[(.ref a_EXCLUSIVE), (.ref a_EXCLUSIVE)] 2)) (s₁.setTop (mkF m 0 #[rv a_EXCLUSIVE, rv a_EXCLUSIVE] [])) := fun t k => castTop (by first | rfl | (simp [entryFrame, mkF, argsToLocals, Value.category]; done)) k
  have ⟨S_SHARED, E_SHARED, S_EXCLUSIVE, E_EXCLUSIVE, R_SHARED_ordinal, R_EXCLUSIVE_ordinal⟩ := G
  have k_20 : Go p.tables e below (s₁.setTop (entryFrame m #[(.ref a_EXCLUSIVE), (.ref a_EXCLUSIVE)] 2)) (s₁.setTop (mkF m 1 #[rv a_EXCLUSIVE, rv a_EXCLUSIVE] [(.ref a_EXCLUSIVE)])) := fun t q => by
    refine k0 t ?_
    refine XS.aloadN X0.here hx rfl (hb hby d2_0) rfl rfl ?_
    show Steps _ _ _ (s₁.setTop (mkF m 1 #[rv a_EXCLUSIVE, rv a_EXCLUSIVE] [(.ref a_EXCLUSIVE)])) _
    exact q
  obtain ⟨T21, X21, e21, st21⟩ := getS2 X0 hx hZ hown (host := "") (Or.inl (hw _ (wd 14 rfl))) Via.refl e0 (S_EXCLUSIVE.ext O0.2) (g := (mkF m 1 #[rv a_EXCLUSIVE, rv a_EXCLUSIVE] [(.ref a_EXCLUSIVE)])) rfl (hb hby d2_1)
  have k_22 : Go p.tables e below (s₁.setTop (entryFrame m #[(.ref a_EXCLUSIVE), (.ref a_EXCLUSIVE)] 2)) (T21.setTop (mkF m 19 #[rv a_EXCLUSIVE, rv a_EXCLUSIVE] [(.int 1)])) := fun t q => by
    refine k_20 t ?_
    refine st21 _ ?_
    show Steps _ _ _ (T21.setTop (mkF m 4 #[rv a_EXCLUSIVE, rv a_EXCLUSIVE] [(.ref a_EXCLUSIVE), (.ref a_EXCLUSIVE)])) _
    refine Jvm.RoadKit.acmp (g := (mkF m 4 #[rv a_EXCLUSIVE, rv a_EXCLUSIVE] [(.ref a_EXCLUSIVE), (.ref a_EXCLUSIVE)])) X21 hx rfl rfl rfl (pc0 := 4) (pc' := 14) (same := true) rfl (hb hby d2_4) rfl (decide_eq_true rfl) (by decide) (by decide) ?_
    show Steps _ _ _ (T21.setTop (mkF m 14 #[rv a_EXCLUSIVE, rv a_EXCLUSIVE] [])) _
    refine XS.iconst X21.here hx rfl (hb hby d2_14) ?_
    show Steps _ _ _ (T21.setTop (mkF m 15 #[rv a_EXCLUSIVE, rv a_EXCLUSIVE] [(.int 1)])) _
    refine XS.goto X21.here hx rfl (pc0 := 15) (pc' := 19) rfl (hb hby d2_15) (by decide) (by decide) ?_
    show Steps _ _ _ (T21.setTop (mkF m 19 #[rv a_EXCLUSIVE, rv a_EXCLUSIVE] [(.int 1)])) _
    exact q
  obtain ⟨fs, hr, hrun, hended, hW, hsame⟩ := X21.leave (v := some (.int 1)) (fun h => by rw [Bd.returns] at h; cases h)
  refine ⟨_, _, k_22 _ ?_, hrun, hended, _, _, rfl, ?_, ⟨_, rfl⟩, hW, hsame.mono (by decide) (by decide)⟩
  · exact retN X21 hx (t := .boolean) Bd.returns (by simp) (hb hby d2_19) hr
  · show QV (some (.int 1)) h0 n0 _ T21.heap _
    rw [e21]
    exact ⟨rfl, N0, rfl⟩
set_option maxRecDepth 65536 in
set_option maxHeartbeats 40000000 in
theorem rm0 (l : Launch) (Z : State) (a0 : Array Value) (hw : ∀ d ∈ tables_1, d.before a0 Z = true) (ws : List Jvm.Cond) (a_SHARED a_EXCLUSIVE : Addr) (G : Own Z a_SHARED a_EXCLUSIVE) (q1 q2 : Int32) (h0 : Heap) (n0 : Nat) (O0 : Old Z n0 h0)  :
    MetFree l x (head1 (Jvm.Cond.code x code maxLocals ret :: ws) room_1) (fun a U => a = #[(.int q1), (.int q2)] ∧ Z.Warmed39 U.vm ∧ U.heap = h0) (fun _ _ _ _ _ => True) (fun _ U o U' => ∃ v L, o = .returned v ∧ Q0 n0 v U'.heap L ∧ FrameEnd U o U' L room_1.cells room_1.slots) := by
  refine MetFree.of_bodySF (plainFor_of_name pn_0) hisR ?_
  intro p e s m args below meth c s₁ Bd hml0 hP hK
  obtain ⟨rfl, hZ, hh⟩ := hP
  have hx := Bd.exec
  have hby := Bd.bytes
  have hml : c.maxLocals = 6 := hml0
  have hown : s.vm.findClass "com/example/nkdb/nkdb/transaction/LockModeConflictsWithPinLaw" = some m.cls := findClass_of_methodNamed Bd.named
  have hnm := (name_of_methodNamed Bd.named Bd.method).1
  have X0 : Stand p l e room_1 s m #[(.int q1), (.int q2)] below meth c s₁ [] 0 0 := Stand.of_body Bd
  have e0 : s₁.heap = h0 := by rw [← hh, Bd.state]; rfl
  have N0 := Fr.nil n0
  have K0 := Keep.refl h0 []
  have k0 : Go p.tables e below (s₁.setTop (entryFrame m #[(.int q1), (.int q2)] maxLocals)) (s₁.setTop (mkF m 0 #[iv q1, iv q2, .unset, .unset, .unset, .unset] [])) := fun t k => castTop (by first | rfl | (simp [entryFrame, mkF, argsToLocals, Value.category, maxLocals]; done)) k
  have ⟨S_SHARED, E_SHARED, S_EXCLUSIVE, E_EXCLUSIVE, R_SHARED_ordinal, R_EXCLUSIVE_ordinal⟩ := G
  rcases and_one q1 with hi | hi
  · skip
    rcases and_one q2 with hj | hj
    · skip
      have k_23 : Go p.tables e below (s₁.setTop (entryFrame m #[(.int q1), (.int q2)] maxLocals)) (s₁.setTop (mkF m 1 #[iv q1, iv q2, .unset, .unset, .unset, .unset] [(.int q1)])) := fun t q => by
        refine k0 t ?_
        refine XS.iloadN X0.here hx rfl (hb hby at_0) rfl ?_
        show Steps _ _ _ (s₁.setTop (mkF m 1 #[iv q1, iv q2, .unset, .unset, .unset, .unset] [(.int q1)])) _
        exact q
      obtain ⟨_, _, ⟨T24, L24, k24, n24⟩, -, X24, ⟨Lc24, hQ24, l24, y24, z24⟩, st24⟩ := Jvm.LawKit.callS X0 hx (y := y_0) hown (mvT hZ (hw _ (wd 0 rfl))) (mvT hZ (hw _ (wd 1 rfl))) (mvT hZ (hw _ (wd 2 rfl))) (mvT hZ (hw _ (wd 3 rfl))) (by decide) (backOf (W := 0) (pick_0 l Z a0 hw [] a_SHARED a_EXCLUSIVE G q1 h0 n0 O0 hi) hZ (hw _ (wd 3 rfl)) (hw _ (wd 2 rfl)) (by decide) (by decide)) (g := (mkF m 1 #[iv q1, iv q2, .unset, .unset, .unset, .unset] [(.int q1)])) rfl (by rw [hml]; rfl) (argsL := [(.int q1)]) (rest := []) (lenOf pd_0 rfl) rfl (by show 2 * 0 + _ ≤ _; exact Nat.le_of_eq rfl) (hb hby at_1) (fun _ _ => ⟨rfl, e0, (by decide : 0 + 0 ≤ _), (by decide : 0 + 0 ≤ _)⟩)
      dsimp only [Pt.U, Pt.locs, Pt.cells, Pt.slots] at X24 l24 y24 z24 st24 hQ24
      subst l24 y24 z24
      obtain ⟨rfl, N24q, e24⟩ := hQ24
      have N24 := Fr.app N0 N24q
      have k_25 : Go p.tables e below (s₁.setTop (entryFrame m #[(.int q1), (.int q2)] maxLocals)) (T24.setTop (mkF m 6 #[iv q1, iv q2, rv a_SHARED, .unset, .unset, .unset] [(.int q2)])) := fun t q => by
        refine k_23 t ?_
        refine st24 _ ?_
        show Steps _ _ _ (T24.setTop (mkF m 4 #[iv q1, iv q2, .unset, .unset, .unset, .unset] [(.ref a_SHARED)])) _
        refine XS.astoreN X24.here hx rfl (hb hby at_4) rfl rfl (l' := #[iv q1, iv q2, rv a_SHARED, .unset, .unset, .unset]) rfl ?_
        show Steps _ _ _ (T24.setTop (mkF m 5 #[iv q1, iv q2, rv a_SHARED, .unset, .unset, .unset] [])) _
        refine XS.iloadN X24.here hx rfl (hb hby at_5) rfl ?_
        show Steps _ _ _ (T24.setTop (mkF m 6 #[iv q1, iv q2, rv a_SHARED, .unset, .unset, .unset] [(.int q2)])) _
        exact q
      obtain ⟨_, _, ⟨T26, L26, k26, n26⟩, -, X26, ⟨Lc26, hQ26, l26, y26, z26⟩, st26⟩ := Jvm.LawKit.callS X24 hx (y := y_0) hown (mvT hZ (hw _ (wd 0 rfl))) (mvT hZ (hw _ (wd 1 rfl))) (mvT hZ (hw _ (wd 2 rfl))) (mvT hZ (hw _ (wd 3 rfl))) (by decide) (backOf (W := 0) (pick_0 l Z a0 hw [] a_SHARED a_EXCLUSIVE G q2 h0 n0 O0 hj) hZ (hw _ (wd 3 rfl)) (hw _ (wd 2 rfl)) (by decide) (by decide)) (g := (mkF m 6 #[iv q1, iv q2, rv a_SHARED, .unset, .unset, .unset] [(.int q2)])) rfl (by rw [hml]; rfl) (argsL := [(.int q2)]) (rest := []) (lenOf pd_0 rfl) rfl (by show 2 * 0 + _ ≤ _; exact Nat.le_of_eq rfl) (hb hby at_6) (fun _ _ => ⟨rfl, e24, (by decide : 0 + 0 ≤ _), (by decide : 0 + 0 ≤ _)⟩)
      dsimp only [Pt.U, Pt.locs, Pt.cells, Pt.slots] at X26 l26 y26 z26 st26 hQ26
      subst l26 y26 z26
      obtain ⟨rfl, N26q, e26⟩ := hQ26
      have N26 := Fr.app N24 N26q
      have k_27 : Go p.tables e below (s₁.setTop (entryFrame m #[(.int q1), (.int q2)] maxLocals)) (T26.setTop (mkF m 43 #[iv q1, iv q2, rv a_SHARED, rv a_SHARED, iv 1, iv 0] [(.ref a_SHARED), (.ref a_SHARED)])) := fun t q => by
        refine k_25 t ?_
        refine st26 _ ?_
        show Steps _ _ _ (T26.setTop (mkF m 9 #[iv q1, iv q2, rv a_SHARED, .unset, .unset, .unset] [(.ref a_SHARED)])) _
        refine XS.astoreN X26.here hx rfl (hb hby at_9) rfl rfl (l' := #[iv q1, iv q2, rv a_SHARED, rv a_SHARED, .unset, .unset]) rfl ?_
        show Steps _ _ _ (T26.setTop (mkF m 10 #[iv q1, iv q2, rv a_SHARED, rv a_SHARED, .unset, .unset] [])) _
        refine XS.iloadN X26.here hx rfl (hb hby at_10) rfl ?_
        show Steps _ _ _ (T26.setTop (mkF m 11 #[iv q1, iv q2, rv a_SHARED, rv a_SHARED, .unset, .unset] [(.int q1)])) _
        refine XS.iconst X26.here hx rfl (hb hby at_11) ?_
        show Steps _ _ _ (T26.setTop (mkF m 12 #[iv q1, iv q2, rv a_SHARED, rv a_SHARED, .unset, .unset] [(.int 1), (.int q1)])) _
        refine XS.iand X26.here hx rfl (hb hby at_12) rfl ?_
        show Steps _ _ _ (T26.setTop (mkF m 13 #[iv q1, iv q2, rv a_SHARED, rv a_SHARED, .unset, .unset] [(.int (q1 &&& (1 : Int32)))])) _
        rw [hi]
        show Steps _ _ _ (T26.setTop (mkF m 13 #[iv q1, iv q2, rv a_SHARED, rv a_SHARED, .unset, .unset] [(.int 0)])) _
        refine XS.ifNo X26.here hx rfl (hb hby at_13) rfl (by decide) ?_
        show Steps _ _ _ (T26.setTop (mkF m 16 #[iv q1, iv q2, rv a_SHARED, rv a_SHARED, .unset, .unset] [])) _
        refine XS.iloadN X26.here hx rfl (hb hby at_16) rfl ?_
        show Steps _ _ _ (T26.setTop (mkF m 17 #[iv q1, iv q2, rv a_SHARED, rv a_SHARED, .unset, .unset] [(.int q2)])) _
        refine XS.iconst X26.here hx rfl (hb hby at_17) ?_
        show Steps _ _ _ (T26.setTop (mkF m 18 #[iv q1, iv q2, rv a_SHARED, rv a_SHARED, .unset, .unset] [(.int 1), (.int q2)])) _
        refine XS.iand X26.here hx rfl (hb hby at_18) rfl ?_
        show Steps _ _ _ (T26.setTop (mkF m 19 #[iv q1, iv q2, rv a_SHARED, rv a_SHARED, .unset, .unset] [(.int (q2 &&& (1 : Int32)))])) _
        rw [hj]
        show Steps _ _ _ (T26.setTop (mkF m 19 #[iv q1, iv q2, rv a_SHARED, rv a_SHARED, .unset, .unset] [(.int 0)])) _
        refine XS.ifNo X26.here hx rfl (hb hby at_19) rfl (by decide) ?_
        show Steps _ _ _ (T26.setTop (mkF m 22 #[iv q1, iv q2, rv a_SHARED, rv a_SHARED, .unset, .unset] [])) _
        refine XS.iconst X26.here hx rfl (hb hby at_22) ?_
        show Steps _ _ _ (T26.setTop (mkF m 23 #[iv q1, iv q2, rv a_SHARED, rv a_SHARED, .unset, .unset] [(.int 1)])) _
        refine XS.goto X26.here hx rfl (pc0 := 23) (pc' := 27) rfl (hb hby at_23) (by decide) (by decide) ?_
        show Steps _ _ _ (T26.setTop (mkF m 27 #[iv q1, iv q2, rv a_SHARED, rv a_SHARED, .unset, .unset] [(.int 1)])) _
        refine XS.istore X26.here hx rfl (hb hby at_27) rfl (l' := #[iv q1, iv q2, rv a_SHARED, rv a_SHARED, iv 1, .unset]) rfl ?_
        show Steps _ _ _ (T26.setTop (mkF m 29 #[iv q1, iv q2, rv a_SHARED, rv a_SHARED, iv 1, .unset] [])) _
        refine XS.iload X26.here hx rfl (hb hby at_29) rfl ?_
        show Steps _ _ _ (T26.setTop (mkF m 31 #[iv q1, iv q2, rv a_SHARED, rv a_SHARED, iv 1, .unset] [(.int 1)])) _
        refine XS.ifYes X26.here hx rfl (pc0 := 31) (pc' := 38) rfl (hb hby at_31) rfl (by decide) (by decide) (by decide) ?_
        show Steps _ _ _ (T26.setTop (mkF m 38 #[iv q1, iv q2, rv a_SHARED, rv a_SHARED, iv 1, .unset] [])) _
        refine XS.iconst X26.here hx rfl (hb hby at_38) ?_
        show Steps _ _ _ (T26.setTop (mkF m 39 #[iv q1, iv q2, rv a_SHARED, rv a_SHARED, iv 1, .unset] [(.int 0)])) _
        refine XS.istore X26.here hx rfl (hb hby at_39) rfl (l' := #[iv q1, iv q2, rv a_SHARED, rv a_SHARED, iv 1, iv 0]) rfl ?_
        show Steps _ _ _ (T26.setTop (mkF m 41 #[iv q1, iv q2, rv a_SHARED, rv a_SHARED, iv 1, iv 0] [])) _
        refine XS.aloadN X26.here hx rfl (hb hby at_41) rfl rfl ?_
        show Steps _ _ _ (T26.setTop (mkF m 42 #[iv q1, iv q2, rv a_SHARED, rv a_SHARED, iv 1, iv 0] [(.ref a_SHARED)])) _
        refine XS.aloadN X26.here hx rfl (hb hby at_42) rfl rfl ?_
        show Steps _ _ _ (T26.setTop (mkF m 43 #[iv q1, iv q2, rv a_SHARED, rv a_SHARED, iv 1, iv 0] [(.ref a_SHARED), (.ref a_SHARED)])) _
        exact q
      obtain ⟨cq28, kq28, q28a, q28b, q28c⟩ := isOf hZ e26 (Exa.ext O0.2 E_SHARED)
      obtain ⟨_, _, ⟨T28, L28, k28, n28⟩, -, X28, ⟨Lc28, hQ28, l28, y28, z28⟩, st28⟩ := X26.virtualBack hx (y := y_1) (z := y_1) hown (mvT hZ (hw _ (wd 9 rfl))) (mvT hZ (hw _ (wd 10 rfl))) (notFace_of_selects (args := #[]) (mvT hZ (hw _ (wd 12 rfl)))) (mvT hZ (hw _ (wd 12 rfl))) (mvT hZ (hw _ (wd 11 rfl))) (by decide) (backOf (W := 0) (cw_0_0 l Z a0 hw [] a_SHARED a_EXCLUSIVE G  h0 n0 O0 ) hZ (hw _ (wd 13 rfl)) (hw _ (wd 5 rfl)) (by decide) (by decide)) q28a q28c (g := (mkF m 43 #[iv q1, iv q2, rv a_SHARED, rv a_SHARED, iv 1, iv 0] [(.ref a_SHARED), (.ref a_SHARED)])) rfl (by rw [hml]; rfl) (Steps.refl _) (argsL := [(.ref a_SHARED)]) (rest := []) (lenOf pd_1 rfl) rfl (by show 2 * 0 + _ ≤ _; exact Nat.le_of_eq rfl) (hb hby at_43) (fun _ _ => ⟨rfl, e26, (by decide : 0 + 0 ≤ _), (by decide : 0 + 0 ≤ _)⟩)
      dsimp only [Pt.U, Pt.locs, Pt.cells, Pt.slots] at X28 l28 y28 z28 st28 hQ28
      subst l28 y28 z28
      obtain ⟨rfl, N28q, e28⟩ := hQ28
      have N28 := Fr.app N26 N28q
      have k_29 : Go p.tables e below (s₁.setTop (entryFrame m #[(.int q1), (.int q2)] maxLocals)) (T28.setTop (mkF m 53 #[iv q1, iv q2, rv a_SHARED, rv a_SHARED, iv 1, iv 0] [(.ref a_SHARED), (.ref a_SHARED)])) := fun t q => by
        refine k_27 t ?_
        refine st28.trans ?_
        show Steps _ _ _ (T28.setTop (mkF m 46 #[iv q1, iv q2, rv a_SHARED, rv a_SHARED, iv 1, iv 0] [(.int 0)])) _
        refine XS.iload X28.here hx rfl (hb hby at_46) rfl ?_
        show Steps _ _ _ (T28.setTop (mkF m 48 #[iv q1, iv q2, rv a_SHARED, rv a_SHARED, iv 1, iv 0] [(.int 0), (.int 0)])) _
        refine XS.icmpNo X28.here hx rfl (hb hby at_48) rfl (by decide) ?_
        show Steps _ _ _ (T28.setTop (mkF m 51 #[iv q1, iv q2, rv a_SHARED, rv a_SHARED, iv 1, iv 0] [])) _
        refine XS.aloadN X28.here hx rfl (hb hby at_51) rfl rfl ?_
        show Steps _ _ _ (T28.setTop (mkF m 52 #[iv q1, iv q2, rv a_SHARED, rv a_SHARED, iv 1, iv 0] [(.ref a_SHARED)])) _
        refine XS.aloadN X28.here hx rfl (hb hby at_52) rfl rfl ?_
        show Steps _ _ _ (T28.setTop (mkF m 53 #[iv q1, iv q2, rv a_SHARED, rv a_SHARED, iv 1, iv 0] [(.ref a_SHARED), (.ref a_SHARED)])) _
        exact q
      obtain ⟨cq30, kq30, q30a, q30b, q30c⟩ := isOf hZ e28 (Exa.ext O0.2 E_SHARED)
      obtain ⟨_, _, ⟨T30, L30, k30, n30⟩, -, X30, ⟨Lc30, hQ30, l30, y30, z30⟩, st30⟩ := X28.virtualBack hx (y := y_1) (z := y_1) hown (mvT hZ (hw _ (wd 9 rfl))) (mvT hZ (hw _ (wd 10 rfl))) (notFace_of_selects (args := #[]) (mvT hZ (hw _ (wd 12 rfl)))) (mvT hZ (hw _ (wd 12 rfl))) (mvT hZ (hw _ (wd 11 rfl))) (by decide) (backOf (W := 0) (cw_0_0 l Z a0 hw [] a_SHARED a_EXCLUSIVE G  h0 n0 O0 ) hZ (hw _ (wd 13 rfl)) (hw _ (wd 5 rfl)) (by decide) (by decide)) q30a q30c (g := (mkF m 53 #[iv q1, iv q2, rv a_SHARED, rv a_SHARED, iv 1, iv 0] [(.ref a_SHARED), (.ref a_SHARED)])) rfl (by rw [hml]; rfl) (Steps.refl _) (argsL := [(.ref a_SHARED)]) (rest := []) (lenOf pd_1 rfl) rfl (by show 2 * 0 + _ ≤ _; exact Nat.le_of_eq rfl) (hb hby at_53) (fun _ _ => ⟨rfl, e28, (by decide : 0 + 0 ≤ _), (by decide : 0 + 0 ≤ _)⟩)
      dsimp only [Pt.U, Pt.locs, Pt.cells, Pt.slots] at X30 l30 y30 z30 st30 hQ30
      subst l30 y30 z30
      obtain ⟨rfl, N30q, e30⟩ := hQ30
      have N30 := Fr.app N28 N30q
      have k_31 : Go p.tables e below (s₁.setTop (entryFrame m #[(.int q1), (.int q2)] maxLocals)) (T30.setTop (mkF m 66 #[iv q1, iv q2, rv a_SHARED, rv a_SHARED, iv 1, iv 0] [(.int 1)])) := fun t q => by
        refine k_29 t ?_
        refine st30.trans ?_
        show Steps _ _ _ (T30.setTop (mkF m 56 #[iv q1, iv q2, rv a_SHARED, rv a_SHARED, iv 1, iv 0] [(.int 0)])) _
        refine XS.iload X30.here hx rfl (hb hby at_56) rfl ?_
        show Steps _ _ _ (T30.setTop (mkF m 58 #[iv q1, iv q2, rv a_SHARED, rv a_SHARED, iv 1, iv 0] [(.int 0), (.int 0)])) _
        refine XS.icmpNo X30.here hx rfl (hb hby at_58) rfl (by decide) ?_
        show Steps _ _ _ (T30.setTop (mkF m 61 #[iv q1, iv q2, rv a_SHARED, rv a_SHARED, iv 1, iv 0] [])) _
        refine XS.iconst X30.here hx rfl (hb hby at_61) ?_
        show Steps _ _ _ (T30.setTop (mkF m 62 #[iv q1, iv q2, rv a_SHARED, rv a_SHARED, iv 1, iv 0] [(.int 1)])) _
        refine XS.goto X30.here hx rfl (pc0 := 62) (pc' := 66) rfl (hb hby at_62) (by decide) (by decide) ?_
        show Steps _ _ _ (T30.setTop (mkF m 66 #[iv q1, iv q2, rv a_SHARED, rv a_SHARED, iv 1, iv 0] [(.int 1)])) _
        exact q
      obtain ⟨fs, hr, hrun, hended, hW, hsame⟩ := X30.leave (v := some (.int 1)) (fun h => by rw [Bd.returns] at h; cases h)
      refine ⟨_, _, k_31 _ ?_, hrun, hended, _, _, rfl, ?_, ⟨_, rfl⟩, hW, hsame.mono (by decide) (by decide)⟩
      · exact retN X30 hx (t := .boolean) Bd.returns (by simp) (hb hby at_66) hr
      · show Q0 n0 _ T30.heap _
        rw [e30]
        exact ⟨rfl, N30⟩
    · skip
      have k_32 : Go p.tables e below (s₁.setTop (entryFrame m #[(.int q1), (.int q2)] maxLocals)) (s₁.setTop (mkF m 1 #[iv q1, iv q2, .unset, .unset, .unset, .unset] [(.int q1)])) := fun t q => by
        refine k0 t ?_
        refine XS.iloadN X0.here hx rfl (hb hby at_0) rfl ?_
        show Steps _ _ _ (s₁.setTop (mkF m 1 #[iv q1, iv q2, .unset, .unset, .unset, .unset] [(.int q1)])) _
        exact q
      obtain ⟨_, _, ⟨T33, L33, k33, n33⟩, -, X33, ⟨Lc33, hQ33, l33, y33, z33⟩, st33⟩ := Jvm.LawKit.callS X0 hx (y := y_0) hown (mvT hZ (hw _ (wd 0 rfl))) (mvT hZ (hw _ (wd 1 rfl))) (mvT hZ (hw _ (wd 2 rfl))) (mvT hZ (hw _ (wd 3 rfl))) (by decide) (backOf (W := 0) (pick_0 l Z a0 hw [] a_SHARED a_EXCLUSIVE G q1 h0 n0 O0 hi) hZ (hw _ (wd 3 rfl)) (hw _ (wd 2 rfl)) (by decide) (by decide)) (g := (mkF m 1 #[iv q1, iv q2, .unset, .unset, .unset, .unset] [(.int q1)])) rfl (by rw [hml]; rfl) (argsL := [(.int q1)]) (rest := []) (lenOf pd_0 rfl) rfl (by show 2 * 0 + _ ≤ _; exact Nat.le_of_eq rfl) (hb hby at_1) (fun _ _ => ⟨rfl, e0, (by decide : 0 + 0 ≤ _), (by decide : 0 + 0 ≤ _)⟩)
      dsimp only [Pt.U, Pt.locs, Pt.cells, Pt.slots] at X33 l33 y33 z33 st33 hQ33
      subst l33 y33 z33
      obtain ⟨rfl, N33q, e33⟩ := hQ33
      have N33 := Fr.app N0 N33q
      have k_34 : Go p.tables e below (s₁.setTop (entryFrame m #[(.int q1), (.int q2)] maxLocals)) (T33.setTop (mkF m 6 #[iv q1, iv q2, rv a_SHARED, .unset, .unset, .unset] [(.int q2)])) := fun t q => by
        refine k_32 t ?_
        refine st33 _ ?_
        show Steps _ _ _ (T33.setTop (mkF m 4 #[iv q1, iv q2, .unset, .unset, .unset, .unset] [(.ref a_SHARED)])) _
        refine XS.astoreN X33.here hx rfl (hb hby at_4) rfl rfl (l' := #[iv q1, iv q2, rv a_SHARED, .unset, .unset, .unset]) rfl ?_
        show Steps _ _ _ (T33.setTop (mkF m 5 #[iv q1, iv q2, rv a_SHARED, .unset, .unset, .unset] [])) _
        refine XS.iloadN X33.here hx rfl (hb hby at_5) rfl ?_
        show Steps _ _ _ (T33.setTop (mkF m 6 #[iv q1, iv q2, rv a_SHARED, .unset, .unset, .unset] [(.int q2)])) _
        exact q
      obtain ⟨_, _, ⟨T35, L35, k35, n35⟩, -, X35, ⟨Lc35, hQ35, l35, y35, z35⟩, st35⟩ := Jvm.LawKit.callS X33 hx (y := y_0) hown (mvT hZ (hw _ (wd 0 rfl))) (mvT hZ (hw _ (wd 1 rfl))) (mvT hZ (hw _ (wd 2 rfl))) (mvT hZ (hw _ (wd 3 rfl))) (by decide) (backOf (W := 0) (pick_1 l Z a0 hw [] a_SHARED a_EXCLUSIVE G q2 h0 n0 O0 hj) hZ (hw _ (wd 3 rfl)) (hw _ (wd 2 rfl)) (by decide) (by decide)) (g := (mkF m 6 #[iv q1, iv q2, rv a_SHARED, .unset, .unset, .unset] [(.int q2)])) rfl (by rw [hml]; rfl) (argsL := [(.int q2)]) (rest := []) (lenOf pd_0 rfl) rfl (by show 2 * 0 + _ ≤ _; exact Nat.le_of_eq rfl) (hb hby at_6) (fun _ _ => ⟨rfl, e33, (by decide : 0 + 0 ≤ _), (by decide : 0 + 0 ≤ _)⟩)
      dsimp only [Pt.U, Pt.locs, Pt.cells, Pt.slots] at X35 l35 y35 z35 st35 hQ35
      subst l35 y35 z35
      obtain ⟨rfl, N35q, e35⟩ := hQ35
      have N35 := Fr.app N33 N35q
      have k_36 : Go p.tables e below (s₁.setTop (entryFrame m #[(.int q1), (.int q2)] maxLocals)) (T35.setTop (mkF m 43 #[iv q1, iv q2, rv a_SHARED, rv a_EXCLUSIVE, iv 0, iv 1] [(.ref a_EXCLUSIVE), (.ref a_SHARED)])) := fun t q => by
        refine k_34 t ?_
        refine st35 _ ?_
        show Steps _ _ _ (T35.setTop (mkF m 9 #[iv q1, iv q2, rv a_SHARED, .unset, .unset, .unset] [(.ref a_EXCLUSIVE)])) _
        refine XS.astoreN X35.here hx rfl (hb hby at_9) rfl rfl (l' := #[iv q1, iv q2, rv a_SHARED, rv a_EXCLUSIVE, .unset, .unset]) rfl ?_
        show Steps _ _ _ (T35.setTop (mkF m 10 #[iv q1, iv q2, rv a_SHARED, rv a_EXCLUSIVE, .unset, .unset] [])) _
        refine XS.iloadN X35.here hx rfl (hb hby at_10) rfl ?_
        show Steps _ _ _ (T35.setTop (mkF m 11 #[iv q1, iv q2, rv a_SHARED, rv a_EXCLUSIVE, .unset, .unset] [(.int q1)])) _
        refine XS.iconst X35.here hx rfl (hb hby at_11) ?_
        show Steps _ _ _ (T35.setTop (mkF m 12 #[iv q1, iv q2, rv a_SHARED, rv a_EXCLUSIVE, .unset, .unset] [(.int 1), (.int q1)])) _
        refine XS.iand X35.here hx rfl (hb hby at_12) rfl ?_
        show Steps _ _ _ (T35.setTop (mkF m 13 #[iv q1, iv q2, rv a_SHARED, rv a_EXCLUSIVE, .unset, .unset] [(.int (q1 &&& (1 : Int32)))])) _
        rw [hi]
        show Steps _ _ _ (T35.setTop (mkF m 13 #[iv q1, iv q2, rv a_SHARED, rv a_EXCLUSIVE, .unset, .unset] [(.int 0)])) _
        refine XS.ifNo X35.here hx rfl (hb hby at_13) rfl (by decide) ?_
        show Steps _ _ _ (T35.setTop (mkF m 16 #[iv q1, iv q2, rv a_SHARED, rv a_EXCLUSIVE, .unset, .unset] [])) _
        refine XS.iloadN X35.here hx rfl (hb hby at_16) rfl ?_
        show Steps _ _ _ (T35.setTop (mkF m 17 #[iv q1, iv q2, rv a_SHARED, rv a_EXCLUSIVE, .unset, .unset] [(.int q2)])) _
        refine XS.iconst X35.here hx rfl (hb hby at_17) ?_
        show Steps _ _ _ (T35.setTop (mkF m 18 #[iv q1, iv q2, rv a_SHARED, rv a_EXCLUSIVE, .unset, .unset] [(.int 1), (.int q2)])) _
        refine XS.iand X35.here hx rfl (hb hby at_18) rfl ?_
        show Steps _ _ _ (T35.setTop (mkF m 19 #[iv q1, iv q2, rv a_SHARED, rv a_EXCLUSIVE, .unset, .unset] [(.int (q2 &&& (1 : Int32)))])) _
        rw [hj]
        show Steps _ _ _ (T35.setTop (mkF m 19 #[iv q1, iv q2, rv a_SHARED, rv a_EXCLUSIVE, .unset, .unset] [(.int 1)])) _
        refine XS.ifYes X35.here hx rfl (pc0 := 19) (pc' := 26) rfl (hb hby at_19) rfl (by decide) (by decide) (by decide) ?_
        show Steps _ _ _ (T35.setTop (mkF m 26 #[iv q1, iv q2, rv a_SHARED, rv a_EXCLUSIVE, .unset, .unset] [])) _
        refine XS.iconst X35.here hx rfl (hb hby at_26) ?_
        show Steps _ _ _ (T35.setTop (mkF m 27 #[iv q1, iv q2, rv a_SHARED, rv a_EXCLUSIVE, .unset, .unset] [(.int 0)])) _
        refine XS.istore X35.here hx rfl (hb hby at_27) rfl (l' := #[iv q1, iv q2, rv a_SHARED, rv a_EXCLUSIVE, iv 0, .unset]) rfl ?_
        show Steps _ _ _ (T35.setTop (mkF m 29 #[iv q1, iv q2, rv a_SHARED, rv a_EXCLUSIVE, iv 0, .unset] [])) _
        refine XS.iload X35.here hx rfl (hb hby at_29) rfl ?_
        show Steps _ _ _ (T35.setTop (mkF m 31 #[iv q1, iv q2, rv a_SHARED, rv a_EXCLUSIVE, iv 0, .unset] [(.int 0)])) _
        refine XS.ifNo X35.here hx rfl (hb hby at_31) rfl (by decide) ?_
        show Steps _ _ _ (T35.setTop (mkF m 34 #[iv q1, iv q2, rv a_SHARED, rv a_EXCLUSIVE, iv 0, .unset] [])) _
        refine XS.iconst X35.here hx rfl (hb hby at_34) ?_
        show Steps _ _ _ (T35.setTop (mkF m 35 #[iv q1, iv q2, rv a_SHARED, rv a_EXCLUSIVE, iv 0, .unset] [(.int 1)])) _
        refine XS.goto X35.here hx rfl (pc0 := 35) (pc' := 39) rfl (hb hby at_35) (by decide) (by decide) ?_
        show Steps _ _ _ (T35.setTop (mkF m 39 #[iv q1, iv q2, rv a_SHARED, rv a_EXCLUSIVE, iv 0, .unset] [(.int 1)])) _
        refine XS.istore X35.here hx rfl (hb hby at_39) rfl (l' := #[iv q1, iv q2, rv a_SHARED, rv a_EXCLUSIVE, iv 0, iv 1]) rfl ?_
        show Steps _ _ _ (T35.setTop (mkF m 41 #[iv q1, iv q2, rv a_SHARED, rv a_EXCLUSIVE, iv 0, iv 1] [])) _
        refine XS.aloadN X35.here hx rfl (hb hby at_41) rfl rfl ?_
        show Steps _ _ _ (T35.setTop (mkF m 42 #[iv q1, iv q2, rv a_SHARED, rv a_EXCLUSIVE, iv 0, iv 1] [(.ref a_SHARED)])) _
        refine XS.aloadN X35.here hx rfl (hb hby at_42) rfl rfl ?_
        show Steps _ _ _ (T35.setTop (mkF m 43 #[iv q1, iv q2, rv a_SHARED, rv a_EXCLUSIVE, iv 0, iv 1] [(.ref a_EXCLUSIVE), (.ref a_SHARED)])) _
        exact q
      obtain ⟨cq37, kq37, q37a, q37b, q37c⟩ := isOf hZ e35 (Exa.ext O0.2 E_SHARED)
      obtain ⟨_, _, ⟨T37, L37, k37, n37⟩, -, X37, ⟨Lc37, hQ37, l37, y37, z37⟩, st37⟩ := X35.virtualBack hx (y := y_1) (z := y_1) hown (mvT hZ (hw _ (wd 9 rfl))) (mvT hZ (hw _ (wd 10 rfl))) (notFace_of_selects (args := #[]) (mvT hZ (hw _ (wd 12 rfl)))) (mvT hZ (hw _ (wd 12 rfl))) (mvT hZ (hw _ (wd 11 rfl))) (by decide) (backOf (W := 0) (cw_0_1 l Z a0 hw [] a_SHARED a_EXCLUSIVE G  h0 n0 O0 ) hZ (hw _ (wd 13 rfl)) (hw _ (wd 5 rfl)) (by decide) (by decide)) q37a q37c (g := (mkF m 43 #[iv q1, iv q2, rv a_SHARED, rv a_EXCLUSIVE, iv 0, iv 1] [(.ref a_EXCLUSIVE), (.ref a_SHARED)])) rfl (by rw [hml]; rfl) (Steps.refl _) (argsL := [(.ref a_EXCLUSIVE)]) (rest := []) (lenOf pd_1 rfl) rfl (by show 2 * 0 + _ ≤ _; exact Nat.le_of_eq rfl) (hb hby at_43) (fun _ _ => ⟨rfl, e35, (by decide : 0 + 0 ≤ _), (by decide : 0 + 0 ≤ _)⟩)
      dsimp only [Pt.U, Pt.locs, Pt.cells, Pt.slots] at X37 l37 y37 z37 st37 hQ37
      subst l37 y37 z37
      obtain ⟨rfl, N37q, e37⟩ := hQ37
      have N37 := Fr.app N35 N37q
      have k_38 : Go p.tables e below (s₁.setTop (entryFrame m #[(.int q1), (.int q2)] maxLocals)) (T37.setTop (mkF m 53 #[iv q1, iv q2, rv a_SHARED, rv a_EXCLUSIVE, iv 0, iv 1] [(.ref a_SHARED), (.ref a_EXCLUSIVE)])) := fun t q => by
        refine k_36 t ?_
        refine st37.trans ?_
        show Steps _ _ _ (T37.setTop (mkF m 46 #[iv q1, iv q2, rv a_SHARED, rv a_EXCLUSIVE, iv 0, iv 1] [(.int 1)])) _
        refine XS.iload X37.here hx rfl (hb hby at_46) rfl ?_
        show Steps _ _ _ (T37.setTop (mkF m 48 #[iv q1, iv q2, rv a_SHARED, rv a_EXCLUSIVE, iv 0, iv 1] [(.int 1), (.int 1)])) _
        refine XS.icmpNo X37.here hx rfl (hb hby at_48) rfl (by decide) ?_
        show Steps _ _ _ (T37.setTop (mkF m 51 #[iv q1, iv q2, rv a_SHARED, rv a_EXCLUSIVE, iv 0, iv 1] [])) _
        refine XS.aloadN X37.here hx rfl (hb hby at_51) rfl rfl ?_
        show Steps _ _ _ (T37.setTop (mkF m 52 #[iv q1, iv q2, rv a_SHARED, rv a_EXCLUSIVE, iv 0, iv 1] [(.ref a_EXCLUSIVE)])) _
        refine XS.aloadN X37.here hx rfl (hb hby at_52) rfl rfl ?_
        show Steps _ _ _ (T37.setTop (mkF m 53 #[iv q1, iv q2, rv a_SHARED, rv a_EXCLUSIVE, iv 0, iv 1] [(.ref a_SHARED), (.ref a_EXCLUSIVE)])) _
        exact q
      obtain ⟨cq39, kq39, q39a, q39b, q39c⟩ := isOf hZ e37 (Exa.ext O0.2 E_EXCLUSIVE)
      obtain ⟨_, _, ⟨T39, L39, k39, n39⟩, -, X39, ⟨Lc39, hQ39, l39, y39, z39⟩, st39⟩ := X37.virtualBack hx (y := y_1) (z := y_1) hown (mvT hZ (hw _ (wd 9 rfl))) (mvT hZ (hw _ (wd 10 rfl))) (notFace_of_selects (args := #[]) (mvT hZ (hw _ (wd 12 rfl)))) (mvT hZ (hw _ (wd 12 rfl))) (mvT hZ (hw _ (wd 11 rfl))) (by decide) (backOf (W := 0) (cw_1_0 l Z a0 hw [] a_SHARED a_EXCLUSIVE G  h0 n0 O0 ) hZ (hw _ (wd 13 rfl)) (hw _ (wd 5 rfl)) (by decide) (by decide)) q39a q39c (g := (mkF m 53 #[iv q1, iv q2, rv a_SHARED, rv a_EXCLUSIVE, iv 0, iv 1] [(.ref a_SHARED), (.ref a_EXCLUSIVE)])) rfl (by rw [hml]; rfl) (Steps.refl _) (argsL := [(.ref a_SHARED)]) (rest := []) (lenOf pd_1 rfl) rfl (by show 2 * 0 + _ ≤ _; exact Nat.le_of_eq rfl) (hb hby at_53) (fun _ _ => ⟨rfl, e37, (by decide : 0 + 0 ≤ _), (by decide : 0 + 0 ≤ _)⟩)
      dsimp only [Pt.U, Pt.locs, Pt.cells, Pt.slots] at X39 l39 y39 z39 st39 hQ39
      subst l39 y39 z39
      obtain ⟨rfl, N39q, e39⟩ := hQ39
      have N39 := Fr.app N37 N39q
      have k_40 : Go p.tables e below (s₁.setTop (entryFrame m #[(.int q1), (.int q2)] maxLocals)) (T39.setTop (mkF m 66 #[iv q1, iv q2, rv a_SHARED, rv a_EXCLUSIVE, iv 0, iv 1] [(.int 1)])) := fun t q => by
        refine k_38 t ?_
        refine st39.trans ?_
        show Steps _ _ _ (T39.setTop (mkF m 56 #[iv q1, iv q2, rv a_SHARED, rv a_EXCLUSIVE, iv 0, iv 1] [(.int 1)])) _
        refine XS.iload X39.here hx rfl (hb hby at_56) rfl ?_
        show Steps _ _ _ (T39.setTop (mkF m 58 #[iv q1, iv q2, rv a_SHARED, rv a_EXCLUSIVE, iv 0, iv 1] [(.int 1), (.int 1)])) _
        refine XS.icmpNo X39.here hx rfl (hb hby at_58) rfl (by decide) ?_
        show Steps _ _ _ (T39.setTop (mkF m 61 #[iv q1, iv q2, rv a_SHARED, rv a_EXCLUSIVE, iv 0, iv 1] [])) _
        refine XS.iconst X39.here hx rfl (hb hby at_61) ?_
        show Steps _ _ _ (T39.setTop (mkF m 62 #[iv q1, iv q2, rv a_SHARED, rv a_EXCLUSIVE, iv 0, iv 1] [(.int 1)])) _
        refine XS.goto X39.here hx rfl (pc0 := 62) (pc' := 66) rfl (hb hby at_62) (by decide) (by decide) ?_
        show Steps _ _ _ (T39.setTop (mkF m 66 #[iv q1, iv q2, rv a_SHARED, rv a_EXCLUSIVE, iv 0, iv 1] [(.int 1)])) _
        exact q
      obtain ⟨fs, hr, hrun, hended, hW, hsame⟩ := X39.leave (v := some (.int 1)) (fun h => by rw [Bd.returns] at h; cases h)
      refine ⟨_, _, k_40 _ ?_, hrun, hended, _, _, rfl, ?_, ⟨_, rfl⟩, hW, hsame.mono (by decide) (by decide)⟩
      · exact retN X39 hx (t := .boolean) Bd.returns (by simp) (hb hby at_66) hr
      · show Q0 n0 _ T39.heap _
        rw [e39]
        exact ⟨rfl, N39⟩
  · skip
    rcases and_one q2 with hj | hj
    · skip
      have k_41 : Go p.tables e below (s₁.setTop (entryFrame m #[(.int q1), (.int q2)] maxLocals)) (s₁.setTop (mkF m 1 #[iv q1, iv q2, .unset, .unset, .unset, .unset] [(.int q1)])) := fun t q => by
        refine k0 t ?_
        refine XS.iloadN X0.here hx rfl (hb hby at_0) rfl ?_
        show Steps _ _ _ (s₁.setTop (mkF m 1 #[iv q1, iv q2, .unset, .unset, .unset, .unset] [(.int q1)])) _
        exact q
      obtain ⟨_, _, ⟨T42, L42, k42, n42⟩, -, X42, ⟨Lc42, hQ42, l42, y42, z42⟩, st42⟩ := Jvm.LawKit.callS X0 hx (y := y_0) hown (mvT hZ (hw _ (wd 0 rfl))) (mvT hZ (hw _ (wd 1 rfl))) (mvT hZ (hw _ (wd 2 rfl))) (mvT hZ (hw _ (wd 3 rfl))) (by decide) (backOf (W := 0) (pick_1 l Z a0 hw [] a_SHARED a_EXCLUSIVE G q1 h0 n0 O0 hi) hZ (hw _ (wd 3 rfl)) (hw _ (wd 2 rfl)) (by decide) (by decide)) (g := (mkF m 1 #[iv q1, iv q2, .unset, .unset, .unset, .unset] [(.int q1)])) rfl (by rw [hml]; rfl) (argsL := [(.int q1)]) (rest := []) (lenOf pd_0 rfl) rfl (by show 2 * 0 + _ ≤ _; exact Nat.le_of_eq rfl) (hb hby at_1) (fun _ _ => ⟨rfl, e0, (by decide : 0 + 0 ≤ _), (by decide : 0 + 0 ≤ _)⟩)
      dsimp only [Pt.U, Pt.locs, Pt.cells, Pt.slots] at X42 l42 y42 z42 st42 hQ42
      subst l42 y42 z42
      obtain ⟨rfl, N42q, e42⟩ := hQ42
      have N42 := Fr.app N0 N42q
      have k_43 : Go p.tables e below (s₁.setTop (entryFrame m #[(.int q1), (.int q2)] maxLocals)) (T42.setTop (mkF m 6 #[iv q1, iv q2, rv a_EXCLUSIVE, .unset, .unset, .unset] [(.int q2)])) := fun t q => by
        refine k_41 t ?_
        refine st42 _ ?_
        show Steps _ _ _ (T42.setTop (mkF m 4 #[iv q1, iv q2, .unset, .unset, .unset, .unset] [(.ref a_EXCLUSIVE)])) _
        refine XS.astoreN X42.here hx rfl (hb hby at_4) rfl rfl (l' := #[iv q1, iv q2, rv a_EXCLUSIVE, .unset, .unset, .unset]) rfl ?_
        show Steps _ _ _ (T42.setTop (mkF m 5 #[iv q1, iv q2, rv a_EXCLUSIVE, .unset, .unset, .unset] [])) _
        refine XS.iloadN X42.here hx rfl (hb hby at_5) rfl ?_
        show Steps _ _ _ (T42.setTop (mkF m 6 #[iv q1, iv q2, rv a_EXCLUSIVE, .unset, .unset, .unset] [(.int q2)])) _
        exact q
      obtain ⟨_, _, ⟨T44, L44, k44, n44⟩, -, X44, ⟨Lc44, hQ44, l44, y44, z44⟩, st44⟩ := Jvm.LawKit.callS X42 hx (y := y_0) hown (mvT hZ (hw _ (wd 0 rfl))) (mvT hZ (hw _ (wd 1 rfl))) (mvT hZ (hw _ (wd 2 rfl))) (mvT hZ (hw _ (wd 3 rfl))) (by decide) (backOf (W := 0) (pick_0 l Z a0 hw [] a_SHARED a_EXCLUSIVE G q2 h0 n0 O0 hj) hZ (hw _ (wd 3 rfl)) (hw _ (wd 2 rfl)) (by decide) (by decide)) (g := (mkF m 6 #[iv q1, iv q2, rv a_EXCLUSIVE, .unset, .unset, .unset] [(.int q2)])) rfl (by rw [hml]; rfl) (argsL := [(.int q2)]) (rest := []) (lenOf pd_0 rfl) rfl (by show 2 * 0 + _ ≤ _; exact Nat.le_of_eq rfl) (hb hby at_6) (fun _ _ => ⟨rfl, e42, (by decide : 0 + 0 ≤ _), (by decide : 0 + 0 ≤ _)⟩)
      dsimp only [Pt.U, Pt.locs, Pt.cells, Pt.slots] at X44 l44 y44 z44 st44 hQ44
      subst l44 y44 z44
      obtain ⟨rfl, N44q, e44⟩ := hQ44
      have N44 := Fr.app N42 N44q
      have k_45 : Go p.tables e below (s₁.setTop (entryFrame m #[(.int q1), (.int q2)] maxLocals)) (T44.setTop (mkF m 43 #[iv q1, iv q2, rv a_EXCLUSIVE, rv a_SHARED, iv 0, iv 1] [(.ref a_SHARED), (.ref a_EXCLUSIVE)])) := fun t q => by
        refine k_43 t ?_
        refine st44 _ ?_
        show Steps _ _ _ (T44.setTop (mkF m 9 #[iv q1, iv q2, rv a_EXCLUSIVE, .unset, .unset, .unset] [(.ref a_SHARED)])) _
        refine XS.astoreN X44.here hx rfl (hb hby at_9) rfl rfl (l' := #[iv q1, iv q2, rv a_EXCLUSIVE, rv a_SHARED, .unset, .unset]) rfl ?_
        show Steps _ _ _ (T44.setTop (mkF m 10 #[iv q1, iv q2, rv a_EXCLUSIVE, rv a_SHARED, .unset, .unset] [])) _
        refine XS.iloadN X44.here hx rfl (hb hby at_10) rfl ?_
        show Steps _ _ _ (T44.setTop (mkF m 11 #[iv q1, iv q2, rv a_EXCLUSIVE, rv a_SHARED, .unset, .unset] [(.int q1)])) _
        refine XS.iconst X44.here hx rfl (hb hby at_11) ?_
        show Steps _ _ _ (T44.setTop (mkF m 12 #[iv q1, iv q2, rv a_EXCLUSIVE, rv a_SHARED, .unset, .unset] [(.int 1), (.int q1)])) _
        refine XS.iand X44.here hx rfl (hb hby at_12) rfl ?_
        show Steps _ _ _ (T44.setTop (mkF m 13 #[iv q1, iv q2, rv a_EXCLUSIVE, rv a_SHARED, .unset, .unset] [(.int (q1 &&& (1 : Int32)))])) _
        rw [hi]
        show Steps _ _ _ (T44.setTop (mkF m 13 #[iv q1, iv q2, rv a_EXCLUSIVE, rv a_SHARED, .unset, .unset] [(.int 1)])) _
        refine XS.ifYes X44.here hx rfl (pc0 := 13) (pc' := 26) rfl (hb hby at_13) rfl (by decide) (by decide) (by decide) ?_
        show Steps _ _ _ (T44.setTop (mkF m 26 #[iv q1, iv q2, rv a_EXCLUSIVE, rv a_SHARED, .unset, .unset] [])) _
        refine XS.iconst X44.here hx rfl (hb hby at_26) ?_
        show Steps _ _ _ (T44.setTop (mkF m 27 #[iv q1, iv q2, rv a_EXCLUSIVE, rv a_SHARED, .unset, .unset] [(.int 0)])) _
        refine XS.istore X44.here hx rfl (hb hby at_27) rfl (l' := #[iv q1, iv q2, rv a_EXCLUSIVE, rv a_SHARED, iv 0, .unset]) rfl ?_
        show Steps _ _ _ (T44.setTop (mkF m 29 #[iv q1, iv q2, rv a_EXCLUSIVE, rv a_SHARED, iv 0, .unset] [])) _
        refine XS.iload X44.here hx rfl (hb hby at_29) rfl ?_
        show Steps _ _ _ (T44.setTop (mkF m 31 #[iv q1, iv q2, rv a_EXCLUSIVE, rv a_SHARED, iv 0, .unset] [(.int 0)])) _
        refine XS.ifNo X44.here hx rfl (hb hby at_31) rfl (by decide) ?_
        show Steps _ _ _ (T44.setTop (mkF m 34 #[iv q1, iv q2, rv a_EXCLUSIVE, rv a_SHARED, iv 0, .unset] [])) _
        refine XS.iconst X44.here hx rfl (hb hby at_34) ?_
        show Steps _ _ _ (T44.setTop (mkF m 35 #[iv q1, iv q2, rv a_EXCLUSIVE, rv a_SHARED, iv 0, .unset] [(.int 1)])) _
        refine XS.goto X44.here hx rfl (pc0 := 35) (pc' := 39) rfl (hb hby at_35) (by decide) (by decide) ?_
        show Steps _ _ _ (T44.setTop (mkF m 39 #[iv q1, iv q2, rv a_EXCLUSIVE, rv a_SHARED, iv 0, .unset] [(.int 1)])) _
        refine XS.istore X44.here hx rfl (hb hby at_39) rfl (l' := #[iv q1, iv q2, rv a_EXCLUSIVE, rv a_SHARED, iv 0, iv 1]) rfl ?_
        show Steps _ _ _ (T44.setTop (mkF m 41 #[iv q1, iv q2, rv a_EXCLUSIVE, rv a_SHARED, iv 0, iv 1] [])) _
        refine XS.aloadN X44.here hx rfl (hb hby at_41) rfl rfl ?_
        show Steps _ _ _ (T44.setTop (mkF m 42 #[iv q1, iv q2, rv a_EXCLUSIVE, rv a_SHARED, iv 0, iv 1] [(.ref a_EXCLUSIVE)])) _
        refine XS.aloadN X44.here hx rfl (hb hby at_42) rfl rfl ?_
        show Steps _ _ _ (T44.setTop (mkF m 43 #[iv q1, iv q2, rv a_EXCLUSIVE, rv a_SHARED, iv 0, iv 1] [(.ref a_SHARED), (.ref a_EXCLUSIVE)])) _
        exact q
      obtain ⟨cq46, kq46, q46a, q46b, q46c⟩ := isOf hZ e44 (Exa.ext O0.2 E_EXCLUSIVE)
      obtain ⟨_, _, ⟨T46, L46, k46, n46⟩, -, X46, ⟨Lc46, hQ46, l46, y46, z46⟩, st46⟩ := X44.virtualBack hx (y := y_1) (z := y_1) hown (mvT hZ (hw _ (wd 9 rfl))) (mvT hZ (hw _ (wd 10 rfl))) (notFace_of_selects (args := #[]) (mvT hZ (hw _ (wd 12 rfl)))) (mvT hZ (hw _ (wd 12 rfl))) (mvT hZ (hw _ (wd 11 rfl))) (by decide) (backOf (W := 0) (cw_1_0 l Z a0 hw [] a_SHARED a_EXCLUSIVE G  h0 n0 O0 ) hZ (hw _ (wd 13 rfl)) (hw _ (wd 5 rfl)) (by decide) (by decide)) q46a q46c (g := (mkF m 43 #[iv q1, iv q2, rv a_EXCLUSIVE, rv a_SHARED, iv 0, iv 1] [(.ref a_SHARED), (.ref a_EXCLUSIVE)])) rfl (by rw [hml]; rfl) (Steps.refl _) (argsL := [(.ref a_SHARED)]) (rest := []) (lenOf pd_1 rfl) rfl (by show 2 * 0 + _ ≤ _; exact Nat.le_of_eq rfl) (hb hby at_43) (fun _ _ => ⟨rfl, e44, (by decide : 0 + 0 ≤ _), (by decide : 0 + 0 ≤ _)⟩)
      dsimp only [Pt.U, Pt.locs, Pt.cells, Pt.slots] at X46 l46 y46 z46 st46 hQ46
      subst l46 y46 z46
      obtain ⟨rfl, N46q, e46⟩ := hQ46
      have N46 := Fr.app N44 N46q
      have k_47 : Go p.tables e below (s₁.setTop (entryFrame m #[(.int q1), (.int q2)] maxLocals)) (T46.setTop (mkF m 53 #[iv q1, iv q2, rv a_EXCLUSIVE, rv a_SHARED, iv 0, iv 1] [(.ref a_EXCLUSIVE), (.ref a_SHARED)])) := fun t q => by
        refine k_45 t ?_
        refine st46.trans ?_
        show Steps _ _ _ (T46.setTop (mkF m 46 #[iv q1, iv q2, rv a_EXCLUSIVE, rv a_SHARED, iv 0, iv 1] [(.int 1)])) _
        refine XS.iload X46.here hx rfl (hb hby at_46) rfl ?_
        show Steps _ _ _ (T46.setTop (mkF m 48 #[iv q1, iv q2, rv a_EXCLUSIVE, rv a_SHARED, iv 0, iv 1] [(.int 1), (.int 1)])) _
        refine XS.icmpNo X46.here hx rfl (hb hby at_48) rfl (by decide) ?_
        show Steps _ _ _ (T46.setTop (mkF m 51 #[iv q1, iv q2, rv a_EXCLUSIVE, rv a_SHARED, iv 0, iv 1] [])) _
        refine XS.aloadN X46.here hx rfl (hb hby at_51) rfl rfl ?_
        show Steps _ _ _ (T46.setTop (mkF m 52 #[iv q1, iv q2, rv a_EXCLUSIVE, rv a_SHARED, iv 0, iv 1] [(.ref a_SHARED)])) _
        refine XS.aloadN X46.here hx rfl (hb hby at_52) rfl rfl ?_
        show Steps _ _ _ (T46.setTop (mkF m 53 #[iv q1, iv q2, rv a_EXCLUSIVE, rv a_SHARED, iv 0, iv 1] [(.ref a_EXCLUSIVE), (.ref a_SHARED)])) _
        exact q
      obtain ⟨cq48, kq48, q48a, q48b, q48c⟩ := isOf hZ e46 (Exa.ext O0.2 E_SHARED)
      obtain ⟨_, _, ⟨T48, L48, k48, n48⟩, -, X48, ⟨Lc48, hQ48, l48, y48, z48⟩, st48⟩ := X46.virtualBack hx (y := y_1) (z := y_1) hown (mvT hZ (hw _ (wd 9 rfl))) (mvT hZ (hw _ (wd 10 rfl))) (notFace_of_selects (args := #[]) (mvT hZ (hw _ (wd 12 rfl)))) (mvT hZ (hw _ (wd 12 rfl))) (mvT hZ (hw _ (wd 11 rfl))) (by decide) (backOf (W := 0) (cw_0_1 l Z a0 hw [] a_SHARED a_EXCLUSIVE G  h0 n0 O0 ) hZ (hw _ (wd 13 rfl)) (hw _ (wd 5 rfl)) (by decide) (by decide)) q48a q48c (g := (mkF m 53 #[iv q1, iv q2, rv a_EXCLUSIVE, rv a_SHARED, iv 0, iv 1] [(.ref a_EXCLUSIVE), (.ref a_SHARED)])) rfl (by rw [hml]; rfl) (Steps.refl _) (argsL := [(.ref a_EXCLUSIVE)]) (rest := []) (lenOf pd_1 rfl) rfl (by show 2 * 0 + _ ≤ _; exact Nat.le_of_eq rfl) (hb hby at_53) (fun _ _ => ⟨rfl, e46, (by decide : 0 + 0 ≤ _), (by decide : 0 + 0 ≤ _)⟩)
      dsimp only [Pt.U, Pt.locs, Pt.cells, Pt.slots] at X48 l48 y48 z48 st48 hQ48
      subst l48 y48 z48
      obtain ⟨rfl, N48q, e48⟩ := hQ48
      have N48 := Fr.app N46 N48q
      have k_49 : Go p.tables e below (s₁.setTop (entryFrame m #[(.int q1), (.int q2)] maxLocals)) (T48.setTop (mkF m 66 #[iv q1, iv q2, rv a_EXCLUSIVE, rv a_SHARED, iv 0, iv 1] [(.int 1)])) := fun t q => by
        refine k_47 t ?_
        refine st48.trans ?_
        show Steps _ _ _ (T48.setTop (mkF m 56 #[iv q1, iv q2, rv a_EXCLUSIVE, rv a_SHARED, iv 0, iv 1] [(.int 1)])) _
        refine XS.iload X48.here hx rfl (hb hby at_56) rfl ?_
        show Steps _ _ _ (T48.setTop (mkF m 58 #[iv q1, iv q2, rv a_EXCLUSIVE, rv a_SHARED, iv 0, iv 1] [(.int 1), (.int 1)])) _
        refine XS.icmpNo X48.here hx rfl (hb hby at_58) rfl (by decide) ?_
        show Steps _ _ _ (T48.setTop (mkF m 61 #[iv q1, iv q2, rv a_EXCLUSIVE, rv a_SHARED, iv 0, iv 1] [])) _
        refine XS.iconst X48.here hx rfl (hb hby at_61) ?_
        show Steps _ _ _ (T48.setTop (mkF m 62 #[iv q1, iv q2, rv a_EXCLUSIVE, rv a_SHARED, iv 0, iv 1] [(.int 1)])) _
        refine XS.goto X48.here hx rfl (pc0 := 62) (pc' := 66) rfl (hb hby at_62) (by decide) (by decide) ?_
        show Steps _ _ _ (T48.setTop (mkF m 66 #[iv q1, iv q2, rv a_EXCLUSIVE, rv a_SHARED, iv 0, iv 1] [(.int 1)])) _
        exact q
      obtain ⟨fs, hr, hrun, hended, hW, hsame⟩ := X48.leave (v := some (.int 1)) (fun h => by rw [Bd.returns] at h; cases h)
      refine ⟨_, _, k_49 _ ?_, hrun, hended, _, _, rfl, ?_, ⟨_, rfl⟩, hW, hsame.mono (by decide) (by decide)⟩
      · exact retN X48 hx (t := .boolean) Bd.returns (by simp) (hb hby at_66) hr
      · show Q0 n0 _ T48.heap _
        rw [e48]
        exact ⟨rfl, N48⟩
    · skip
      have k_50 : Go p.tables e below (s₁.setTop (entryFrame m #[(.int q1), (.int q2)] maxLocals)) (s₁.setTop (mkF m 1 #[iv q1, iv q2, .unset, .unset, .unset, .unset] [(.int q1)])) := fun t q => by
        refine k0 t ?_
        refine XS.iloadN X0.here hx rfl (hb hby at_0) rfl ?_
        show Steps _ _ _ (s₁.setTop (mkF m 1 #[iv q1, iv q2, .unset, .unset, .unset, .unset] [(.int q1)])) _
        exact q
      obtain ⟨_, _, ⟨T51, L51, k51, n51⟩, -, X51, ⟨Lc51, hQ51, l51, y51, z51⟩, st51⟩ := Jvm.LawKit.callS X0 hx (y := y_0) hown (mvT hZ (hw _ (wd 0 rfl))) (mvT hZ (hw _ (wd 1 rfl))) (mvT hZ (hw _ (wd 2 rfl))) (mvT hZ (hw _ (wd 3 rfl))) (by decide) (backOf (W := 0) (pick_1 l Z a0 hw [] a_SHARED a_EXCLUSIVE G q1 h0 n0 O0 hi) hZ (hw _ (wd 3 rfl)) (hw _ (wd 2 rfl)) (by decide) (by decide)) (g := (mkF m 1 #[iv q1, iv q2, .unset, .unset, .unset, .unset] [(.int q1)])) rfl (by rw [hml]; rfl) (argsL := [(.int q1)]) (rest := []) (lenOf pd_0 rfl) rfl (by show 2 * 0 + _ ≤ _; exact Nat.le_of_eq rfl) (hb hby at_1) (fun _ _ => ⟨rfl, e0, (by decide : 0 + 0 ≤ _), (by decide : 0 + 0 ≤ _)⟩)
      dsimp only [Pt.U, Pt.locs, Pt.cells, Pt.slots] at X51 l51 y51 z51 st51 hQ51
      subst l51 y51 z51
      obtain ⟨rfl, N51q, e51⟩ := hQ51
      have N51 := Fr.app N0 N51q
      have k_52 : Go p.tables e below (s₁.setTop (entryFrame m #[(.int q1), (.int q2)] maxLocals)) (T51.setTop (mkF m 6 #[iv q1, iv q2, rv a_EXCLUSIVE, .unset, .unset, .unset] [(.int q2)])) := fun t q => by
        refine k_50 t ?_
        refine st51 _ ?_
        show Steps _ _ _ (T51.setTop (mkF m 4 #[iv q1, iv q2, .unset, .unset, .unset, .unset] [(.ref a_EXCLUSIVE)])) _
        refine XS.astoreN X51.here hx rfl (hb hby at_4) rfl rfl (l' := #[iv q1, iv q2, rv a_EXCLUSIVE, .unset, .unset, .unset]) rfl ?_
        show Steps _ _ _ (T51.setTop (mkF m 5 #[iv q1, iv q2, rv a_EXCLUSIVE, .unset, .unset, .unset] [])) _
        refine XS.iloadN X51.here hx rfl (hb hby at_5) rfl ?_
        show Steps _ _ _ (T51.setTop (mkF m 6 #[iv q1, iv q2, rv a_EXCLUSIVE, .unset, .unset, .unset] [(.int q2)])) _
        exact q
      obtain ⟨_, _, ⟨T53, L53, k53, n53⟩, -, X53, ⟨Lc53, hQ53, l53, y53, z53⟩, st53⟩ := Jvm.LawKit.callS X51 hx (y := y_0) hown (mvT hZ (hw _ (wd 0 rfl))) (mvT hZ (hw _ (wd 1 rfl))) (mvT hZ (hw _ (wd 2 rfl))) (mvT hZ (hw _ (wd 3 rfl))) (by decide) (backOf (W := 0) (pick_1 l Z a0 hw [] a_SHARED a_EXCLUSIVE G q2 h0 n0 O0 hj) hZ (hw _ (wd 3 rfl)) (hw _ (wd 2 rfl)) (by decide) (by decide)) (g := (mkF m 6 #[iv q1, iv q2, rv a_EXCLUSIVE, .unset, .unset, .unset] [(.int q2)])) rfl (by rw [hml]; rfl) (argsL := [(.int q2)]) (rest := []) (lenOf pd_0 rfl) rfl (by show 2 * 0 + _ ≤ _; exact Nat.le_of_eq rfl) (hb hby at_6) (fun _ _ => ⟨rfl, e51, (by decide : 0 + 0 ≤ _), (by decide : 0 + 0 ≤ _)⟩)
      dsimp only [Pt.U, Pt.locs, Pt.cells, Pt.slots] at X53 l53 y53 z53 st53 hQ53
      subst l53 y53 z53
      obtain ⟨rfl, N53q, e53⟩ := hQ53
      have N53 := Fr.app N51 N53q
      have k_54 : Go p.tables e below (s₁.setTop (entryFrame m #[(.int q1), (.int q2)] maxLocals)) (T53.setTop (mkF m 43 #[iv q1, iv q2, rv a_EXCLUSIVE, rv a_EXCLUSIVE, iv 0, iv 1] [(.ref a_EXCLUSIVE), (.ref a_EXCLUSIVE)])) := fun t q => by
        refine k_52 t ?_
        refine st53 _ ?_
        show Steps _ _ _ (T53.setTop (mkF m 9 #[iv q1, iv q2, rv a_EXCLUSIVE, .unset, .unset, .unset] [(.ref a_EXCLUSIVE)])) _
        refine XS.astoreN X53.here hx rfl (hb hby at_9) rfl rfl (l' := #[iv q1, iv q2, rv a_EXCLUSIVE, rv a_EXCLUSIVE, .unset, .unset]) rfl ?_
        show Steps _ _ _ (T53.setTop (mkF m 10 #[iv q1, iv q2, rv a_EXCLUSIVE, rv a_EXCLUSIVE, .unset, .unset] [])) _
        refine XS.iloadN X53.here hx rfl (hb hby at_10) rfl ?_
        show Steps _ _ _ (T53.setTop (mkF m 11 #[iv q1, iv q2, rv a_EXCLUSIVE, rv a_EXCLUSIVE, .unset, .unset] [(.int q1)])) _
        refine XS.iconst X53.here hx rfl (hb hby at_11) ?_
        show Steps _ _ _ (T53.setTop (mkF m 12 #[iv q1, iv q2, rv a_EXCLUSIVE, rv a_EXCLUSIVE, .unset, .unset] [(.int 1), (.int q1)])) _
        refine XS.iand X53.here hx rfl (hb hby at_12) rfl ?_
        show Steps _ _ _ (T53.setTop (mkF m 13 #[iv q1, iv q2, rv a_EXCLUSIVE, rv a_EXCLUSIVE, .unset, .unset] [(.int (q1 &&& (1 : Int32)))])) _
        rw [hi]
        show Steps _ _ _ (T53.setTop (mkF m 13 #[iv q1, iv q2, rv a_EXCLUSIVE, rv a_EXCLUSIVE, .unset, .unset] [(.int 1)])) _
        refine XS.ifYes X53.here hx rfl (pc0 := 13) (pc' := 26) rfl (hb hby at_13) rfl (by decide) (by decide) (by decide) ?_
        show Steps _ _ _ (T53.setTop (mkF m 26 #[iv q1, iv q2, rv a_EXCLUSIVE, rv a_EXCLUSIVE, .unset, .unset] [])) _
        refine XS.iconst X53.here hx rfl (hb hby at_26) ?_
        show Steps _ _ _ (T53.setTop (mkF m 27 #[iv q1, iv q2, rv a_EXCLUSIVE, rv a_EXCLUSIVE, .unset, .unset] [(.int 0)])) _
        refine XS.istore X53.here hx rfl (hb hby at_27) rfl (l' := #[iv q1, iv q2, rv a_EXCLUSIVE, rv a_EXCLUSIVE, iv 0, .unset]) rfl ?_
        show Steps _ _ _ (T53.setTop (mkF m 29 #[iv q1, iv q2, rv a_EXCLUSIVE, rv a_EXCLUSIVE, iv 0, .unset] [])) _
        refine XS.iload X53.here hx rfl (hb hby at_29) rfl ?_
        show Steps _ _ _ (T53.setTop (mkF m 31 #[iv q1, iv q2, rv a_EXCLUSIVE, rv a_EXCLUSIVE, iv 0, .unset] [(.int 0)])) _
        refine XS.ifNo X53.here hx rfl (hb hby at_31) rfl (by decide) ?_
        show Steps _ _ _ (T53.setTop (mkF m 34 #[iv q1, iv q2, rv a_EXCLUSIVE, rv a_EXCLUSIVE, iv 0, .unset] [])) _
        refine XS.iconst X53.here hx rfl (hb hby at_34) ?_
        show Steps _ _ _ (T53.setTop (mkF m 35 #[iv q1, iv q2, rv a_EXCLUSIVE, rv a_EXCLUSIVE, iv 0, .unset] [(.int 1)])) _
        refine XS.goto X53.here hx rfl (pc0 := 35) (pc' := 39) rfl (hb hby at_35) (by decide) (by decide) ?_
        show Steps _ _ _ (T53.setTop (mkF m 39 #[iv q1, iv q2, rv a_EXCLUSIVE, rv a_EXCLUSIVE, iv 0, .unset] [(.int 1)])) _
        refine XS.istore X53.here hx rfl (hb hby at_39) rfl (l' := #[iv q1, iv q2, rv a_EXCLUSIVE, rv a_EXCLUSIVE, iv 0, iv 1]) rfl ?_
        show Steps _ _ _ (T53.setTop (mkF m 41 #[iv q1, iv q2, rv a_EXCLUSIVE, rv a_EXCLUSIVE, iv 0, iv 1] [])) _
        refine XS.aloadN X53.here hx rfl (hb hby at_41) rfl rfl ?_
        show Steps _ _ _ (T53.setTop (mkF m 42 #[iv q1, iv q2, rv a_EXCLUSIVE, rv a_EXCLUSIVE, iv 0, iv 1] [(.ref a_EXCLUSIVE)])) _
        refine XS.aloadN X53.here hx rfl (hb hby at_42) rfl rfl ?_
        show Steps _ _ _ (T53.setTop (mkF m 43 #[iv q1, iv q2, rv a_EXCLUSIVE, rv a_EXCLUSIVE, iv 0, iv 1] [(.ref a_EXCLUSIVE), (.ref a_EXCLUSIVE)])) _
        exact q
      obtain ⟨cq55, kq55, q55a, q55b, q55c⟩ := isOf hZ e53 (Exa.ext O0.2 E_EXCLUSIVE)
      obtain ⟨_, _, ⟨T55, L55, k55, n55⟩, -, X55, ⟨Lc55, hQ55, l55, y55, z55⟩, st55⟩ := X53.virtualBack hx (y := y_1) (z := y_1) hown (mvT hZ (hw _ (wd 9 rfl))) (mvT hZ (hw _ (wd 10 rfl))) (notFace_of_selects (args := #[]) (mvT hZ (hw _ (wd 12 rfl)))) (mvT hZ (hw _ (wd 12 rfl))) (mvT hZ (hw _ (wd 11 rfl))) (by decide) (backOf (W := 0) (cw_1_1 l Z a0 hw [] a_SHARED a_EXCLUSIVE G  h0 n0 O0 ) hZ (hw _ (wd 13 rfl)) (hw _ (wd 5 rfl)) (by decide) (by decide)) q55a q55c (g := (mkF m 43 #[iv q1, iv q2, rv a_EXCLUSIVE, rv a_EXCLUSIVE, iv 0, iv 1] [(.ref a_EXCLUSIVE), (.ref a_EXCLUSIVE)])) rfl (by rw [hml]; rfl) (Steps.refl _) (argsL := [(.ref a_EXCLUSIVE)]) (rest := []) (lenOf pd_1 rfl) rfl (by show 2 * 0 + _ ≤ _; exact Nat.le_of_eq rfl) (hb hby at_43) (fun _ _ => ⟨rfl, e53, (by decide : 0 + 0 ≤ _), (by decide : 0 + 0 ≤ _)⟩)
      dsimp only [Pt.U, Pt.locs, Pt.cells, Pt.slots] at X55 l55 y55 z55 st55 hQ55
      subst l55 y55 z55
      obtain ⟨rfl, N55q, e55⟩ := hQ55
      have N55 := Fr.app N53 N55q
      have k_56 : Go p.tables e below (s₁.setTop (entryFrame m #[(.int q1), (.int q2)] maxLocals)) (T55.setTop (mkF m 53 #[iv q1, iv q2, rv a_EXCLUSIVE, rv a_EXCLUSIVE, iv 0, iv 1] [(.ref a_EXCLUSIVE), (.ref a_EXCLUSIVE)])) := fun t q => by
        refine k_54 t ?_
        refine st55.trans ?_
        show Steps _ _ _ (T55.setTop (mkF m 46 #[iv q1, iv q2, rv a_EXCLUSIVE, rv a_EXCLUSIVE, iv 0, iv 1] [(.int 1)])) _
        refine XS.iload X55.here hx rfl (hb hby at_46) rfl ?_
        show Steps _ _ _ (T55.setTop (mkF m 48 #[iv q1, iv q2, rv a_EXCLUSIVE, rv a_EXCLUSIVE, iv 0, iv 1] [(.int 1), (.int 1)])) _
        refine XS.icmpNo X55.here hx rfl (hb hby at_48) rfl (by decide) ?_
        show Steps _ _ _ (T55.setTop (mkF m 51 #[iv q1, iv q2, rv a_EXCLUSIVE, rv a_EXCLUSIVE, iv 0, iv 1] [])) _
        refine XS.aloadN X55.here hx rfl (hb hby at_51) rfl rfl ?_
        show Steps _ _ _ (T55.setTop (mkF m 52 #[iv q1, iv q2, rv a_EXCLUSIVE, rv a_EXCLUSIVE, iv 0, iv 1] [(.ref a_EXCLUSIVE)])) _
        refine XS.aloadN X55.here hx rfl (hb hby at_52) rfl rfl ?_
        show Steps _ _ _ (T55.setTop (mkF m 53 #[iv q1, iv q2, rv a_EXCLUSIVE, rv a_EXCLUSIVE, iv 0, iv 1] [(.ref a_EXCLUSIVE), (.ref a_EXCLUSIVE)])) _
        exact q
      obtain ⟨cq57, kq57, q57a, q57b, q57c⟩ := isOf hZ e55 (Exa.ext O0.2 E_EXCLUSIVE)
      obtain ⟨_, _, ⟨T57, L57, k57, n57⟩, -, X57, ⟨Lc57, hQ57, l57, y57, z57⟩, st57⟩ := X55.virtualBack hx (y := y_1) (z := y_1) hown (mvT hZ (hw _ (wd 9 rfl))) (mvT hZ (hw _ (wd 10 rfl))) (notFace_of_selects (args := #[]) (mvT hZ (hw _ (wd 12 rfl)))) (mvT hZ (hw _ (wd 12 rfl))) (mvT hZ (hw _ (wd 11 rfl))) (by decide) (backOf (W := 0) (cw_1_1 l Z a0 hw [] a_SHARED a_EXCLUSIVE G  h0 n0 O0 ) hZ (hw _ (wd 13 rfl)) (hw _ (wd 5 rfl)) (by decide) (by decide)) q57a q57c (g := (mkF m 53 #[iv q1, iv q2, rv a_EXCLUSIVE, rv a_EXCLUSIVE, iv 0, iv 1] [(.ref a_EXCLUSIVE), (.ref a_EXCLUSIVE)])) rfl (by rw [hml]; rfl) (Steps.refl _) (argsL := [(.ref a_EXCLUSIVE)]) (rest := []) (lenOf pd_1 rfl) rfl (by show 2 * 0 + _ ≤ _; exact Nat.le_of_eq rfl) (hb hby at_53) (fun _ _ => ⟨rfl, e55, (by decide : 0 + 0 ≤ _), (by decide : 0 + 0 ≤ _)⟩)
      dsimp only [Pt.U, Pt.locs, Pt.cells, Pt.slots] at X57 l57 y57 z57 st57 hQ57
      subst l57 y57 z57
      obtain ⟨rfl, N57q, e57⟩ := hQ57
      have N57 := Fr.app N55 N57q
      have k_58 : Go p.tables e below (s₁.setTop (entryFrame m #[(.int q1), (.int q2)] maxLocals)) (T57.setTop (mkF m 66 #[iv q1, iv q2, rv a_EXCLUSIVE, rv a_EXCLUSIVE, iv 0, iv 1] [(.int 1)])) := fun t q => by
        refine k_56 t ?_
        refine st57.trans ?_
        show Steps _ _ _ (T57.setTop (mkF m 56 #[iv q1, iv q2, rv a_EXCLUSIVE, rv a_EXCLUSIVE, iv 0, iv 1] [(.int 1)])) _
        refine XS.iload X57.here hx rfl (hb hby at_56) rfl ?_
        show Steps _ _ _ (T57.setTop (mkF m 58 #[iv q1, iv q2, rv a_EXCLUSIVE, rv a_EXCLUSIVE, iv 0, iv 1] [(.int 1), (.int 1)])) _
        refine XS.icmpNo X57.here hx rfl (hb hby at_58) rfl (by decide) ?_
        show Steps _ _ _ (T57.setTop (mkF m 61 #[iv q1, iv q2, rv a_EXCLUSIVE, rv a_EXCLUSIVE, iv 0, iv 1] [])) _
        refine XS.iconst X57.here hx rfl (hb hby at_61) ?_
        show Steps _ _ _ (T57.setTop (mkF m 62 #[iv q1, iv q2, rv a_EXCLUSIVE, rv a_EXCLUSIVE, iv 0, iv 1] [(.int 1)])) _
        refine XS.goto X57.here hx rfl (pc0 := 62) (pc' := 66) rfl (hb hby at_62) (by decide) (by decide) ?_
        show Steps _ _ _ (T57.setTop (mkF m 66 #[iv q1, iv q2, rv a_EXCLUSIVE, rv a_EXCLUSIVE, iv 0, iv 1] [(.int 1)])) _
        exact q
      obtain ⟨fs, hr, hrun, hended, hW, hsame⟩ := X57.leave (v := some (.int 1)) (fun h => by rw [Bd.returns] at h; cases h)
      refine ⟨_, _, k_58 _ ?_, hrun, hended, _, _, rfl, ?_, ⟨_, rfl⟩, hW, hsame.mono (by decide) (by decide)⟩
      · exact retN X57 hx (t := .boolean) Bd.returns (by simp) (hb hby at_66) hr
      · show Q0 n0 _ T57.heap _
        rw [e57]
        exact ⟨rfl, N57⟩
set_option maxRecDepth 65536 in
set_option maxHeartbeats 40000000 in
theorem comes_1 {Post : Tables → Env → Array Value → State → Outcome → State → Prop} (hpost : ∀ tb e args s v u, (limb_1_1.after args s (.returned v) u = true ∧ limb_1_2.after args s (.returned v) u = true ∧ True) → FrameEnd s (.returned v) u (Jvm.fieldLocs frame_1_writes args s ++ Jvm.arrayLocs frame_1_arrays args s ++ Jvm.staticLocs frame_1_statics s) 0 0 → Post tb e args s (.returned v) u) :
    ArmFor flags0 classFile x code maxLocals ret World_1 tables_1 room_1 Calls_1 rest_1 Pre_1 Post := by
  intro l hfl _ _ p e ha hc hk s m args below hf hA hF happ hP
  obtain ⟨hcalls, hrest, hpre⟩ := hP
  obtain ⟨-, -, -, hnamed, -, -, -, hat⟩ := (Spec.applies_iff hf).mp happ
  obtain ⟨hg, hn⟩ := and_e (Cond.before_iff.mp (show (Jvm.Cond.and given_1 narrow_1).before args s = true from hpre))
  obtain ⟨g0, c0⟩ := and_e hg
  obtain ⟨g1, c1⟩ := and_e c0
  obtain ⟨w0, w1, rfl⟩ : ∃ w0 w1 : Value, args = #[w0, w1] := by
    have hs : args.size = 2 := by simpa [Cond.value, given_1] using g0
    obtain ⟨L⟩ := args
    match L, hs with
    | [w0, w1], _ => exact ⟨w0, w1, rfl⟩
  have hw := fun d (hd : d ∈ tables_1) => atoms_spec (ws := Jvm.Cond.code x code maxLocals ret :: tables_1) hat d (List.mem_cons_of_mem _ hd)
  obtain ⟨i0, ei0⟩ := is_v g1
  obtain rfl : w0 = (.int i0) := Option.some.inj ei0
  obtain ⟨i1, ei1⟩ := is_v c1
  obtain rfl : w1 = (.int i1) := Option.some.inj ei1
  obtain ⟨n0, r0⟩ := and_e hn
  obtain ⟨n1, r1⟩ := and_e r0
  obtain ⟨n2, r2⟩ := and_e r1
  obtain ⟨a_SHARED, v_SHARED⟩ := exa_v n0
  have E_SHARED := Exa.start v_SHARED n0
  have S_SHARED := Sta.start v_SHARED (Or.inr ⟨(hw _ (wd 5 rfl)), (hw _ (wd 6 rfl))⟩)
  obtain ⟨a_EXCLUSIVE, v_EXCLUSIVE⟩ := exa_v n1
  have E_EXCLUSIVE := Exa.start v_EXCLUSIVE n1
  have S_EXCLUSIVE := Sta.start v_EXCLUSIVE (Or.inr ⟨(hw _ (wd 5 rfl)), (hw _ (wd 8 rfl))⟩)
  have R_SHARED_ordinal := own_fld v_SHARED n2
  have R_EXCLUSIVE_ordinal := own_fld v_EXCLUSIVE r2
  have G : Own s a_SHARED a_EXCLUSIVE := ⟨S_SHARED, E_SHARED, S_EXCLUSIVE, E_EXCLUSIVE, R_SHARED_ordinal, R_EXCLUSIVE_ordinal⟩
  obtain ⟨n, o, h1, h2, h3, _, L, rfl, ⟨rfl, N⟩, hq⟩ := rm0 l s _ hw tables_1 a_SHARED a_EXCLUSIVE G i0 i1 s.heap s.heap.size (Old.start s) p e ha hc hk s m _ below hf ((Spec.applies_iff_loose hf).mp happ).1 ⟨rfl, State.Warmed39.refl s, rfl⟩ trivial
  refine ⟨n, _, h1, h2, h3, hpost _ _ _ _ _ _ ⟨Cond.after_iff.mpr rfl, Cond.after_iff.mpr (eq_i res_at (Term.int_eval (1)) rfl), trivial⟩ ⟨hq.1, hq.2.1, (hq.2.2.sift fun y hy => Or.inr (N y hy)).mono (by decide) (by decide)⟩⟩
theorem main_1_1 : Claimed_1_1 := comes_1 fun _ _ _ _ _ _ h hF => ⟨h.1, hF⟩
theorem main_1_2 : Claimed_1_2 := comes_1 fun _ _ _ _ _ _ h hF => ⟨h.2.1, hF⟩
end Jvm.Pilot.@@N@@
namespace Jvm.Pilot.@@N@@
open Jvm Jvm.ClassFile Sem Op Lib Jvm.Free Jvm.Stand Jvm.Pilot.@@N@@.Jvm.D
/-! MADE BY PROGRAM (witnessworld.py) out of the Statement's table words and the real class files: 12 classes; the members and pool entries that the words name. The judged class is class 1, her method 2. -/
namespace start1
open Jvm.ClassFile
def u (s : String) : CpInfo := .utf8 (stringToUtf16 s)
/-- a pool by its gaps: so many unusable entries, then the entry; so many at the end -/
def gap : Nat → List CpInfo → List CpInfo
  | 0, r => r
  | n + 1, r => .unusable :: gap n r
def poolList (es : List (Nat × CpInfo)) (last : Nat) : List CpInfo := es.foldr (fun e r => gap e.1 (e.2 :: r)) (gap last [])
def pool (es : List (Nat × CpInfo)) (last : Nat) : Array CpInfo := ⟨poolList es last⟩
def fileOf (pool : Array CpInfo) (this : Nat) (attrs : Array Attribute := #[]) (ms : Array MethodInfo := #[]) (fl : Nat := 33) (sup : Nat := 0) (ifs : Array Nat := #[]) (fds : Array FieldInfo := #[]) : ClassFile where
  minorVersion := 0
  majorVersion := 65
  constantPool := pool
  accessFlags := fl
  thisClass := this
  superClass := sup
  interfaces := ifs
  fields := fds
  methods := ms
  attributes := attrs
def plain (name : String) (sup : Option ClassId) : Class where
  name := name
  kind := .ordinary
  loader := none
  accessFlags := 33
  super := sup
  interfaces := #[]
  cf := none
  fields := #[]
  methods := #[]
  instanceTypes := #[]
  staticTypes := #[]
  resolved := #[]
  callSites := []
  init := .initialized
  statics := none
  mirror := none

def pool0 : Array CpInfo := pool [(5, u "<init>"), (0, u "()V"), (1, .class_ 10), (1, u "java/lang/Object")] 113

def k0m0 : Method := { name := "<init>", desc := "()V", sig := { parameters := [], returnType := none }, accessFlags := 1, code := none }
/-- java/lang/Object -/
def k0 : Class := { plain "java/lang/Object" none with
  accessFlags := 33
  interfaces := #[]
  cf := some (fileOf pool0 8 #[] #[{ accessFlags := 1, nameIndex := 5, descriptorIndex := 6, attributes := #[] }] 33 0 #[] #[])
  fields := #[]
  methods := #[k0m0]
  instanceTypes := #[]
  staticTypes := #[]
  resolved := Array.replicate 124 none
  statics := none }

def pool1 : Array CpInfo := pool [(2, .class_ 4), (1, u "java/lang/Object"), (0, u "<init>"), (0, u "()V"), (0, .fieldref 8 9), (0, .class_ 10), (0, .nameAndType 11 12), (0, u "com/example/nkdb/nkdb/transaction/LockMode"), (0, u "SHARED"), (0, u "Lcom/example/nkdb/nkdb/transaction/LockMode;"), (0, .fieldref 8 14), (0, .nameAndType 15 12), (0, u "EXCLUSIVE"), (0, .methodref 17 18), (0, .class_ 19), (0, .nameAndType 20 21), (0, u "com/example/nkdb/nkdb/transaction/LockModeConflictsWithPinLaw"), (0, u "pick"), (0, u "(I)Lcom/example/nkdb/nkdb/transaction/LockMode;"), (0, .methodref 8 23), (0, .nameAndType 24 25), (0, u "conflictsWith"), (0, u "(Lcom/example/nkdb/nkdb/transaction/LockMode;)Z"), (3, u "law"), (0, u "(II)Z")] 2

def k1m0 : Method := { name := "<init>", desc := "()V", sig := { parameters := [], returnType := none }, accessFlags := 1, code := none }
def k1c1 : Code := { maxStack := 2, maxLocals := 1, code := method_2_code, exceptionTable := #[], attributes := #[] }
def k1m1 : Method := { name := "pick", desc := "(I)Lcom/example/nkdb/nkdb/transaction/LockMode;", sig := { parameters := [.int], returnType := some (.object "com/example/nkdb/nkdb/transaction/LockMode") }, accessFlags := 10, code := some k1c1 }
def k1c2 : Code := { maxStack := 2, maxLocals := 6, code := code, exceptionTable := #[], attributes := #[] }
def k1m2 : Method := { name := "law", desc := "(II)Z", sig := { parameters := [.int, .int], returnType := some .boolean }, accessFlags := 9, code := some k1c2 }
/-- com/example/nkdb/nkdb/transaction/LockModeConflictsWithPinLaw -/
def k1 : Class := { plain "com/example/nkdb/nkdb/transaction/LockModeConflictsWithPinLaw" (some 0) with
  accessFlags := 49
  interfaces := #[]
  cf := some (fileOf pool1 17 #[] #[{ accessFlags := 1, nameIndex := 5, descriptorIndex := 6, attributes := #[] }, { accessFlags := 10, nameIndex := 20, descriptorIndex := 21, attributes := #[] }, { accessFlags := 9, nameIndex := 29, descriptorIndex := 30, attributes := #[] }] 49 2 #[] #[])
  fields := #[]
  methods := #[k1m0, k1m1, k1m2]
  instanceTypes := #[]
  staticTypes := #[]
  resolved := Array.replicate 33 none
  statics := none }

def pool2 : Array CpInfo := pool [(1, .class_ 2), (0, u "java/lang/constant/Constable"), (0, .class_ 4), (0, u "java/lang/Object")] 6

/-- java/lang/constant/Constable -/
def k2 : Class := { plain "java/lang/constant/Constable" (some 0) with
  accessFlags := 1537
  interfaces := #[]
  cf := some (fileOf pool2 1 #[] #[] 1537 3 #[] #[])
  fields := #[]
  methods := #[]
  instanceTypes := #[]
  staticTypes := #[]
  resolved := Array.replicate 11 none
  statics := none }

def pool3 : Array CpInfo := pool [(1, .class_ 2), (0, u "java/lang/Comparable"), (0, .class_ 4), (0, u "java/lang/Object")] 7

/-- java/lang/Comparable -/
def k3 : Class := { plain "java/lang/Comparable" (some 0) with
  accessFlags := 1537
  interfaces := #[]
  cf := some (fileOf pool3 1 #[] #[] 1537 3 #[] #[])
  fields := #[]
  methods := #[]
  instanceTypes := #[]
  staticTypes := #[]
  resolved := Array.replicate 12 none
  statics := none }

def pool4 : Array CpInfo := pool [(1, .class_ 2), (0, u "java/io/Serializable"), (0, .class_ 4), (0, u "java/lang/Object")] 2

/-- java/io/Serializable -/
def k4 : Class := { plain "java/io/Serializable" (some 0) with
  accessFlags := 1537
  interfaces := #[]
  cf := some (fileOf pool4 1 #[] #[] 1537 3 #[] #[])
  fields := #[]
  methods := #[]
  instanceTypes := #[]
  staticTypes := #[]
  resolved := Array.replicate 7 none
  statics := none }

def pool5 : Array CpInfo := pool [(2, .class_ 4), (1, u "java/lang/Enum"), (0, u "name"), (0, u "Ljava/lang/String;"), (2, u "ordinal"), (0, u "I"), (1, .class_ 14), (1, u "java/lang/Object"), (4, u "hash"), (86, .class_ 108), (1, u "java/lang/Enum$EnumDesc"), (2, .class_ 112), (0, u "java/lang/constant/Constable"), (0, .class_ 114), (0, u "java/lang/Comparable"), (0, .class_ 116), (0, u "java/io/Serializable")] 87

/-- java/lang/Enum -/
def k5 : Class := { plain "java/lang/Enum" (some 0) with
  accessFlags := 1057
  interfaces := #[2, 3, 4]
  cf := some (fileOf pool5 2 #[.nestMembers #[106]] #[] 1057 12 #[111, 113, 115] #[{ accessFlags := 18, nameIndex := 5, descriptorIndex := 6, attributes := #[] }, { accessFlags := 18, nameIndex := 9, descriptorIndex := 10, attributes := #[] }, { accessFlags := 2, nameIndex := 19, descriptorIndex := 10, attributes := #[] }])
  fields := #[{ name := "name", type := (.object "java/lang/String"), accessFlags := 18, slot := 0, constantValue := 0 }, { name := "ordinal", type := .int, accessFlags := 18, slot := 1, constantValue := 0 }, { name := "hash", type := .int, accessFlags := 2, slot := 2, constantValue := 0 }]
  methods := #[]
  instanceTypes := #[(.object "java/lang/String"), .int, .int]
  staticTypes := #[]
  resolved := Array.replicate 204 none
  statics := none }

def pool6 : Array CpInfo := pool [(1, .class_ 2), (0, u "com/example/nkdb/nkdb/transaction/LockMode"), (2, u "SHARED"), (0, u "Lcom/example/nkdb/nkdb/transaction/LockMode;"), (0, .fieldref 1 8), (0, .nameAndType 9 6), (0, u "EXCLUSIVE"), (2, u "$VALUES"), (0, u "[Lcom/example/nkdb/nkdb/transaction/LockMode;"), (6, .class_ 22), (1, u "java/lang/Enum"), (20, u "conflictsWith"), (0, u "(Lcom/example/nkdb/nkdb/transaction/LockMode;)Z")] 6

def k6c0 : Code := { maxStack := 2, maxLocals := 2, code := prog_96_method_4_code, exceptionTable := #[], attributes := #[] }
def k6m0 : Method := { name := "conflictsWith", desc := "(Lcom/example/nkdb/nkdb/transaction/LockMode;)Z", sig := { parameters := [(.object "com/example/nkdb/nkdb/transaction/LockMode")], returnType := some .boolean }, accessFlags := 0, code := some k6c0 }
/-- com/example/nkdb/nkdb/transaction/LockMode -/
def k6 : Class := { plain "com/example/nkdb/nkdb/transaction/LockMode" (some 5) with
  accessFlags := 16433
  interfaces := #[]
  cf := some (fileOf pool6 1 #[] #[{ accessFlags := 0, nameIndex := 43, descriptorIndex := 44, attributes := #[] }] 16433 20 #[] #[{ accessFlags := 16409, nameIndex := 5, descriptorIndex := 6, attributes := #[] }, { accessFlags := 16409, nameIndex := 9, descriptorIndex := 6, attributes := #[] }, { accessFlags := 4122, nameIndex := 12, descriptorIndex := 13, attributes := #[] }])
  fields := #[{ name := "SHARED", type := (.object "com/example/nkdb/nkdb/transaction/LockMode"), accessFlags := 16409, slot := 0, constantValue := 0 }, { name := "EXCLUSIVE", type := (.object "com/example/nkdb/nkdb/transaction/LockMode"), accessFlags := 16409, slot := 1, constantValue := 0 }, { name := "$VALUES", type := (.array (.object "com/example/nkdb/nkdb/transaction/LockMode")), accessFlags := 4122, slot := 2, constantValue := 0 }]
  methods := #[k6m0]
  instanceTypes := #[(.object "java/lang/String"), .int, .int]
  staticTypes := #[(.object "com/example/nkdb/nkdb/transaction/LockMode"), (.object "com/example/nkdb/nkdb/transaction/LockMode"), (.array (.object "com/example/nkdb/nkdb/transaction/LockMode"))]
  resolved := Array.replicate 51 none
  statics := some 0 }

def pool7 : Array CpInfo := pool [(1, u "java/lang/Cloneable"), (0, .class_ 1), (0, u "java/lang/Object"), (0, .class_ 3)] 3

/-- java/lang/Cloneable -/
def k7 : Class := { plain "java/lang/Cloneable" (some 0) with
  accessFlags := 1537
  interfaces := #[]
  cf := some (fileOf pool7 2 #[] #[] 1537 4 #[] #[])
  fields := #[]
  methods := #[]
  instanceTypes := #[]
  staticTypes := #[]
  resolved := Array.replicate 8 none
  statics := none }

/-- the primitive byte -/
def k8 : Class := { plain "byte" none with kind := .primitive 'B', accessFlags := 0x411 }
/-- [B -/
def k9 : Class := { plain "[B" (some 0) with kind := .array 8 .byte, interfaces := #[7, 4], accessFlags := 1041 }

/-- the primitive int -/
def k10 : Class := { plain "int" none with kind := .primitive 'I', accessFlags := 0x411 }
/-- [I -/
def k11 : Class := { plain "[I" (some 0) with kind := .array 10 .int, interfaces := #[7, 4], accessFlags := 1041 }

def heap : Heap := #[{ cls := 6, slots := #[.ref 1, .ref 2, .null], vm := .statics 6 },
  { cls := 6, slots := #[.null, .int 0, .int 0], vm := .none },
  { cls := 6, slots := #[.null, .int 1, .int 0], vm := .none }]
def classes : Array Class := #[k0, k1, k2, k3, k4, k5, k6, k7, k8, k9, k10, k11]
def interned : List (Array UInt16 × Addr) := []
def slotsUsed : Nat := 9
def theMethod : MethodId := ⟨1, 2⟩
def args0 : Array Value := #[.int 5, .int 6]
def aboutOver (below : List Frame) : State where
  vm := { classes := classes, interned := interned.toArray }
  heap := heap
  slotsUsed := slotsUsed
  threads := #[{ frames := .invoking theMethod args0 :: below }]
def below0 : List Frame := [.native { method := ⟨0, 0⟩, args := #[] }]
def about1 : State := aboutOver below0
def p0 : Program := .bare "" "" ""
def e0 : Env := launch0.env 0 0 0
theorem w_frames : about1.frames = Frame.invoking theMethod args0 :: below0 := rfl
set_option maxRecDepth 65536 in
theorem w_args : argsFit about1.vm theMethod args0 = true := by decide +kernel
set_option maxRecDepth 65536 in
theorem w_heap : heapFits about1 = true := by decide +kernel
set_option maxRecDepth 65536 in
theorem w_runnable : about1.curStatus? = some .runnable := by decide +kernel
set_option maxRecDepth 65536 in
theorem w_alone : about1.alone = true := by decide +kernel
set_option maxRecDepth 65536 in
theorem w_named : about1.methodNamed? x = some theMethod := by decide +kernel
set_option maxRecDepth 65536 in
theorem w_hears : about1.hears theMethod below0 = true := by decide +kernel
set_option maxRecDepth 65536 in
theorem w_ripe : about1.ripe theMethod args0 below0 = true := by decide +kernel
theorem w_running : about1.status = .running := rfl
set_option maxRecDepth 65536 in
theorem w_room : about1.hasRoom e0.platform room_1 = true :=
  launch0.hasRoom_least _ room_1 (by decide +kernel) (by decide +kernel) (by decide +kernel) (by decide +kernel) (by decide +kernel) (by decide +kernel)
theorem allAtoms_all (ts : List Jvm.Cond) (a : Array Jvm.Value) (st : Jvm.State) : (allAtoms ts).before a st = ts.all (fun c => c.before a st) := by
  induction ts with
  | nil => rfl
  | cons c t ih =>
    show (Jvm.Cond.and c (allAtoms t)).before a st = _
    rw [Jvm.Cond.before_and, ih, List.all_cons]
def words1 : List Jvm.Cond := Jvm.Cond.code x code maxLocals ret :: tables_1
/-- a 'code' word, met by the world's own term for the bytes: nothing is compared byte by byte -/
theorem code_word {y : MethodName} {bytes : ByteArray} {mx : Nat} {rt : Option FieldType} {a : Array Value} {s : State} {m : MethodId} {meth : Method} {c : Code} (h1 : s.methodNamed? y = some m) (h2 : s.vm.method? m = some meth) (h3 : meth.code = some c) (h4 : c.code = bytes)
    (h5 : (c.maxLocals == mx && c.exceptionTable.isEmpty && decide (c.maxStack ≤ mostOperands) && decide (meth.sig.returnType = rt) && !meth.locks && decide (parseMethodDescriptor y.desc = some meth.sig)) = true) : (Jvm.Cond.code y bytes mx rt).before a s = true := by
  simp only [Bool.and_eq_true, beq_iff_eq, Bool.not_eq_true', decide_eq_true_eq] at h5
  obtain ⟨⟨⟨⟨⟨g1, g2⟩, g3⟩, g4⟩, g5⟩, g6⟩ := h5
  simp [Cond.before, Cond.holds, Cond.value, h1, h2, h3, h4, g1, g2, g3, g4, g5, g6]
def isCode : Jvm.Cond → Bool
  | .code _ _ _ _ => true
  | _ => false
theorem all_split {L : List Jvm.Cond} {P : Jvm.Cond → Bool} (h1 : L.all (fun c => isCode c || P c) = true) (h2 : ∀ c ∈ L.filter isCode, P c = true) : L.all P = true := by
  refine List.all_eq_true.mpr fun c hc => ?_
  have h := List.all_eq_true.mp h1 c hc
  rcases Bool.eq_false_or_eq_true (isCode c) with hi | hi
  · exact h2 c (List.mem_filter.mpr ⟨hc, hi⟩)
  · simpa [hi] using h
set_option maxRecDepth 65536 in
theorem w_c0 : (Jvm.Cond.code x code maxLocals ret).before args0 about1 = true := code_word (m := ⟨1, 2⟩) (meth := k1m2) (c := k1c2) (by decide +kernel) rfl rfl rfl (by decide +kernel)
set_option maxRecDepth 65536 in
theorem w_c1 : (Jvm.Cond.code ({ cls := "com/example/nkdb/nkdb/transaction/LockModeConflictsWithPinLaw", name := "pick", desc := "(I)Lcom/example/nkdb/nkdb/transaction/LockMode;" } : Jvm.MethodName) method_2_code (1 : Nat) (Option.some (Jvm.ClassFile.FieldType.object "com/example/nkdb/nkdb/transaction/LockMode"))).before args0 about1 = true := code_word (m := ⟨1, 1⟩) (meth := k1m1) (c := k1c1) (by decide +kernel) rfl rfl rfl (by decide +kernel)
set_option maxRecDepth 65536 in
theorem w_c2 : (Jvm.Cond.code ({ cls := "com/example/nkdb/nkdb/transaction/LockMode", name := "conflictsWith", desc := "(Lcom/example/nkdb/nkdb/transaction/LockMode;)Z" } : Jvm.MethodName) prog_96_method_4_code (2 : Nat) (Option.some Jvm.ClassFile.FieldType.boolean)).before args0 about1 = true := code_word (m := ⟨6, 0⟩) (meth := k6m0) (c := k6c0) (by decide +kernel) rfl rfl rfl (by decide +kernel)
def codes1 : List Jvm.Cond := [Jvm.Cond.code x code maxLocals ret, Jvm.Cond.code ({ cls := "com/example/nkdb/nkdb/transaction/LockModeConflictsWithPinLaw", name := "pick", desc := "(I)Lcom/example/nkdb/nkdb/transaction/LockMode;" } : Jvm.MethodName) method_2_code (1 : Nat) (Option.some (Jvm.ClassFile.FieldType.object "com/example/nkdb/nkdb/transaction/LockMode")), Jvm.Cond.code ({ cls := "com/example/nkdb/nkdb/transaction/LockMode", name := "conflictsWith", desc := "(Lcom/example/nkdb/nkdb/transaction/LockMode;)Z" } : Jvm.MethodName) prog_96_method_4_code (2 : Nat) (Option.some Jvm.ClassFile.FieldType.boolean)]
set_option maxRecDepth 65536 in
theorem codes_eq : words1.filter isCode = codes1 := rfl
theorem w_codes : ∀ c ∈ words1.filter isCode, c.before args0 about1 = true := by
  rw [codes_eq]
  intro c hc
  simp only [codes1, List.mem_cons, List.not_mem_nil, or_false] at hc
  rcases hc with rfl | rfl | rfl
  · exact w_c0
  · exact w_c1
  · exact w_c2
set_option maxRecDepth 65536 in
theorem w_t1 : words1.all (fun c => isCode c || c.before args0 about1) = true := by decide +kernel
theorem w_tables : (allAtoms (Jvm.Cond.code x code maxLocals ret :: tables_1)).before args0 about1 = true := by
  rw [allAtoms_all]
  show words1.all (fun c => c.before args0 about1) = true
  refine all_split ?_ w_codes
  rw [w_t1]
set_option maxRecDepth 65536 in
theorem w_case : (Jvm.Cond.and given_1 narrow_1).before args0 about1 = true := by decide +kernel
theorem w_applies : (headSpec (Jvm.Cond.code x code maxLocals ret :: tables_1) room_1).applies x e0.platform about1 = true :=
  (Spec.applies_iff w_frames).mpr ⟨w_running, w_runnable, w_alone, w_named, w_hears, w_ripe, w_room, w_tables⟩
theorem atStart : AtStart classFile x code maxLocals ret World_1 tables_1 room_1 Calls_1 rest_1 Pre_1 launch0 p0 e0 about1 theMethod args0 below0 :=
  ⟨lists_1, trivial, launch0.admits_env _ _ _, launch0.least_env, fairChoices_fair.cas, fairChoices_fair.clock, w_frames, w_args, w_heap, w_applies, trivial, trivial, w_case⟩
end start1
theorem witness_1 : WitnessClaimed_1 := ⟨start1.p0, start1.e0, start1.about1, start1.theMethod, start1.args0, start1.below0, start1.atStart⟩
end Jvm.Pilot.@@N@@
