import JvmDerived
import JvmDerived.Pilot.@@N@@Statement
import JvmDerived.Pilot.@@N@@Code
set_option linter.unusedVariables false
set_option linter.unusedSimpArgs false
namespace Jvm.Pilot.@@N@@
open Jvm Jvm.ClassFile Sem Op Lib Jvm.Free Jvm.Stand Jvm.LawKit Jvm.RoadKit Bundle Jvm.Pilot.@@N@@.Jvm.D
theorem wd {d : Jvm.Cond} (i : Nat) (h : tables_1[i]? = some d) : d ∈ tables_1 := List.mem_of_getElem? h
def Go (tb : Tables) (e : Env) (below : List Frame) (S0 S : State) : Prop := ∀ t, Steps tb e below S t → Steps tb e below S0 t
theorem own_old_le {Z : State} {n0 : Nat} {h : Heap} (O : Old Z n0 h) : n0 ≤ h.size := O.1 ▸ O.2.1
theorem own_lcmp_self (x : Int64) : lcmpW x x = 0 := by rw [lcW, lc_eq]
theorem own_ne {Z : State} {h : Heap} {a b : Addr} {C n d : String} {i j : Int32} (F : Fld Z h a C n d (.int i)) (G : Fld Z h b C n d (.int j)) (q : i ≠ j) : a ≠ b := F.ne G fun e => q (Value.int.inj e)
theorem own_narrow_ref {v : Value} {n : String} (h : v.isRef = true) : narrow (.object n) v = v := by rcases ref_cases h with rfl | ⟨_, rfl⟩ <;> rfl
theorem own_fits_ref {v : Value} {n : String} (h : v.isRef = true) : fits (.object n) v = true := by rcases ref_cases h with rfl | ⟨_, rfl⟩ <;> rfl
theorem own_narrow_bool {z : Int32} (h : z = 0 ∨ z = 1) : narrow .boolean (.int z) = .int z := by rcases h with rfl | rfl <;> rfl
theorem own_fits_bool {z : Int32} (h : z = 0 ∨ z = 1) : fits .boolean (.int z) = true := by rcases h with rfl | rfl <;> rfl
def QV (w : Option Value) (h0 : Heap) (n0 : Nat) (v : Option Value) (h : Heap) (L : List Loc) : Prop := v = w ∧ Fr n0 L ∧ h = h0
def Q0 (n0 : Nat) (v : Option Value) (h : Heap) (L : List Loc) : Prop := v = some (.int (1 : Int32)) ∧ Fr n0 L
abbrev y_0 : MethodName := ⟨"com/example/theseus/theseus/engine/EventType", "endsTheWalk", "()Z"⟩
theorem d1_0 : decode prog_29_method_7_code 0 = .ok (.aload_n 0, 1) := by decide +kernel
theorem d1_1 : decode prog_29_method_7_code 1 = .ok (.getstatic 10, 3) := by decide +kernel
theorem d1_4 : decode prog_29_method_7_code 4 = .ok (.if_acmp .eq 24, 3) := by decide +kernel
theorem d1_7 : decode prog_29_method_7_code 7 = .ok (.aload_n 0, 1) := by decide +kernel
theorem d1_8 : decode prog_29_method_7_code 8 = .ok (.getstatic 13, 3) := by decide +kernel
theorem d1_11 : decode prog_29_method_7_code 11 = .ok (.if_acmp .eq 17, 3) := by decide +kernel
theorem d1_14 : decode prog_29_method_7_code 14 = .ok (.aload_n 0, 1) := by decide +kernel
theorem d1_15 : decode prog_29_method_7_code 15 = .ok (.getstatic 16, 3) := by decide +kernel
theorem d1_18 : decode prog_29_method_7_code 18 = .ok (.if_acmp .eq 10, 3) := by decide +kernel
theorem d1_21 : decode prog_29_method_7_code 21 = .ok (.aload_n 0, 1) := by decide +kernel
theorem d1_22 : decode prog_29_method_7_code 22 = .ok (.getstatic 19, 3) := by decide +kernel
theorem d1_25 : decode prog_29_method_7_code 25 = .ok (.if_acmp .ne 7, 3) := by decide +kernel
theorem d1_28 : decode prog_29_method_7_code 28 = .ok (.iconst 1, 1) := by decide +kernel
theorem d1_29 : decode prog_29_method_7_code 29 = .ok (.goto 4, 3) := by decide +kernel
theorem d1_32 : decode prog_29_method_7_code 32 = .ok (.iconst 0, 1) := by decide +kernel
theorem d1_33 : decode prog_29_method_7_code 33 = .ok (.ireturn, 1) := by decide +kernel
theorem pn_0 : plainName "com/example/theseus/theseus/engine/EventType" = true := by first | (simp [plainName, overriddenIn]; done) | decide +kernel
theorem pn_1 : plainName "com/example/theseus/theseus/engine/EventTypeEndsTheWalkPinLaw" = true := by first | (simp [plainName, overriddenIn]; done) | decide +kernel
theorem pd_0 : parseMethodDescriptor "()Z" = some ⟨[], some .boolean⟩ := by decide +kernel
theorem own_cases_18 {y : Int32} (h0 : 0 ≤ y.toInt) (h1 : y.toInt < 18) : y = 0 ∨ y = 1 ∨ y = 2 ∨ y = 3 ∨ y = 4 ∨ y = 5 ∨ y = 6 ∨ y = 7 ∨ y = 8 ∨ y = 9 ∨ y = 10 ∨ y = 11 ∨ y = 12 ∨ y = 13 ∨ y = 14 ∨ y = 15 ∨ y = 16 ∨ y = 17 := by
  have h : y.toInt = 0 ∨ y.toInt = 1 ∨ y.toInt = 2 ∨ y.toInt = 3 ∨ y.toInt = 4 ∨ y.toInt = 5 ∨ y.toInt = 6 ∨ y.toInt = 7 ∨ y.toInt = 8 ∨ y.toInt = 9 ∨ y.toInt = 10 ∨ y.toInt = 11 ∨ y.toInt = 12 ∨ y.toInt = 13 ∨ y.toInt = 14 ∨ y.toInt = 15 ∨ y.toInt = 16 ∨ y.toInt = 17 := by omega
  rcases h with h | h | h | h | h | h | h | h | h | h | h | h | h | h | h | h | h | h
  · exact (Or.inl (Int32.toInt_inj.mp (h.trans (show (0 : Int) = (0 : Int32).toInt from by decide))))
  · exact (Or.inr (Or.inl (Int32.toInt_inj.mp (h.trans (show (1 : Int) = (1 : Int32).toInt from by decide)))))
  · exact (Or.inr (Or.inr (Or.inl (Int32.toInt_inj.mp (h.trans (show (2 : Int) = (2 : Int32).toInt from by decide))))))
  · exact (Or.inr (Or.inr (Or.inr (Or.inl (Int32.toInt_inj.mp (h.trans (show (3 : Int) = (3 : Int32).toInt from by decide)))))))
  · exact (Or.inr (Or.inr (Or.inr (Or.inr (Or.inl (Int32.toInt_inj.mp (h.trans (show (4 : Int) = (4 : Int32).toInt from by decide))))))))
  · exact (Or.inr (Or.inr (Or.inr (Or.inr (Or.inr (Or.inl (Int32.toInt_inj.mp (h.trans (show (5 : Int) = (5 : Int32).toInt from by decide)))))))))
  · exact (Or.inr (Or.inr (Or.inr (Or.inr (Or.inr (Or.inr (Or.inl (Int32.toInt_inj.mp (h.trans (show (6 : Int) = (6 : Int32).toInt from by decide))))))))))
  · exact (Or.inr (Or.inr (Or.inr (Or.inr (Or.inr (Or.inr (Or.inr (Or.inl (Int32.toInt_inj.mp (h.trans (show (7 : Int) = (7 : Int32).toInt from by decide)))))))))))
  · exact (Or.inr (Or.inr (Or.inr (Or.inr (Or.inr (Or.inr (Or.inr (Or.inr (Or.inl (Int32.toInt_inj.mp (h.trans (show (8 : Int) = (8 : Int32).toInt from by decide))))))))))))
  · exact (Or.inr (Or.inr (Or.inr (Or.inr (Or.inr (Or.inr (Or.inr (Or.inr (Or.inr (Or.inl (Int32.toInt_inj.mp (h.trans (show (9 : Int) = (9 : Int32).toInt from by decide)))))))))))))
  · exact (Or.inr (Or.inr (Or.inr (Or.inr (Or.inr (Or.inr (Or.inr (Or.inr (Or.inr (Or.inr (Or.inl (Int32.toInt_inj.mp (h.trans (show (10 : Int) = (10 : Int32).toInt from by decide))))))))))))))
  · exact (Or.inr (Or.inr (Or.inr (Or.inr (Or.inr (Or.inr (Or.inr (Or.inr (Or.inr (Or.inr (Or.inr (Or.inl (Int32.toInt_inj.mp (h.trans (show (11 : Int) = (11 : Int32).toInt from by decide)))))))))))))))
  · exact (Or.inr (Or.inr (Or.inr (Or.inr (Or.inr (Or.inr (Or.inr (Or.inr (Or.inr (Or.inr (Or.inr (Or.inr (Or.inl (Int32.toInt_inj.mp (h.trans (show (12 : Int) = (12 : Int32).toInt from by decide))))))))))))))))
  · exact (Or.inr (Or.inr (Or.inr (Or.inr (Or.inr (Or.inr (Or.inr (Or.inr (Or.inr (Or.inr (Or.inr (Or.inr (Or.inr (Or.inl (Int32.toInt_inj.mp (h.trans (show (13 : Int) = (13 : Int32).toInt from by decide)))))))))))))))))
  · exact (Or.inr (Or.inr (Or.inr (Or.inr (Or.inr (Or.inr (Or.inr (Or.inr (Or.inr (Or.inr (Or.inr (Or.inr (Or.inr (Or.inr (Or.inl (Int32.toInt_inj.mp (h.trans (show (14 : Int) = (14 : Int32).toInt from by decide))))))))))))))))))
  · exact (Or.inr (Or.inr (Or.inr (Or.inr (Or.inr (Or.inr (Or.inr (Or.inr (Or.inr (Or.inr (Or.inr (Or.inr (Or.inr (Or.inr (Or.inr (Or.inl (Int32.toInt_inj.mp (h.trans (show (15 : Int) = (15 : Int32).toInt from by decide)))))))))))))))))))
  · exact (Or.inr (Or.inr (Or.inr (Or.inr (Or.inr (Or.inr (Or.inr (Or.inr (Or.inr (Or.inr (Or.inr (Or.inr (Or.inr (Or.inr (Or.inr (Or.inr (Or.inl (Int32.toInt_inj.mp (h.trans (show (16 : Int) = (16 : Int32).toInt from by decide))))))))))))))))))))
  · exact (Or.inr (Or.inr (Or.inr (Or.inr (Or.inr (Or.inr (Or.inr (Or.inr (Or.inr (Or.inr (Or.inr (Or.inr (Or.inr (Or.inr (Or.inr (Or.inr (Or.inr (Int32.toInt_inj.mp (h.trans (show (17 : Int) = (17 : Int32).toInt from by decide))))))))))))))))))))
theorem own_rem_18 (x : Int32) : (x &&& 2147483647) % 18 = 0 ∨ (x &&& 2147483647) % 18 = 1 ∨ (x &&& 2147483647) % 18 = 2 ∨ (x &&& 2147483647) % 18 = 3 ∨ (x &&& 2147483647) % 18 = 4 ∨ (x &&& 2147483647) % 18 = 5 ∨ (x &&& 2147483647) % 18 = 6 ∨ (x &&& 2147483647) % 18 = 7 ∨ (x &&& 2147483647) % 18 = 8 ∨ (x &&& 2147483647) % 18 = 9 ∨ (x &&& 2147483647) % 18 = 10 ∨ (x &&& 2147483647) % 18 = 11 ∨ (x &&& 2147483647) % 18 = 12 ∨ (x &&& 2147483647) % 18 = 13 ∨ (x &&& 2147483647) % 18 = 14 ∨ (x &&& 2147483647) % 18 = 15 ∨ (x &&& 2147483647) % 18 = 16 ∨ (x &&& 2147483647) % 18 = 17 := by
  have h := c_and x 2147483647 (by decide)
  have e : (18 : Int32).toInt = 18 := by decide
  have q := (c_iremV (x &&& 2147483647) 18).1 h.1 (by omega)
  exact own_cases_18 q.1 (by omega)
def Own (Z : State) (a_PIPELINE_STARTED a_PIPELINE_RESUMED a_PIPELINE_COMPLETED a_PIPELINE_FAILED a_PIPELINE_STOPPED a_PIPELINE_CANCELLED a_STAGE_STARTED a_STAGE_COMPLETED a_STAGE_FAILED a_STAGE_RETRYING a_PARALLEL_STARTED a_PARALLEL_BRANCH_STARTED a_PARALLEL_BRANCH_COMPLETED a_PARALLEL_COMPLETED a_INTERVIEW_STARTED a_INTERVIEW_COMPLETED a_INTERVIEW_TIMEOUT a_CHECKPOINT_SAVED : Addr) : Prop := Sta Z Z.heap "com/example/theseus/theseus/engine/EventType" "PIPELINE_STARTED" "Lcom/example/theseus/theseus/engine/EventType;" (.ref a_PIPELINE_STARTED) ∧ Exa Z Z.heap a_PIPELINE_STARTED "com/example/theseus/theseus/engine/EventType" ∧ Sta Z Z.heap "com/example/theseus/theseus/engine/EventType" "PIPELINE_RESUMED" "Lcom/example/theseus/theseus/engine/EventType;" (.ref a_PIPELINE_RESUMED) ∧ Exa Z Z.heap a_PIPELINE_RESUMED "com/example/theseus/theseus/engine/EventType" ∧ Sta Z Z.heap "com/example/theseus/theseus/engine/EventType" "PIPELINE_COMPLETED" "Lcom/example/theseus/theseus/engine/EventType;" (.ref a_PIPELINE_COMPLETED) ∧ Exa Z Z.heap a_PIPELINE_COMPLETED "com/example/theseus/theseus/engine/EventType" ∧ Sta Z Z.heap "com/example/theseus/theseus/engine/EventType" "PIPELINE_FAILED" "Lcom/example/theseus/theseus/engine/EventType;" (.ref a_PIPELINE_FAILED) ∧ Exa Z Z.heap a_PIPELINE_FAILED "com/example/theseus/theseus/engine/EventType" ∧ Sta Z Z.heap "com/example/theseus/theseus/engine/EventType" "PIPELINE_STOPPED" "Lcom/example/theseus/theseus/engine/EventType;" (.ref a_PIPELINE_STOPPED) ∧ Exa Z Z.heap a_PIPELINE_STOPPED "com/example/theseus/theseus/engine/EventType" ∧ Sta Z Z.heap "com/example/theseus/theseus/engine/EventType" "PIPELINE_CANCELLED" "Lcom/example/theseus/theseus/engine/EventType;" (.ref a_PIPELINE_CANCELLED) ∧ Exa Z Z.heap a_PIPELINE_CANCELLED "com/example/theseus/theseus/engine/EventType" ∧ Sta Z Z.heap "com/example/theseus/theseus/engine/EventType" "STAGE_STARTED" "Lcom/example/theseus/theseus/engine/EventType;" (.ref a_STAGE_STARTED) ∧ Exa Z Z.heap a_STAGE_STARTED "com/example/theseus/theseus/engine/EventType" ∧ Sta Z Z.heap "com/example/theseus/theseus/engine/EventType" "STAGE_COMPLETED" "Lcom/example/theseus/theseus/engine/EventType;" (.ref a_STAGE_COMPLETED) ∧ Exa Z Z.heap a_STAGE_COMPLETED "com/example/theseus/theseus/engine/EventType" ∧ Sta Z Z.heap "com/example/theseus/theseus/engine/EventType" "STAGE_FAILED" "Lcom/example/theseus/theseus/engine/EventType;" (.ref a_STAGE_FAILED) ∧ Exa Z Z.heap a_STAGE_FAILED "com/example/theseus/theseus/engine/EventType" ∧ Sta Z Z.heap "com/example/theseus/theseus/engine/EventType" "STAGE_RETRYING" "Lcom/example/theseus/theseus/engine/EventType;" (.ref a_STAGE_RETRYING) ∧ Exa Z Z.heap a_STAGE_RETRYING "com/example/theseus/theseus/engine/EventType" ∧ Sta Z Z.heap "com/example/theseus/theseus/engine/EventType" "PARALLEL_STARTED" "Lcom/example/theseus/theseus/engine/EventType;" (.ref a_PARALLEL_STARTED) ∧ Exa Z Z.heap a_PARALLEL_STARTED "com/example/theseus/theseus/engine/EventType" ∧ Sta Z Z.heap "com/example/theseus/theseus/engine/EventType" "PARALLEL_BRANCH_STARTED" "Lcom/example/theseus/theseus/engine/EventType;" (.ref a_PARALLEL_BRANCH_STARTED) ∧ Exa Z Z.heap a_PARALLEL_BRANCH_STARTED "com/example/theseus/theseus/engine/EventType" ∧ Sta Z Z.heap "com/example/theseus/theseus/engine/EventType" "PARALLEL_BRANCH_COMPLETED" "Lcom/example/theseus/theseus/engine/EventType;" (.ref a_PARALLEL_BRANCH_COMPLETED) ∧ Exa Z Z.heap a_PARALLEL_BRANCH_COMPLETED "com/example/theseus/theseus/engine/EventType" ∧ Sta Z Z.heap "com/example/theseus/theseus/engine/EventType" "PARALLEL_COMPLETED" "Lcom/example/theseus/theseus/engine/EventType;" (.ref a_PARALLEL_COMPLETED) ∧ Exa Z Z.heap a_PARALLEL_COMPLETED "com/example/theseus/theseus/engine/EventType" ∧ Sta Z Z.heap "com/example/theseus/theseus/engine/EventType" "INTERVIEW_STARTED" "Lcom/example/theseus/theseus/engine/EventType;" (.ref a_INTERVIEW_STARTED) ∧ Exa Z Z.heap a_INTERVIEW_STARTED "com/example/theseus/theseus/engine/EventType" ∧ Sta Z Z.heap "com/example/theseus/theseus/engine/EventType" "INTERVIEW_COMPLETED" "Lcom/example/theseus/theseus/engine/EventType;" (.ref a_INTERVIEW_COMPLETED) ∧ Exa Z Z.heap a_INTERVIEW_COMPLETED "com/example/theseus/theseus/engine/EventType" ∧ Sta Z Z.heap "com/example/theseus/theseus/engine/EventType" "INTERVIEW_TIMEOUT" "Lcom/example/theseus/theseus/engine/EventType;" (.ref a_INTERVIEW_TIMEOUT) ∧ Exa Z Z.heap a_INTERVIEW_TIMEOUT "com/example/theseus/theseus/engine/EventType" ∧ Sta Z Z.heap "com/example/theseus/theseus/engine/EventType" "CHECKPOINT_SAVED" "Lcom/example/theseus/theseus/engine/EventType;" (.ref a_CHECKPOINT_SAVED) ∧ Exa Z Z.heap a_CHECKPOINT_SAVED "com/example/theseus/theseus/engine/EventType" ∧ Fld Z Z.heap a_PIPELINE_STARTED "java/lang/Enum" "ordinal" "I" (.int 0) ∧ Fld Z Z.heap a_PIPELINE_COMPLETED "java/lang/Enum" "ordinal" "I" (.int 2) ∧ Fld Z Z.heap a_PIPELINE_FAILED "java/lang/Enum" "ordinal" "I" (.int 3) ∧ Fld Z Z.heap a_PIPELINE_STOPPED "java/lang/Enum" "ordinal" "I" (.int 4) ∧ Fld Z Z.heap a_PIPELINE_CANCELLED "java/lang/Enum" "ordinal" "I" (.int 5) ∧ Fld Z Z.heap a_PIPELINE_RESUMED "java/lang/Enum" "ordinal" "I" (.int 1) ∧ Fld Z Z.heap a_STAGE_COMPLETED "java/lang/Enum" "ordinal" "I" (.int 7) ∧ Fld Z Z.heap a_PARALLEL_BRANCH_STARTED "java/lang/Enum" "ordinal" "I" (.int 11) ∧ Fld Z Z.heap a_STAGE_FAILED "java/lang/Enum" "ordinal" "I" (.int 8) ∧ Fld Z Z.heap a_PARALLEL_BRANCH_COMPLETED "java/lang/Enum" "ordinal" "I" (.int 12) ∧ Fld Z Z.heap a_INTERVIEW_TIMEOUT "java/lang/Enum" "ordinal" "I" (.int 16) ∧ Fld Z Z.heap a_INTERVIEW_COMPLETED "java/lang/Enum" "ordinal" "I" (.int 15) ∧ Fld Z Z.heap a_PARALLEL_STARTED "java/lang/Enum" "ordinal" "I" (.int 10) ∧ Fld Z Z.heap a_PARALLEL_COMPLETED "java/lang/Enum" "ordinal" "I" (.int 13) ∧ Fld Z Z.heap a_STAGE_STARTED "java/lang/Enum" "ordinal" "I" (.int 6) ∧ Fld Z Z.heap a_CHECKPOINT_SAVED "java/lang/Enum" "ordinal" "I" (.int 17) ∧ Fld Z Z.heap a_INTERVIEW_STARTED "java/lang/Enum" "ordinal" "I" (.int 14) ∧ Fld Z Z.heap a_STAGE_RETRYING "java/lang/Enum" "ordinal" "I" (.int 9)
theorem own_fld {args : Array Value} {s : State} {t : Term} {C n d : String} {a : Addr} {k : Int32} (ev : t.eval args s none [] s = some (.ref a)) (h : (Jvm.Cond.eq (.field t C n d) (.int k)).value args s none s [] = some true) : Fld s s.heap a C n d (.int k) := by
  refine Fld.start ?_
  obtain ⟨u, w, h1, h2, h3, h4⟩ := cmp_v (Or.inl h)
  have e2 : w = .int k := (Option.some.inj h2).symm
  subst e2
  obtain ⟨z, rfl⟩ := h4
  rw [fld_at ev] at h1
  rw [h1]
  have q : (Jvm.Cond.eq (.field t C n d) (.int k)).value args s none s [] = some (decide (z = k)) := by simp [Cond.value, Term.eval, ev, h1]
  have := gotT q h
  rw [this]
set_option maxRecDepth 65536 in
set_option maxHeartbeats 40000000 in
theorem ew_0 (l : Launch) (Z : State) (a0 : Array Value) (hw : ∀ d ∈ tables_1, d.before a0 Z = true) (ws : List Jvm.Cond) (a_PIPELINE_STARTED a_PIPELINE_RESUMED a_PIPELINE_COMPLETED a_PIPELINE_FAILED a_PIPELINE_STOPPED a_PIPELINE_CANCELLED a_STAGE_STARTED a_STAGE_COMPLETED a_STAGE_FAILED a_STAGE_RETRYING a_PARALLEL_STARTED a_PARALLEL_BRANCH_STARTED a_PARALLEL_BRANCH_COMPLETED a_PARALLEL_COMPLETED a_INTERVIEW_STARTED a_INTERVIEW_COMPLETED a_INTERVIEW_TIMEOUT a_CHECKPOINT_SAVED : Addr) (G : Own Z a_PIPELINE_STARTED a_PIPELINE_RESUMED a_PIPELINE_COMPLETED a_PIPELINE_FAILED a_PIPELINE_STOPPED a_PIPELINE_CANCELLED a_STAGE_STARTED a_STAGE_COMPLETED a_STAGE_FAILED a_STAGE_RETRYING a_PARALLEL_STARTED a_PARALLEL_BRANCH_STARTED a_PARALLEL_BRANCH_COMPLETED a_PARALLEL_COMPLETED a_INTERVIEW_STARTED a_INTERVIEW_COMPLETED a_INTERVIEW_TIMEOUT a_CHECKPOINT_SAVED)  (h0 : Heap) (n0 : Nat) (O0 : Old Z n0 h0)  :
    MetFree l y_0 (head1 (Jvm.Cond.code y_0 prog_29_method_7_code 1 (some .boolean) :: ws) ({ frames := 0, cells := 0, slots := 0, locals := 0 } : Room)) (fun a U => a = #[(.ref a_PIPELINE_STARTED)] ∧ Z.Warmed39 U.vm ∧ U.heap = h0) (fun _ _ _ _ _ => True) (fun _ U o U' => ∃ v L, o = .returned v ∧ QV (some (.int 0)) h0 n0 v U'.heap L ∧ FrameEnd U o U' L ({ frames := 0, cells := 0, slots := 0, locals := 0 } : Room).cells ({ frames := 0, cells := 0, slots := 0, locals := 0 } : Room).slots) := by
  refine MetFree.of_bodySF (plainFor_of_name pn_0) hisR ?_
  intro p e s m args below meth c s₁ Bd hml0 hP hK
  obtain ⟨rfl, hZ, hh⟩ := hP
  have hx := Bd.exec
  have hby := Bd.bytes
  have hml : c.maxLocals = 1 := hml0
  have hown : s.vm.findClass "com/example/theseus/theseus/engine/EventType" = some m.cls := findClass_of_methodNamed Bd.named
  have hnm := (name_of_methodNamed Bd.named Bd.method).1
  have X0 : Stand p l e ({ frames := 0, cells := 0, slots := 0, locals := 0 } : Room) s m #[(.ref a_PIPELINE_STARTED)] below meth c s₁ [] 0 0 := Stand.of_body Bd
  have e0 : s₁.heap = h0 := by rw [← hh, Bd.state]; rfl
  have N0 := Fr.nil n0
  have K0 := Keep.refl h0 []
  have k0 : Go p.tables e below (s₁.setTop (entryFrame m #[(.ref a_PIPELINE_STARTED)] 1)) (s₁.setTop (mkF m 0 #[rv a_PIPELINE_STARTED] [])) := fun t k => castTop (by first | rfl | (simp [entryFrame, mkF, argsToLocals, Value.category]; done)) k
  have ⟨S_PIPELINE_STARTED, E_PIPELINE_STARTED, S_PIPELINE_RESUMED, E_PIPELINE_RESUMED, S_PIPELINE_COMPLETED, E_PIPELINE_COMPLETED, S_PIPELINE_FAILED, E_PIPELINE_FAILED, S_PIPELINE_STOPPED, E_PIPELINE_STOPPED, S_PIPELINE_CANCELLED, E_PIPELINE_CANCELLED, S_STAGE_STARTED, E_STAGE_STARTED, S_STAGE_COMPLETED, E_STAGE_COMPLETED, S_STAGE_FAILED, E_STAGE_FAILED, S_STAGE_RETRYING, E_STAGE_RETRYING, S_PARALLEL_STARTED, E_PARALLEL_STARTED, S_PARALLEL_BRANCH_STARTED, E_PARALLEL_BRANCH_STARTED, S_PARALLEL_BRANCH_COMPLETED, E_PARALLEL_BRANCH_COMPLETED, S_PARALLEL_COMPLETED, E_PARALLEL_COMPLETED, S_INTERVIEW_STARTED, E_INTERVIEW_STARTED, S_INTERVIEW_COMPLETED, E_INTERVIEW_COMPLETED, S_INTERVIEW_TIMEOUT, E_INTERVIEW_TIMEOUT, S_CHECKPOINT_SAVED, E_CHECKPOINT_SAVED, R_PIPELINE_STARTED_ordinal, R_PIPELINE_COMPLETED_ordinal, R_PIPELINE_FAILED_ordinal, R_PIPELINE_STOPPED_ordinal, R_PIPELINE_CANCELLED_ordinal, R_PIPELINE_RESUMED_ordinal, R_STAGE_COMPLETED_ordinal, R_PARALLEL_BRANCH_STARTED_ordinal, R_STAGE_FAILED_ordinal, R_PARALLEL_BRANCH_COMPLETED_ordinal, R_INTERVIEW_TIMEOUT_ordinal, R_INTERVIEW_COMPLETED_ordinal, R_PARALLEL_STARTED_ordinal, R_PARALLEL_COMPLETED_ordinal, R_STAGE_STARTED_ordinal, R_CHECKPOINT_SAVED_ordinal, R_INTERVIEW_STARTED_ordinal, R_STAGE_RETRYING_ordinal⟩ := G
  have k_1 : Go p.tables e below (s₁.setTop (entryFrame m #[(.ref a_PIPELINE_STARTED)] 1)) (s₁.setTop (mkF m 1 #[rv a_PIPELINE_STARTED] [(.ref a_PIPELINE_STARTED)])) := fun t q => by
    refine k0 t ?_
    refine XS.aloadN X0.here hx rfl (hb hby d1_0) rfl rfl ?_
    show Steps _ _ _ (s₁.setTop (mkF m 1 #[rv a_PIPELINE_STARTED] [(.ref a_PIPELINE_STARTED)])) _
    exact q
  obtain ⟨T2, X2, e2, st2⟩ := getS2 X0 hx hZ hown (host := "") (Or.inl (hw _ (wd 46 rfl))) Via.refl e0 (S_PIPELINE_COMPLETED.ext O0.2) (g := (mkF m 1 #[rv a_PIPELINE_STARTED] [(.ref a_PIPELINE_STARTED)])) rfl (hb hby d1_1)
  have k_3 : Go p.tables e below (s₁.setTop (entryFrame m #[(.ref a_PIPELINE_STARTED)] 1)) (T2.setTop (mkF m 8 #[rv a_PIPELINE_STARTED] [(.ref a_PIPELINE_STARTED)])) := fun t q => by
    refine k_1 t ?_
    refine st2 _ ?_
    show Steps _ _ _ (T2.setTop (mkF m 4 #[rv a_PIPELINE_STARTED] [(.ref a_PIPELINE_COMPLETED), (.ref a_PIPELINE_STARTED)])) _
    refine Jvm.RoadKit.acmp (g := (mkF m 4 #[rv a_PIPELINE_STARTED] [(.ref a_PIPELINE_COMPLETED), (.ref a_PIPELINE_STARTED)])) X2 hx rfl rfl rfl (pc0 := 4) (pc' := 7) (same := false) rfl (hb hby d1_4) rfl (decide_eq_false fun q => (own_ne R_PIPELINE_STARTED_ordinal R_PIPELINE_COMPLETED_ordinal (by decide)) (Value.ref.inj q)) (by decide) (by decide) ?_
    show Steps _ _ _ (T2.setTop (mkF m 7 #[rv a_PIPELINE_STARTED] [])) _
    refine XS.aloadN X2.here hx rfl (hb hby d1_7) rfl rfl ?_
    show Steps _ _ _ (T2.setTop (mkF m 8 #[rv a_PIPELINE_STARTED] [(.ref a_PIPELINE_STARTED)])) _
    exact q
  obtain ⟨T4, X4, e4, st4⟩ := getS2 X2 hx hZ hown (host := "") (Or.inl (hw _ (wd 47 rfl))) Via.refl e2 (S_PIPELINE_FAILED.ext O0.2) (g := (mkF m 8 #[rv a_PIPELINE_STARTED] [(.ref a_PIPELINE_STARTED)])) rfl (hb hby d1_8)
  have k_5 : Go p.tables e below (s₁.setTop (entryFrame m #[(.ref a_PIPELINE_STARTED)] 1)) (T4.setTop (mkF m 15 #[rv a_PIPELINE_STARTED] [(.ref a_PIPELINE_STARTED)])) := fun t q => by
    refine k_3 t ?_
    refine st4 _ ?_
    show Steps _ _ _ (T4.setTop (mkF m 11 #[rv a_PIPELINE_STARTED] [(.ref a_PIPELINE_FAILED), (.ref a_PIPELINE_STARTED)])) _
    refine Jvm.RoadKit.acmp (g := (mkF m 11 #[rv a_PIPELINE_STARTED] [(.ref a_PIPELINE_FAILED), (.ref a_PIPELINE_STARTED)])) X4 hx rfl rfl rfl (pc0 := 11) (pc' := 14) (same := false) rfl (hb hby d1_11) rfl (decide_eq_false fun q => (own_ne R_PIPELINE_STARTED_ordinal R_PIPELINE_FAILED_ordinal (by decide)) (Value.ref.inj q)) (by decide) (by decide) ?_
    show Steps _ _ _ (T4.setTop (mkF m 14 #[rv a_PIPELINE_STARTED] [])) _
    refine XS.aloadN X4.here hx rfl (hb hby d1_14) rfl rfl ?_
    show Steps _ _ _ (T4.setTop (mkF m 15 #[rv a_PIPELINE_STARTED] [(.ref a_PIPELINE_STARTED)])) _
    exact q
  obtain ⟨T6, X6, e6, st6⟩ := getS2 X4 hx hZ hown (host := "") (Or.inl (hw _ (wd 48 rfl))) Via.refl e4 (S_PIPELINE_STOPPED.ext O0.2) (g := (mkF m 15 #[rv a_PIPELINE_STARTED] [(.ref a_PIPELINE_STARTED)])) rfl (hb hby d1_15)
  have k_7 : Go p.tables e below (s₁.setTop (entryFrame m #[(.ref a_PIPELINE_STARTED)] 1)) (T6.setTop (mkF m 22 #[rv a_PIPELINE_STARTED] [(.ref a_PIPELINE_STARTED)])) := fun t q => by
    refine k_5 t ?_
    refine st6 _ ?_
    show Steps _ _ _ (T6.setTop (mkF m 18 #[rv a_PIPELINE_STARTED] [(.ref a_PIPELINE_STOPPED), (.ref a_PIPELINE_STARTED)])) _
    refine Jvm.RoadKit.acmp (g := (mkF m 18 #[rv a_PIPELINE_STARTED] [(.ref a_PIPELINE_STOPPED), (.ref a_PIPELINE_STARTED)])) X6 hx rfl rfl rfl (pc0 := 18) (pc' := 21) (same := false) rfl (hb hby d1_18) rfl (decide_eq_false fun q => (own_ne R_PIPELINE_STARTED_ordinal R_PIPELINE_STOPPED_ordinal (by decide)) (Value.ref.inj q)) (by decide) (by decide) ?_
    show Steps _ _ _ (T6.setTop (mkF m 21 #[rv a_PIPELINE_STARTED] [])) _
    refine XS.aloadN X6.here hx rfl (hb hby d1_21) rfl rfl ?_
    show Steps _ _ _ (T6.setTop (mkF m 22 #[rv a_PIPELINE_STARTED] [(.ref a_PIPELINE_STARTED)])) _
    exact q
  obtain ⟨T8, X8, e8, st8⟩ := getS2 X6 hx hZ hown (host := "") (Or.inl (hw _ (wd 49 rfl))) Via.refl e6 (S_PIPELINE_CANCELLED.ext O0.2) (g := (mkF m 22 #[rv a_PIPELINE_STARTED] [(.ref a_PIPELINE_STARTED)])) rfl (hb hby d1_22)
  have k_9 : Go p.tables e below (s₁.setTop (entryFrame m #[(.ref a_PIPELINE_STARTED)] 1)) (T8.setTop (mkF m 33 #[rv a_PIPELINE_STARTED] [(.int 0)])) := fun t q => by
    refine k_7 t ?_
    refine st8 _ ?_
    show Steps _ _ _ (T8.setTop (mkF m 25 #[rv a_PIPELINE_STARTED] [(.ref a_PIPELINE_CANCELLED), (.ref a_PIPELINE_STARTED)])) _
    refine Jvm.RoadKit.acmp (g := (mkF m 25 #[rv a_PIPELINE_STARTED] [(.ref a_PIPELINE_CANCELLED), (.ref a_PIPELINE_STARTED)])) X8 hx rfl rfl rfl (pc0 := 25) (pc' := 32) (same := false) rfl (hb hby d1_25) rfl (decide_eq_false fun q => (own_ne R_PIPELINE_STARTED_ordinal R_PIPELINE_CANCELLED_ordinal (by decide)) (Value.ref.inj q)) (by decide) (by decide) ?_
    show Steps _ _ _ (T8.setTop (mkF m 32 #[rv a_PIPELINE_STARTED] [])) _
    refine XS.iconst X8.here hx rfl (hb hby d1_32) ?_
    show Steps _ _ _ (T8.setTop (mkF m 33 #[rv a_PIPELINE_STARTED] [(.int 0)])) _
    exact q
  obtain ⟨fs, hr, hrun, hended, hW, hsame⟩ := X8.leave (v := some (.int 0)) (fun h => by rw [Bd.returns] at h; cases h)
  refine ⟨_, _, k_9 _ ?_, hrun, hended, _, _, rfl, ?_, ⟨_, rfl⟩, hW, hsame.mono (by decide) (by decide)⟩
  · exact retN X8 hx (t := .boolean) Bd.returns (by simp) (hb hby d1_33) hr
  · show QV (some (.int 0)) h0 n0 _ T8.heap _
    rw [e8]
    exact ⟨rfl, N0, rfl⟩
set_option maxRecDepth 65536 in
set_option maxHeartbeats 40000000 in
theorem ew_1 (l : Launch) (Z : State) (a0 : Array Value) (hw : ∀ d ∈ tables_1, d.before a0 Z = true) (ws : List Jvm.Cond) (a_PIPELINE_STARTED a_PIPELINE_RESUMED a_PIPELINE_COMPLETED a_PIPELINE_FAILED a_PIPELINE_STOPPED a_PIPELINE_CANCELLED a_STAGE_STARTED a_STAGE_COMPLETED a_STAGE_FAILED a_STAGE_RETRYING a_PARALLEL_STARTED a_PARALLEL_BRANCH_STARTED a_PARALLEL_BRANCH_COMPLETED a_PARALLEL_COMPLETED a_INTERVIEW_STARTED a_INTERVIEW_COMPLETED a_INTERVIEW_TIMEOUT a_CHECKPOINT_SAVED : Addr) (G : Own Z a_PIPELINE_STARTED a_PIPELINE_RESUMED a_PIPELINE_COMPLETED a_PIPELINE_FAILED a_PIPELINE_STOPPED a_PIPELINE_CANCELLED a_STAGE_STARTED a_STAGE_COMPLETED a_STAGE_FAILED a_STAGE_RETRYING a_PARALLEL_STARTED a_PARALLEL_BRANCH_STARTED a_PARALLEL_BRANCH_COMPLETED a_PARALLEL_COMPLETED a_INTERVIEW_STARTED a_INTERVIEW_COMPLETED a_INTERVIEW_TIMEOUT a_CHECKPOINT_SAVED)  (h0 : Heap) (n0 : Nat) (O0 : Old Z n0 h0)  :
    MetFree l y_0 (head1 (Jvm.Cond.code y_0 prog_29_method_7_code 1 (some .boolean) :: ws) ({ frames := 0, cells := 0, slots := 0, locals := 0 } : Room)) (fun a U => a = #[(.ref a_PIPELINE_RESUMED)] ∧ Z.Warmed39 U.vm ∧ U.heap = h0) (fun _ _ _ _ _ => True) (fun _ U o U' => ∃ v L, o = .returned v ∧ QV (some (.int 0)) h0 n0 v U'.heap L ∧ FrameEnd U o U' L ({ frames := 0, cells := 0, slots := 0, locals := 0 } : Room).cells ({ frames := 0, cells := 0, slots := 0, locals := 0 } : Room).slots) := by
  refine MetFree.of_bodySF (plainFor_of_name pn_0) hisR ?_
  intro p e s m args below meth c s₁ Bd hml0 hP hK
  obtain ⟨rfl, hZ, hh⟩ := hP
  have hx := Bd.exec
  have hby := Bd.bytes
  have hml : c.maxLocals = 1 := hml0
  have hown : s.vm.findClass "com/example/theseus/theseus/engine/EventType" = some m.cls := findClass_of_methodNamed Bd.named
  have hnm := (name_of_methodNamed Bd.named Bd.method).1
  have X0 : Stand p l e ({ frames := 0, cells := 0, slots := 0, locals := 0 } : Room) s m #[(.ref a_PIPELINE_RESUMED)] below meth c s₁ [] 0 0 := Stand.of_body Bd
  have e0 : s₁.heap = h0 := by rw [← hh, Bd.state]; rfl
  have N0 := Fr.nil n0
  have K0 := Keep.refl h0 []
  have k0 : Go p.tables e below (s₁.setTop (entryFrame m #[(.ref a_PIPELINE_RESUMED)] 1)) (s₁.setTop (mkF m 0 #[rv a_PIPELINE_RESUMED] [])) := fun t k => castTop (by first | rfl | (simp [entryFrame, mkF, argsToLocals, Value.category]; done)) k
  have ⟨S_PIPELINE_STARTED, E_PIPELINE_STARTED, S_PIPELINE_RESUMED, E_PIPELINE_RESUMED, S_PIPELINE_COMPLETED, E_PIPELINE_COMPLETED, S_PIPELINE_FAILED, E_PIPELINE_FAILED, S_PIPELINE_STOPPED, E_PIPELINE_STOPPED, S_PIPELINE_CANCELLED, E_PIPELINE_CANCELLED, S_STAGE_STARTED, E_STAGE_STARTED, S_STAGE_COMPLETED, E_STAGE_COMPLETED, S_STAGE_FAILED, E_STAGE_FAILED, S_STAGE_RETRYING, E_STAGE_RETRYING, S_PARALLEL_STARTED, E_PARALLEL_STARTED, S_PARALLEL_BRANCH_STARTED, E_PARALLEL_BRANCH_STARTED, S_PARALLEL_BRANCH_COMPLETED, E_PARALLEL_BRANCH_COMPLETED, S_PARALLEL_COMPLETED, E_PARALLEL_COMPLETED, S_INTERVIEW_STARTED, E_INTERVIEW_STARTED, S_INTERVIEW_COMPLETED, E_INTERVIEW_COMPLETED, S_INTERVIEW_TIMEOUT, E_INTERVIEW_TIMEOUT, S_CHECKPOINT_SAVED, E_CHECKPOINT_SAVED, R_PIPELINE_STARTED_ordinal, R_PIPELINE_COMPLETED_ordinal, R_PIPELINE_FAILED_ordinal, R_PIPELINE_STOPPED_ordinal, R_PIPELINE_CANCELLED_ordinal, R_PIPELINE_RESUMED_ordinal, R_STAGE_COMPLETED_ordinal, R_PARALLEL_BRANCH_STARTED_ordinal, R_STAGE_FAILED_ordinal, R_PARALLEL_BRANCH_COMPLETED_ordinal, R_INTERVIEW_TIMEOUT_ordinal, R_INTERVIEW_COMPLETED_ordinal, R_PARALLEL_STARTED_ordinal, R_PARALLEL_COMPLETED_ordinal, R_STAGE_STARTED_ordinal, R_CHECKPOINT_SAVED_ordinal, R_INTERVIEW_STARTED_ordinal, R_STAGE_RETRYING_ordinal⟩ := G
  have k_10 : Go p.tables e below (s₁.setTop (entryFrame m #[(.ref a_PIPELINE_RESUMED)] 1)) (s₁.setTop (mkF m 1 #[rv a_PIPELINE_RESUMED] [(.ref a_PIPELINE_RESUMED)])) := fun t q => by
    refine k0 t ?_
    refine XS.aloadN X0.here hx rfl (hb hby d1_0) rfl rfl ?_
    show Steps _ _ _ (s₁.setTop (mkF m 1 #[rv a_PIPELINE_RESUMED] [(.ref a_PIPELINE_RESUMED)])) _
    exact q
  obtain ⟨T11, X11, e11, st11⟩ := getS2 X0 hx hZ hown (host := "") (Or.inl (hw _ (wd 46 rfl))) Via.refl e0 (S_PIPELINE_COMPLETED.ext O0.2) (g := (mkF m 1 #[rv a_PIPELINE_RESUMED] [(.ref a_PIPELINE_RESUMED)])) rfl (hb hby d1_1)
  have k_12 : Go p.tables e below (s₁.setTop (entryFrame m #[(.ref a_PIPELINE_RESUMED)] 1)) (T11.setTop (mkF m 8 #[rv a_PIPELINE_RESUMED] [(.ref a_PIPELINE_RESUMED)])) := fun t q => by
    refine k_10 t ?_
    refine st11 _ ?_
    show Steps _ _ _ (T11.setTop (mkF m 4 #[rv a_PIPELINE_RESUMED] [(.ref a_PIPELINE_COMPLETED), (.ref a_PIPELINE_RESUMED)])) _
    refine Jvm.RoadKit.acmp (g := (mkF m 4 #[rv a_PIPELINE_RESUMED] [(.ref a_PIPELINE_COMPLETED), (.ref a_PIPELINE_RESUMED)])) X11 hx rfl rfl rfl (pc0 := 4) (pc' := 7) (same := false) rfl (hb hby d1_4) rfl (decide_eq_false fun q => (own_ne R_PIPELINE_RESUMED_ordinal R_PIPELINE_COMPLETED_ordinal (by decide)) (Value.ref.inj q)) (by decide) (by decide) ?_
    show Steps _ _ _ (T11.setTop (mkF m 7 #[rv a_PIPELINE_RESUMED] [])) _
    refine XS.aloadN X11.here hx rfl (hb hby d1_7) rfl rfl ?_
    show Steps _ _ _ (T11.setTop (mkF m 8 #[rv a_PIPELINE_RESUMED] [(.ref a_PIPELINE_RESUMED)])) _
    exact q
  obtain ⟨T13, X13, e13, st13⟩ := getS2 X11 hx hZ hown (host := "") (Or.inl (hw _ (wd 47 rfl))) Via.refl e11 (S_PIPELINE_FAILED.ext O0.2) (g := (mkF m 8 #[rv a_PIPELINE_RESUMED] [(.ref a_PIPELINE_RESUMED)])) rfl (hb hby d1_8)
  have k_14 : Go p.tables e below (s₁.setTop (entryFrame m #[(.ref a_PIPELINE_RESUMED)] 1)) (T13.setTop (mkF m 15 #[rv a_PIPELINE_RESUMED] [(.ref a_PIPELINE_RESUMED)])) := fun t q => by
    refine k_12 t ?_
    refine st13 _ ?_
    show Steps _ _ _ (T13.setTop (mkF m 11 #[rv a_PIPELINE_RESUMED] [(.ref a_PIPELINE_FAILED), (.ref a_PIPELINE_RESUMED)])) _
    refine Jvm.RoadKit.acmp (g := (mkF m 11 #[rv a_PIPELINE_RESUMED] [(.ref a_PIPELINE_FAILED), (.ref a_PIPELINE_RESUMED)])) X13 hx rfl rfl rfl (pc0 := 11) (pc' := 14) (same := false) rfl (hb hby d1_11) rfl (decide_eq_false fun q => (own_ne R_PIPELINE_RESUMED_ordinal R_PIPELINE_FAILED_ordinal (by decide)) (Value.ref.inj q)) (by decide) (by decide) ?_
    show Steps _ _ _ (T13.setTop (mkF m 14 #[rv a_PIPELINE_RESUMED] [])) _
    refine XS.aloadN X13.here hx rfl (hb hby d1_14) rfl rfl ?_
    show Steps _ _ _ (T13.setTop (mkF m 15 #[rv a_PIPELINE_RESUMED] [(.ref a_PIPELINE_RESUMED)])) _
    exact q
  obtain ⟨T15, X15, e15, st15⟩ := getS2 X13 hx hZ hown (host := "") (Or.inl (hw _ (wd 48 rfl))) Via.refl e13 (S_PIPELINE_STOPPED.ext O0.2) (g := (mkF m 15 #[rv a_PIPELINE_RESUMED] [(.ref a_PIPELINE_RESUMED)])) rfl (hb hby d1_15)
  have k_16 : Go p.tables e below (s₁.setTop (entryFrame m #[(.ref a_PIPELINE_RESUMED)] 1)) (T15.setTop (mkF m 22 #[rv a_PIPELINE_RESUMED] [(.ref a_PIPELINE_RESUMED)])) := fun t q => by
    refine k_14 t ?_
    refine st15 _ ?_
    show Steps _ _ _ (T15.setTop (mkF m 18 #[rv a_PIPELINE_RESUMED] [(.ref a_PIPELINE_STOPPED), (.ref a_PIPELINE_RESUMED)])) _
    refine Jvm.RoadKit.acmp (g := (mkF m 18 #[rv a_PIPELINE_RESUMED] [(.ref a_PIPELINE_STOPPED), (.ref a_PIPELINE_RESUMED)])) X15 hx rfl rfl rfl (pc0 := 18) (pc' := 21) (same := false) rfl (hb hby d1_18) rfl (decide_eq_false fun q => (own_ne R_PIPELINE_RESUMED_ordinal R_PIPELINE_STOPPED_ordinal (by decide)) (Value.ref.inj q)) (by decide) (by decide) ?_
    show Steps _ _ _ (T15.setTop (mkF m 21 #[rv a_PIPELINE_RESUMED] [])) _
    refine XS.aloadN X15.here hx rfl (hb hby d1_21) rfl rfl ?_
    show Steps _ _ _ (T15.setTop (mkF m 22 #[rv a_PIPELINE_RESUMED] [(.ref a_PIPELINE_RESUMED)])) _
    exact q
  obtain ⟨T17, X17, e17, st17⟩ := getS2 X15 hx hZ hown (host := "") (Or.inl (hw _ (wd 49 rfl))) Via.refl e15 (S_PIPELINE_CANCELLED.ext O0.2) (g := (mkF m 22 #[rv a_PIPELINE_RESUMED] [(.ref a_PIPELINE_RESUMED)])) rfl (hb hby d1_22)
  have k_18 : Go p.tables e below (s₁.setTop (entryFrame m #[(.ref a_PIPELINE_RESUMED)] 1)) (T17.setTop (mkF m 33 #[rv a_PIPELINE_RESUMED] [(.int 0)])) := fun t q => by
    refine k_16 t ?_
    refine st17 _ ?_
    show Steps _ _ _ (T17.setTop (mkF m 25 #[rv a_PIPELINE_RESUMED] [(.ref a_PIPELINE_CANCELLED), (.ref a_PIPELINE_RESUMED)])) _
    refine Jvm.RoadKit.acmp (g := (mkF m 25 #[rv a_PIPELINE_RESUMED] [(.ref a_PIPELINE_CANCELLED), (.ref a_PIPELINE_RESUMED)])) X17 hx rfl rfl rfl (pc0 := 25) (pc' := 32) (same := false) rfl (hb hby d1_25) rfl (decide_eq_false fun q => (own_ne R_PIPELINE_RESUMED_ordinal R_PIPELINE_CANCELLED_ordinal (by decide)) (Value.ref.inj q)) (by decide) (by decide) ?_
    show Steps _ _ _ (T17.setTop (mkF m 32 #[rv a_PIPELINE_RESUMED] [])) _
    refine XS.iconst X17.here hx rfl (hb hby d1_32) ?_
    show Steps _ _ _ (T17.setTop (mkF m 33 #[rv a_PIPELINE_RESUMED] [(.int 0)])) _
    exact q
  obtain ⟨fs, hr, hrun, hended, hW, hsame⟩ := X17.leave (v := some (.int 0)) (fun h => by rw [Bd.returns] at h; cases h)
  refine ⟨_, _, k_18 _ ?_, hrun, hended, _, _, rfl, ?_, ⟨_, rfl⟩, hW, hsame.mono (by decide) (by decide)⟩
  · exact retN X17 hx (t := .boolean) Bd.returns (by simp) (hb hby d1_33) hr
  · show QV (some (.int 0)) h0 n0 _ T17.heap _
    rw [e17]
    exact ⟨rfl, N0, rfl⟩
set_option maxRecDepth 65536 in
set_option maxHeartbeats 40000000 in
theorem ew_2 (l : Launch) (Z : State) (a0 : Array Value) (hw : ∀ d ∈ tables_1, d.before a0 Z = true) (ws : List Jvm.Cond) (a_PIPELINE_STARTED a_PIPELINE_RESUMED a_PIPELINE_COMPLETED a_PIPELINE_FAILED a_PIPELINE_STOPPED a_PIPELINE_CANCELLED a_STAGE_STARTED a_STAGE_COMPLETED a_STAGE_FAILED a_STAGE_RETRYING a_PARALLEL_STARTED a_PARALLEL_BRANCH_STARTED a_PARALLEL_BRANCH_COMPLETED a_PARALLEL_COMPLETED a_INTERVIEW_STARTED a_INTERVIEW_COMPLETED a_INTERVIEW_TIMEOUT a_CHECKPOINT_SAVED : Addr) (G : Own Z a_PIPELINE_STARTED a_PIPELINE_RESUMED a_PIPELINE_COMPLETED a_PIPELINE_FAILED a_PIPELINE_STOPPED a_PIPELINE_CANCELLED a_STAGE_STARTED a_STAGE_COMPLETED a_STAGE_FAILED a_STAGE_RETRYING a_PARALLEL_STARTED a_PARALLEL_BRANCH_STARTED a_PARALLEL_BRANCH_COMPLETED a_PARALLEL_COMPLETED a_INTERVIEW_STARTED a_INTERVIEW_COMPLETED a_INTERVIEW_TIMEOUT a_CHECKPOINT_SAVED)  (h0 : Heap) (n0 : Nat) (O0 : Old Z n0 h0)  :
    MetFree l y_0 (head1 (Jvm.Cond.code y_0 prog_29_method_7_code 1 (some .boolean) :: ws) ({ frames := 0, cells := 0, slots := 0, locals := 0 } : Room)) (fun a U => a = #[(.ref a_PIPELINE_COMPLETED)] ∧ Z.Warmed39 U.vm ∧ U.heap = h0) (fun _ _ _ _ _ => True) (fun _ U o U' => ∃ v L, o = .returned v ∧ QV (some (.int 1)) h0 n0 v U'.heap L ∧ FrameEnd U o U' L ({ frames := 0, cells := 0, slots := 0, locals := 0 } : Room).cells ({ frames := 0, cells := 0, slots := 0, locals := 0 } : Room).slots) := by
  refine MetFree.of_bodySF (plainFor_of_name pn_0) hisR ?_
  intro p e s m args below meth c s₁ Bd hml0 hP hK
  obtain ⟨rfl, hZ, hh⟩ := hP
  have hx := Bd.exec
  have hby := Bd.bytes
  have hml : c.maxLocals = 1 := hml0
  have hown : s.vm.findClass "com/example/theseus/theseus/engine/EventType" = some m.cls := findClass_of_methodNamed Bd.named
  have hnm := (name_of_methodNamed Bd.named Bd.method).1
  have X0 : Stand p l e ({ frames := 0, cells := 0, slots := 0, locals := 0 } : Room) s m #[(.ref a_PIPELINE_COMPLETED)] below meth c s₁ [] 0 0 := Stand.of_body Bd
  have e0 : s₁.heap = h0 := by rw [← hh, Bd.state]; rfl
  have N0 := Fr.nil n0
  have K0 := Keep.refl h0 []
  have k0 : Go p.tables e below (s₁.setTop (entryFrame m #[(.ref a_PIPELINE_COMPLETED)] 1)) (s₁.setTop (mkF m 0 #[rv a_PIPELINE_COMPLETED] [])) := fun t k => castTop (by first | rfl | (simp [entryFrame, mkF, argsToLocals, Value.category]; done)) k
  have ⟨S_PIPELINE_STARTED, E_PIPELINE_STARTED, S_PIPELINE_RESUMED, E_PIPELINE_RESUMED, S_PIPELINE_COMPLETED, E_PIPELINE_COMPLETED, S_PIPELINE_FAILED, E_PIPELINE_FAILED, S_PIPELINE_STOPPED, E_PIPELINE_STOPPED, S_PIPELINE_CANCELLED, E_PIPELINE_CANCELLED, S_STAGE_STARTED, E_STAGE_STARTED, S_STAGE_COMPLETED, E_STAGE_COMPLETED, S_STAGE_FAILED, E_STAGE_FAILED, S_STAGE_RETRYING, E_STAGE_RETRYING, S_PARALLEL_STARTED, E_PARALLEL_STARTED, S_PARALLEL_BRANCH_STARTED, E_PARALLEL_BRANCH_STARTED, S_PARALLEL_BRANCH_COMPLETED, E_PARALLEL_BRANCH_COMPLETED, S_PARALLEL_COMPLETED, E_PARALLEL_COMPLETED, S_INTERVIEW_STARTED, E_INTERVIEW_STARTED, S_INTERVIEW_COMPLETED, E_INTERVIEW_COMPLETED, S_INTERVIEW_TIMEOUT, E_INTERVIEW_TIMEOUT, S_CHECKPOINT_SAVED, E_CHECKPOINT_SAVED, R_PIPELINE_STARTED_ordinal, R_PIPELINE_COMPLETED_ordinal, R_PIPELINE_FAILED_ordinal, R_PIPELINE_STOPPED_ordinal, R_PIPELINE_CANCELLED_ordinal, R_PIPELINE_RESUMED_ordinal, R_STAGE_COMPLETED_ordinal, R_PARALLEL_BRANCH_STARTED_ordinal, R_STAGE_FAILED_ordinal, R_PARALLEL_BRANCH_COMPLETED_ordinal, R_INTERVIEW_TIMEOUT_ordinal, R_INTERVIEW_COMPLETED_ordinal, R_PARALLEL_STARTED_ordinal, R_PARALLEL_COMPLETED_ordinal, R_STAGE_STARTED_ordinal, R_CHECKPOINT_SAVED_ordinal, R_INTERVIEW_STARTED_ordinal, R_STAGE_RETRYING_ordinal⟩ := G
  have k_19 : Go p.tables e below (s₁.setTop (entryFrame m #[(.ref a_PIPELINE_COMPLETED)] 1)) (s₁.setTop (mkF m 1 #[rv a_PIPELINE_COMPLETED] [(.ref a_PIPELINE_COMPLETED)])) := fun t q => by
    refine k0 t ?_
    refine XS.aloadN X0.here hx rfl (hb hby d1_0) rfl rfl ?_
    show Steps _ _ _ (s₁.setTop (mkF m 1 #[rv a_PIPELINE_COMPLETED] [(.ref a_PIPELINE_COMPLETED)])) _
    exact q
  obtain ⟨T20, X20, e20, st20⟩ := getS2 X0 hx hZ hown (host := "") (Or.inl (hw _ (wd 46 rfl))) Via.refl e0 (S_PIPELINE_COMPLETED.ext O0.2) (g := (mkF m 1 #[rv a_PIPELINE_COMPLETED] [(.ref a_PIPELINE_COMPLETED)])) rfl (hb hby d1_1)
  have k_21 : Go p.tables e below (s₁.setTop (entryFrame m #[(.ref a_PIPELINE_COMPLETED)] 1)) (T20.setTop (mkF m 33 #[rv a_PIPELINE_COMPLETED] [(.int 1)])) := fun t q => by
    refine k_19 t ?_
    refine st20 _ ?_
    show Steps _ _ _ (T20.setTop (mkF m 4 #[rv a_PIPELINE_COMPLETED] [(.ref a_PIPELINE_COMPLETED), (.ref a_PIPELINE_COMPLETED)])) _
    refine Jvm.RoadKit.acmp (g := (mkF m 4 #[rv a_PIPELINE_COMPLETED] [(.ref a_PIPELINE_COMPLETED), (.ref a_PIPELINE_COMPLETED)])) X20 hx rfl rfl rfl (pc0 := 4) (pc' := 28) (same := true) rfl (hb hby d1_4) rfl (decide_eq_true rfl) (by decide) (by decide) ?_
    show Steps _ _ _ (T20.setTop (mkF m 28 #[rv a_PIPELINE_COMPLETED] [])) _
    refine XS.iconst X20.here hx rfl (hb hby d1_28) ?_
    show Steps _ _ _ (T20.setTop (mkF m 29 #[rv a_PIPELINE_COMPLETED] [(.int 1)])) _
    refine XS.goto X20.here hx rfl (pc0 := 29) (pc' := 33) rfl (hb hby d1_29) (by decide) (by decide) ?_
    show Steps _ _ _ (T20.setTop (mkF m 33 #[rv a_PIPELINE_COMPLETED] [(.int 1)])) _
    exact q
  obtain ⟨fs, hr, hrun, hended, hW, hsame⟩ := X20.leave (v := some (.int 1)) (fun h => by rw [Bd.returns] at h; cases h)
  refine ⟨_, _, k_21 _ ?_, hrun, hended, _, _, rfl, ?_, ⟨_, rfl⟩, hW, hsame.mono (by decide) (by decide)⟩
  · exact retN X20 hx (t := .boolean) Bd.returns (by simp) (hb hby d1_33) hr
  · show QV (some (.int 1)) h0 n0 _ T20.heap _
    rw [e20]
    exact ⟨rfl, N0, rfl⟩
set_option maxRecDepth 65536 in
set_option maxHeartbeats 40000000 in
theorem ew_3 (l : Launch) (Z : State) (a0 : Array Value) (hw : ∀ d ∈ tables_1, d.before a0 Z = true) (ws : List Jvm.Cond) (a_PIPELINE_STARTED a_PIPELINE_RESUMED a_PIPELINE_COMPLETED a_PIPELINE_FAILED a_PIPELINE_STOPPED a_PIPELINE_CANCELLED a_STAGE_STARTED a_STAGE_COMPLETED a_STAGE_FAILED a_STAGE_RETRYING a_PARALLEL_STARTED a_PARALLEL_BRANCH_STARTED a_PARALLEL_BRANCH_COMPLETED a_PARALLEL_COMPLETED a_INTERVIEW_STARTED a_INTERVIEW_COMPLETED a_INTERVIEW_TIMEOUT a_CHECKPOINT_SAVED : Addr) (G : Own Z a_PIPELINE_STARTED a_PIPELINE_RESUMED a_PIPELINE_COMPLETED a_PIPELINE_FAILED a_PIPELINE_STOPPED a_PIPELINE_CANCELLED a_STAGE_STARTED a_STAGE_COMPLETED a_STAGE_FAILED a_STAGE_RETRYING a_PARALLEL_STARTED a_PARALLEL_BRANCH_STARTED a_PARALLEL_BRANCH_COMPLETED a_PARALLEL_COMPLETED a_INTERVIEW_STARTED a_INTERVIEW_COMPLETED a_INTERVIEW_TIMEOUT a_CHECKPOINT_SAVED)  (h0 : Heap) (n0 : Nat) (O0 : Old Z n0 h0)  :
    MetFree l y_0 (head1 (Jvm.Cond.code y_0 prog_29_method_7_code 1 (some .boolean) :: ws) ({ frames := 0, cells := 0, slots := 0, locals := 0 } : Room)) (fun a U => a = #[(.ref a_PIPELINE_FAILED)] ∧ Z.Warmed39 U.vm ∧ U.heap = h0) (fun _ _ _ _ _ => True) (fun _ U o U' => ∃ v L, o = .returned v ∧ QV (some (.int 1)) h0 n0 v U'.heap L ∧ FrameEnd U o U' L ({ frames := 0, cells := 0, slots := 0, locals := 0 } : Room).cells ({ frames := 0, cells := 0, slots := 0, locals := 0 } : Room).slots) := by
  refine MetFree.of_bodySF (plainFor_of_name pn_0) hisR ?_
  intro p e s m args below meth c s₁ Bd hml0 hP hK
  obtain ⟨rfl, hZ, hh⟩ := hP
  have hx := Bd.exec
  have hby := Bd.bytes
  have hml : c.maxLocals = 1 := hml0
  have hown : s.vm.findClass "com/example/theseus/theseus/engine/EventType" = some m.cls := findClass_of_methodNamed Bd.named
  have hnm := (name_of_methodNamed Bd.named Bd.method).1
  have X0 : Stand p l e ({ frames := 0, cells := 0, slots := 0, locals := 0 } : Room) s m #[(.ref a_PIPELINE_FAILED)] below meth c s₁ [] 0 0 := Stand.of_body Bd
  have e0 : s₁.heap = h0 := by rw [← hh, Bd.state]; rfl
  have N0 := Fr.nil n0
  have K0 := Keep.refl h0 []
  have k0 : Go p.tables e below (s₁.setTop (entryFrame m #[(.ref a_PIPELINE_FAILED)] 1)) (s₁.setTop (mkF m 0 #[rv a_PIPELINE_FAILED] [])) := fun t k => castTop (by first | rfl | (simp [entryFrame, mkF, argsToLocals, Value.category]; done)) k
  have ⟨S_PIPELINE_STARTED, E_PIPELINE_STARTED, S_PIPELINE_RESUMED, E_PIPELINE_RESUMED, S_PIPELINE_COMPLETED, E_PIPELINE_COMPLETED, S_PIPELINE_FAILED, E_PIPELINE_FAILED, S_PIPELINE_STOPPED, E_PIPELINE_STOPPED, S_PIPELINE_CANCELLED, E_PIPELINE_CANCELLED, S_STAGE_STARTED, E_STAGE_STARTED, S_STAGE_COMPLETED, E_STAGE_COMPLETED, S_STAGE_FAILED, E_STAGE_FAILED, S_STAGE_RETRYING, E_STAGE_RETRYING, S_PARALLEL_STARTED, E_PARALLEL_STARTED, S_PARALLEL_BRANCH_STARTED, E_PARALLEL_BRANCH_STARTED, S_PARALLEL_BRANCH_COMPLETED, E_PARALLEL_BRANCH_COMPLETED, S_PARALLEL_COMPLETED, E_PARALLEL_COMPLETED, S_INTERVIEW_STARTED, E_INTERVIEW_STARTED, S_INTERVIEW_COMPLETED, E_INTERVIEW_COMPLETED, S_INTERVIEW_TIMEOUT, E_INTERVIEW_TIMEOUT, S_CHECKPOINT_SAVED, E_CHECKPOINT_SAVED, R_PIPELINE_STARTED_ordinal, R_PIPELINE_COMPLETED_ordinal, R_PIPELINE_FAILED_ordinal, R_PIPELINE_STOPPED_ordinal, R_PIPELINE_CANCELLED_ordinal, R_PIPELINE_RESUMED_ordinal, R_STAGE_COMPLETED_ordinal, R_PARALLEL_BRANCH_STARTED_ordinal, R_STAGE_FAILED_ordinal, R_PARALLEL_BRANCH_COMPLETED_ordinal, R_INTERVIEW_TIMEOUT_ordinal, R_INTERVIEW_COMPLETED_ordinal, R_PARALLEL_STARTED_ordinal, R_PARALLEL_COMPLETED_ordinal, R_STAGE_STARTED_ordinal, R_CHECKPOINT_SAVED_ordinal, R_INTERVIEW_STARTED_ordinal, R_STAGE_RETRYING_ordinal⟩ := G
  have k_22 : Go p.tables e below (s₁.setTop (entryFrame m #[(.ref a_PIPELINE_FAILED)] 1)) (s₁.setTop (mkF m 1 #[rv a_PIPELINE_FAILED] [(.ref a_PIPELINE_FAILED)])) := fun t q => by
    refine k0 t ?_
    refine XS.aloadN X0.here hx rfl (hb hby d1_0) rfl rfl ?_
    show Steps _ _ _ (s₁.setTop (mkF m 1 #[rv a_PIPELINE_FAILED] [(.ref a_PIPELINE_FAILED)])) _
    exact q
  obtain ⟨T23, X23, e23, st23⟩ := getS2 X0 hx hZ hown (host := "") (Or.inl (hw _ (wd 46 rfl))) Via.refl e0 (S_PIPELINE_COMPLETED.ext O0.2) (g := (mkF m 1 #[rv a_PIPELINE_FAILED] [(.ref a_PIPELINE_FAILED)])) rfl (hb hby d1_1)
  have k_24 : Go p.tables e below (s₁.setTop (entryFrame m #[(.ref a_PIPELINE_FAILED)] 1)) (T23.setTop (mkF m 8 #[rv a_PIPELINE_FAILED] [(.ref a_PIPELINE_FAILED)])) := fun t q => by
    refine k_22 t ?_
    refine st23 _ ?_
    show Steps _ _ _ (T23.setTop (mkF m 4 #[rv a_PIPELINE_FAILED] [(.ref a_PIPELINE_COMPLETED), (.ref a_PIPELINE_FAILED)])) _
    refine Jvm.RoadKit.acmp (g := (mkF m 4 #[rv a_PIPELINE_FAILED] [(.ref a_PIPELINE_COMPLETED), (.ref a_PIPELINE_FAILED)])) X23 hx rfl rfl rfl (pc0 := 4) (pc' := 7) (same := false) rfl (hb hby d1_4) rfl (decide_eq_false fun q => (own_ne R_PIPELINE_FAILED_ordinal R_PIPELINE_COMPLETED_ordinal (by decide)) (Value.ref.inj q)) (by decide) (by decide) ?_
    show Steps _ _ _ (T23.setTop (mkF m 7 #[rv a_PIPELINE_FAILED] [])) _
    refine XS.aloadN X23.here hx rfl (hb hby d1_7) rfl rfl ?_
    show Steps _ _ _ (T23.setTop (mkF m 8 #[rv a_PIPELINE_FAILED] [(.ref a_PIPELINE_FAILED)])) _
    exact q
  obtain ⟨T25, X25, e25, st25⟩ := getS2 X23 hx hZ hown (host := "") (Or.inl (hw _ (wd 47 rfl))) Via.refl e23 (S_PIPELINE_FAILED.ext O0.2) (g := (mkF m 8 #[rv a_PIPELINE_FAILED] [(.ref a_PIPELINE_FAILED)])) rfl (hb hby d1_8)
  have k_26 : Go p.tables e below (s₁.setTop (entryFrame m #[(.ref a_PIPELINE_FAILED)] 1)) (T25.setTop (mkF m 33 #[rv a_PIPELINE_FAILED] [(.int 1)])) := fun t q => by
    refine k_24 t ?_
    refine st25 _ ?_
    show Steps _ _ _ (T25.setTop (mkF m 11 #[rv a_PIPELINE_FAILED] [(.ref a_PIPELINE_FAILED), (.ref a_PIPELINE_FAILED)])) _
    refine Jvm.RoadKit.acmp (g := (mkF m 11 #[rv a_PIPELINE_FAILED] [(.ref a_PIPELINE_FAILED), (.ref a_PIPELINE_FAILED)])) X25 hx rfl rfl rfl (pc0 := 11) (pc' := 28) (same := true) rfl (hb hby d1_11) rfl (decide_eq_true rfl) (by decide) (by decide) ?_
    show Steps _ _ _ (T25.setTop (mkF m 28 #[rv a_PIPELINE_FAILED] [])) _
    refine XS.iconst X25.here hx rfl (hb hby d1_28) ?_
    show Steps _ _ _ (T25.setTop (mkF m 29 #[rv a_PIPELINE_FAILED] [(.int 1)])) _
    refine XS.goto X25.here hx rfl (pc0 := 29) (pc' := 33) rfl (hb hby d1_29) (by decide) (by decide) ?_
    show Steps _ _ _ (T25.setTop (mkF m 33 #[rv a_PIPELINE_FAILED] [(.int 1)])) _
    exact q
  obtain ⟨fs, hr, hrun, hended, hW, hsame⟩ := X25.leave (v := some (.int 1)) (fun h => by rw [Bd.returns] at h; cases h)
  refine ⟨_, _, k_26 _ ?_, hrun, hended, _, _, rfl, ?_, ⟨_, rfl⟩, hW, hsame.mono (by decide) (by decide)⟩
  · exact retN X25 hx (t := .boolean) Bd.returns (by simp) (hb hby d1_33) hr
  · show QV (some (.int 1)) h0 n0 _ T25.heap _
    rw [e25]
    exact ⟨rfl, N0, rfl⟩
set_option maxRecDepth 65536 in
set_option maxHeartbeats 40000000 in
theorem ew_4 (l : Launch) (Z : State) (a0 : Array Value) (hw : ∀ d ∈ tables_1, d.before a0 Z = true) (ws : List Jvm.Cond) (a_PIPELINE_STARTED a_PIPELINE_RESUMED a_PIPELINE_COMPLETED a_PIPELINE_FAILED a_PIPELINE_STOPPED a_PIPELINE_CANCELLED a_STAGE_STARTED a_STAGE_COMPLETED a_STAGE_FAILED a_STAGE_RETRYING a_PARALLEL_STARTED a_PARALLEL_BRANCH_STARTED a_PARALLEL_BRANCH_COMPLETED a_PARALLEL_COMPLETED a_INTERVIEW_STARTED a_INTERVIEW_COMPLETED a_INTERVIEW_TIMEOUT a_CHECKPOINT_SAVED : Addr) (G : Own Z a_PIPELINE_STARTED a_PIPELINE_RESUMED a_PIPELINE_COMPLETED a_PIPELINE_FAILED a_PIPELINE_STOPPED a_PIPELINE_CANCELLED a_STAGE_STARTED a_STAGE_COMPLETED a_STAGE_FAILED a_STAGE_RETRYING a_PARALLEL_STARTED a_PARALLEL_BRANCH_STARTED a_PARALLEL_BRANCH_COMPLETED a_PARALLEL_COMPLETED a_INTERVIEW_STARTED a_INTERVIEW_COMPLETED a_INTERVIEW_TIMEOUT a_CHECKPOINT_SAVED)  (h0 : Heap) (n0 : Nat) (O0 : Old Z n0 h0)  :
    MetFree l y_0 (head1 (Jvm.Cond.code y_0 prog_29_method_7_code 1 (some .boolean) :: ws) ({ frames := 0, cells := 0, slots := 0, locals := 0 } : Room)) (fun a U => a = #[(.ref a_PIPELINE_STOPPED)] ∧ Z.Warmed39 U.vm ∧ U.heap = h0) (fun _ _ _ _ _ => True) (fun _ U o U' => ∃ v L, o = .returned v ∧ QV (some (.int 1)) h0 n0 v U'.heap L ∧ FrameEnd U o U' L ({ frames := 0, cells := 0, slots := 0, locals := 0 } : Room).cells ({ frames := 0, cells := 0, slots := 0, locals := 0 } : Room).slots) := by
  refine MetFree.of_bodySF (plainFor_of_name pn_0) hisR ?_
  intro p e s m args below meth c s₁ Bd hml0 hP hK
  obtain ⟨rfl, hZ, hh⟩ := hP
  have hx := Bd.exec
  have hby := Bd.bytes
  have hml : c.maxLocals = 1 := hml0
  have hown : s.vm.findClass "com/example/theseus/theseus/engine/EventType" = some m.cls := findClass_of_methodNamed Bd.named
  have hnm := (name_of_methodNamed Bd.named Bd.method).1
  have X0 : Stand p l e ({ frames := 0, cells := 0, slots := 0, locals := 0 } : Room) s m #[(.ref a_PIPELINE_STOPPED)] below meth c s₁ [] 0 0 := Stand.of_body Bd
  have e0 : s₁.heap = h0 := by rw [← hh, Bd.state]; rfl
  have N0 := Fr.nil n0
  have K0 := Keep.refl h0 []
  have k0 : Go p.tables e below (s₁.setTop (entryFrame m #[(.ref a_PIPELINE_STOPPED)] 1)) (s₁.setTop (mkF m 0 #[rv a_PIPELINE_STOPPED] [])) := fun t k => castTop (by first | rfl | (simp [entryFrame, mkF, argsToLocals, Value.category]; done)) k
  have ⟨S_PIPELINE_STARTED, E_PIPELINE_STARTED, S_PIPELINE_RESUMED, E_PIPELINE_RESUMED, S_PIPELINE_COMPLETED, E_PIPELINE_COMPLETED, S_PIPELINE_FAILED, E_PIPELINE_FAILED, S_PIPELINE_STOPPED, E_PIPELINE_STOPPED, S_PIPELINE_CANCELLED, E_PIPELINE_CANCELLED, S_STAGE_STARTED, E_STAGE_STARTED, S_STAGE_COMPLETED, E_STAGE_COMPLETED, S_STAGE_FAILED, E_STAGE_FAILED, S_STAGE_RETRYING, E_STAGE_RETRYING, S_PARALLEL_STARTED, E_PARALLEL_STARTED, S_PARALLEL_BRANCH_STARTED, E_PARALLEL_BRANCH_STARTED, S_PARALLEL_BRANCH_COMPLETED, E_PARALLEL_BRANCH_COMPLETED, S_PARALLEL_COMPLETED, E_PARALLEL_COMPLETED, S_INTERVIEW_STARTED, E_INTERVIEW_STARTED, S_INTERVIEW_COMPLETED, E_INTERVIEW_COMPLETED, S_INTERVIEW_TIMEOUT, E_INTERVIEW_TIMEOUT, S_CHECKPOINT_SAVED, E_CHECKPOINT_SAVED, R_PIPELINE_STARTED_ordinal, R_PIPELINE_COMPLETED_ordinal, R_PIPELINE_FAILED_ordinal, R_PIPELINE_STOPPED_ordinal, R_PIPELINE_CANCELLED_ordinal, R_PIPELINE_RESUMED_ordinal, R_STAGE_COMPLETED_ordinal, R_PARALLEL_BRANCH_STARTED_ordinal, R_STAGE_FAILED_ordinal, R_PARALLEL_BRANCH_COMPLETED_ordinal, R_INTERVIEW_TIMEOUT_ordinal, R_INTERVIEW_COMPLETED_ordinal, R_PARALLEL_STARTED_ordinal, R_PARALLEL_COMPLETED_ordinal, R_STAGE_STARTED_ordinal, R_CHECKPOINT_SAVED_ordinal, R_INTERVIEW_STARTED_ordinal, R_STAGE_RETRYING_ordinal⟩ := G
  have k_27 : Go p.tables e below (s₁.setTop (entryFrame m #[(.ref a_PIPELINE_STOPPED)] 1)) (s₁.setTop (mkF m 1 #[rv a_PIPELINE_STOPPED] [(.ref a_PIPELINE_STOPPED)])) := fun t q => by
    refine k0 t ?_
    refine XS.aloadN X0.here hx rfl (hb hby d1_0) rfl rfl ?_
    show Steps _ _ _ (s₁.setTop (mkF m 1 #[rv a_PIPELINE_STOPPED] [(.ref a_PIPELINE_STOPPED)])) _
    exact q
  obtain ⟨T28, X28, e28, st28⟩ := getS2 X0 hx hZ hown (host := "") (Or.inl (hw _ (wd 46 rfl))) Via.refl e0 (S_PIPELINE_COMPLETED.ext O0.2) (g := (mkF m 1 #[rv a_PIPELINE_STOPPED] [(.ref a_PIPELINE_STOPPED)])) rfl (hb hby d1_1)
  have k_29 : Go p.tables e below (s₁.setTop (entryFrame m #[(.ref a_PIPELINE_STOPPED)] 1)) (T28.setTop (mkF m 8 #[rv a_PIPELINE_STOPPED] [(.ref a_PIPELINE_STOPPED)])) := fun t q => by
    refine k_27 t ?_
    refine st28 _ ?_
    show Steps _ _ _ (T28.setTop (mkF m 4 #[rv a_PIPELINE_STOPPED] [(.ref a_PIPELINE_COMPLETED), (.ref a_PIPELINE_STOPPED)])) _
    refine Jvm.RoadKit.acmp (g := (mkF m 4 #[rv a_PIPELINE_STOPPED] [(.ref a_PIPELINE_COMPLETED), (.ref a_PIPELINE_STOPPED)])) X28 hx rfl rfl rfl (pc0 := 4) (pc' := 7) (same := false) rfl (hb hby d1_4) rfl (decide_eq_false fun q => (own_ne R_PIPELINE_STOPPED_ordinal R_PIPELINE_COMPLETED_ordinal (by decide)) (Value.ref.inj q)) (by decide) (by decide) ?_
    show Steps _ _ _ (T28.setTop (mkF m 7 #[rv a_PIPELINE_STOPPED] [])) _
    refine XS.aloadN X28.here hx rfl (hb hby d1_7) rfl rfl ?_
    show Steps _ _ _ (T28.setTop (mkF m 8 #[rv a_PIPELINE_STOPPED] [(.ref a_PIPELINE_STOPPED)])) _
    exact q
  obtain ⟨T30, X30, e30, st30⟩ := getS2 X28 hx hZ hown (host := "") (Or.inl (hw _ (wd 47 rfl))) Via.refl e28 (S_PIPELINE_FAILED.ext O0.2) (g := (mkF m 8 #[rv a_PIPELINE_STOPPED] [(.ref a_PIPELINE_STOPPED)])) rfl (hb hby d1_8)
  have k_31 : Go p.tables e below (s₁.setTop (entryFrame m #[(.ref a_PIPELINE_STOPPED)] 1)) (T30.setTop (mkF m 15 #[rv a_PIPELINE_STOPPED] [(.ref a_PIPELINE_STOPPED)])) := fun t q => by
    refine k_29 t ?_
    refine st30 _ ?_
    show Steps _ _ _ (T30.setTop (mkF m 11 #[rv a_PIPELINE_STOPPED] [(.ref a_PIPELINE_FAILED), (.ref a_PIPELINE_STOPPED)])) _
    refine Jvm.RoadKit.acmp (g := (mkF m 11 #[rv a_PIPELINE_STOPPED] [(.ref a_PIPELINE_FAILED), (.ref a_PIPELINE_STOPPED)])) X30 hx rfl rfl rfl (pc0 := 11) (pc' := 14) (same := false) rfl (hb hby d1_11) rfl (decide_eq_false fun q => (own_ne R_PIPELINE_STOPPED_ordinal R_PIPELINE_FAILED_ordinal (by decide)) (Value.ref.inj q)) (by decide) (by decide) ?_
    show Steps _ _ _ (T30.setTop (mkF m 14 #[rv a_PIPELINE_STOPPED] [])) _
    refine XS.aloadN X30.here hx rfl (hb hby d1_14) rfl rfl ?_
    show Steps _ _ _ (T30.setTop (mkF m 15 #[rv a_PIPELINE_STOPPED] [(.ref a_PIPELINE_STOPPED)])) _
    exact q
  obtain ⟨T32, X32, e32, st32⟩ := getS2 X30 hx hZ hown (host := "") (Or.inl (hw _ (wd 48 rfl))) Via.refl e30 (S_PIPELINE_STOPPED.ext O0.2) (g := (mkF m 15 #[rv a_PIPELINE_STOPPED] [(.ref a_PIPELINE_STOPPED)])) rfl (hb hby d1_15)
  have k_33 : Go p.tables e below (s₁.setTop (entryFrame m #[(.ref a_PIPELINE_STOPPED)] 1)) (T32.setTop (mkF m 33 #[rv a_PIPELINE_STOPPED] [(.int 1)])) := fun t q => by
    refine k_31 t ?_
    refine st32 _ ?_
    show Steps _ _ _ (T32.setTop (mkF m 18 #[rv a_PIPELINE_STOPPED] [(.ref a_PIPELINE_STOPPED), (.ref a_PIPELINE_STOPPED)])) _
    refine Jvm.RoadKit.acmp (g := (mkF m 18 #[rv a_PIPELINE_STOPPED] [(.ref a_PIPELINE_STOPPED), (.ref a_PIPELINE_STOPPED)])) X32 hx rfl rfl rfl (pc0 := 18) (pc' := 28) (same := true) rfl (hb hby d1_18) rfl (decide_eq_true rfl) (by decide) (by decide) ?_
    show Steps _ _ _ (T32.setTop (mkF m 28 #[rv a_PIPELINE_STOPPED] [])) _
    refine XS.iconst X32.here hx rfl (hb hby d1_28) ?_
    show Steps _ _ _ (T32.setTop (mkF m 29 #[rv a_PIPELINE_STOPPED] [(.int 1)])) _
    refine XS.goto X32.here hx rfl (pc0 := 29) (pc' := 33) rfl (hb hby d1_29) (by decide) (by decide) ?_
    show Steps _ _ _ (T32.setTop (mkF m 33 #[rv a_PIPELINE_STOPPED] [(.int 1)])) _
    exact q
  obtain ⟨fs, hr, hrun, hended, hW, hsame⟩ := X32.leave (v := some (.int 1)) (fun h => by rw [Bd.returns] at h; cases h)
  refine ⟨_, _, k_33 _ ?_, hrun, hended, _, _, rfl, ?_, ⟨_, rfl⟩, hW, hsame.mono (by decide) (by decide)⟩
  · exact retN X32 hx (t := .boolean) Bd.returns (by simp) (hb hby d1_33) hr
  · show QV (some (.int 1)) h0 n0 _ T32.heap _
    rw [e32]
    exact ⟨rfl, N0, rfl⟩
set_option maxRecDepth 65536 in
set_option maxHeartbeats 40000000 in
theorem ew_5 (l : Launch) (Z : State) (a0 : Array Value) (hw : ∀ d ∈ tables_1, d.before a0 Z = true) (ws : List Jvm.Cond) (a_PIPELINE_STARTED a_PIPELINE_RESUMED a_PIPELINE_COMPLETED a_PIPELINE_FAILED a_PIPELINE_STOPPED a_PIPELINE_CANCELLED a_STAGE_STARTED a_STAGE_COMPLETED a_STAGE_FAILED a_STAGE_RETRYING a_PARALLEL_STARTED a_PARALLEL_BRANCH_STARTED a_PARALLEL_BRANCH_COMPLETED a_PARALLEL_COMPLETED a_INTERVIEW_STARTED a_INTERVIEW_COMPLETED a_INTERVIEW_TIMEOUT a_CHECKPOINT_SAVED : Addr) (G : Own Z a_PIPELINE_STARTED a_PIPELINE_RESUMED a_PIPELINE_COMPLETED a_PIPELINE_FAILED a_PIPELINE_STOPPED a_PIPELINE_CANCELLED a_STAGE_STARTED a_STAGE_COMPLETED a_STAGE_FAILED a_STAGE_RETRYING a_PARALLEL_STARTED a_PARALLEL_BRANCH_STARTED a_PARALLEL_BRANCH_COMPLETED a_PARALLEL_COMPLETED a_INTERVIEW_STARTED a_INTERVIEW_COMPLETED a_INTERVIEW_TIMEOUT a_CHECKPOINT_SAVED)  (h0 : Heap) (n0 : Nat) (O0 : Old Z n0 h0)  :
    MetFree l y_0 (head1 (Jvm.Cond.code y_0 prog_29_method_7_code 1 (some .boolean) :: ws) ({ frames := 0, cells := 0, slots := 0, locals := 0 } : Room)) (fun a U => a = #[(.ref a_PIPELINE_CANCELLED)] ∧ Z.Warmed39 U.vm ∧ U.heap = h0) (fun _ _ _ _ _ => True) (fun _ U o U' => ∃ v L, o = .returned v ∧ QV (some (.int 1)) h0 n0 v U'.heap L ∧ FrameEnd U o U' L ({ frames := 0, cells := 0, slots := 0, locals := 0 } : Room).cells ({ frames := 0, cells := 0, slots := 0, locals := 0 } : Room).slots) := by
  refine MetFree.of_bodySF (plainFor_of_name pn_0) hisR ?_
  intro p e s m args below meth c s₁ Bd hml0 hP hK
  obtain ⟨rfl, hZ, hh⟩ := hP
  have hx := Bd.exec
  have hby := Bd.bytes
  have hml : c.maxLocals = 1 := hml0
  have hown : s.vm.findClass "com/example/theseus/theseus/engine/EventType" = some m.cls := findClass_of_methodNamed Bd.named
  have hnm := (name_of_methodNamed Bd.named Bd.method).1
  have X0 : Stand p l e ({ frames := 0, cells := 0, slots := 0, locals := 0 } : Room) s m #[(.ref a_PIPELINE_CANCELLED)] below meth c s₁ [] 0 0 := Stand.of_body Bd
  have e0 : s₁.heap = h0 := by rw [← hh, Bd.state]; rfl
  have N0 := Fr.nil n0
  have K0 := Keep.refl h0 []
  have k0 : Go p.tables e below (s₁.setTop (entryFrame m #[(.ref a_PIPELINE_CANCELLED)] 1)) (s₁.setTop (mkF m 0 #[rv a_PIPELINE_CANCELLED] [])) := fun t k => castTop (by first | rfl | (simp [entryFrame, mkF, argsToLocals, Value.category]; done)) k
  have ⟨S_PIPELINE_STARTED, E_PIPELINE_STARTED, S_PIPELINE_RESUMED, E_PIPELINE_RESUMED, S_PIPELINE_COMPLETED, E_PIPELINE_COMPLETED, S_PIPELINE_FAILED, E_PIPELINE_FAILED, S_PIPELINE_STOPPED, E_PIPELINE_STOPPED, S_PIPELINE_CANCELLED, E_PIPELINE_CANCELLED, S_STAGE_STARTED, E_STAGE_STARTED, S_STAGE_COMPLETED, E_STAGE_COMPLETED, S_STAGE_FAILED, E_STAGE_FAILED, S_STAGE_RETRYING, E_STAGE_RETRYING, S_PARALLEL_STARTED, E_PARALLEL_STARTED, S_PARALLEL_BRANCH_STARTED, E_PARALLEL_BRANCH_STARTED, S_PARALLEL_BRANCH_COMPLETED, E_PARALLEL_BRANCH_COMPLETED, S_PARALLEL_COMPLETED, E_PARALLEL_COMPLETED, S_INTERVIEW_STARTED, E_INTERVIEW_STARTED, S_INTERVIEW_COMPLETED, E_INTERVIEW_COMPLETED, S_INTERVIEW_TIMEOUT, E_INTERVIEW_TIMEOUT, S_CHECKPOINT_SAVED, E_CHECKPOINT_SAVED, R_PIPELINE_STARTED_ordinal, R_PIPELINE_COMPLETED_ordinal, R_PIPELINE_FAILED_ordinal, R_PIPELINE_STOPPED_ordinal, R_PIPELINE_CANCELLED_ordinal, R_PIPELINE_RESUMED_ordinal, R_STAGE_COMPLETED_ordinal, R_PARALLEL_BRANCH_STARTED_ordinal, R_STAGE_FAILED_ordinal, R_PARALLEL_BRANCH_COMPLETED_ordinal, R_INTERVIEW_TIMEOUT_ordinal, R_INTERVIEW_COMPLETED_ordinal, R_PARALLEL_STARTED_ordinal, R_PARALLEL_COMPLETED_ordinal, R_STAGE_STARTED_ordinal, R_CHECKPOINT_SAVED_ordinal, R_INTERVIEW_STARTED_ordinal, R_STAGE_RETRYING_ordinal⟩ := G
  have k_34 : Go p.tables e below (s₁.setTop (entryFrame m #[(.ref a_PIPELINE_CANCELLED)] 1)) (s₁.setTop (mkF m 1 #[rv a_PIPELINE_CANCELLED] [(.ref a_PIPELINE_CANCELLED)])) := fun t q => by
    refine k0 t ?_
    refine XS.aloadN X0.here hx rfl (hb hby d1_0) rfl rfl ?_
    show Steps _ _ _ (s₁.setTop (mkF m 1 #[rv a_PIPELINE_CANCELLED] [(.ref a_PIPELINE_CANCELLED)])) _
    exact q
  obtain ⟨T35, X35, e35, st35⟩ := getS2 X0 hx hZ hown (host := "") (Or.inl (hw _ (wd 46 rfl))) Via.refl e0 (S_PIPELINE_COMPLETED.ext O0.2) (g := (mkF m 1 #[rv a_PIPELINE_CANCELLED] [(.ref a_PIPELINE_CANCELLED)])) rfl (hb hby d1_1)
  have k_36 : Go p.tables e below (s₁.setTop (entryFrame m #[(.ref a_PIPELINE_CANCELLED)] 1)) (T35.setTop (mkF m 8 #[rv a_PIPELINE_CANCELLED] [(.ref a_PIPELINE_CANCELLED)])) := fun t q => by
    refine k_34 t ?_
    refine st35 _ ?_
    show Steps _ _ _ (T35.setTop (mkF m 4 #[rv a_PIPELINE_CANCELLED] [(.ref a_PIPELINE_COMPLETED), (.ref a_PIPELINE_CANCELLED)])) _
    refine Jvm.RoadKit.acmp (g := (mkF m 4 #[rv a_PIPELINE_CANCELLED] [(.ref a_PIPELINE_COMPLETED), (.ref a_PIPELINE_CANCELLED)])) X35 hx rfl rfl rfl (pc0 := 4) (pc' := 7) (same := false) rfl (hb hby d1_4) rfl (decide_eq_false fun q => (own_ne R_PIPELINE_CANCELLED_ordinal R_PIPELINE_COMPLETED_ordinal (by decide)) (Value.ref.inj q)) (by decide) (by decide) ?_
    show Steps _ _ _ (T35.setTop (mkF m 7 #[rv a_PIPELINE_CANCELLED] [])) _
    refine XS.aloadN X35.here hx rfl (hb hby d1_7) rfl rfl ?_
    show Steps _ _ _ (T35.setTop (mkF m 8 #[rv a_PIPELINE_CANCELLED] [(.ref a_PIPELINE_CANCELLED)])) _
    exact q
  obtain ⟨T37, X37, e37, st37⟩ := getS2 X35 hx hZ hown (host := "") (Or.inl (hw _ (wd 47 rfl))) Via.refl e35 (S_PIPELINE_FAILED.ext O0.2) (g := (mkF m 8 #[rv a_PIPELINE_CANCELLED] [(.ref a_PIPELINE_CANCELLED)])) rfl (hb hby d1_8)
  have k_38 : Go p.tables e below (s₁.setTop (entryFrame m #[(.ref a_PIPELINE_CANCELLED)] 1)) (T37.setTop (mkF m 15 #[rv a_PIPELINE_CANCELLED] [(.ref a_PIPELINE_CANCELLED)])) := fun t q => by
    refine k_36 t ?_
    refine st37 _ ?_
    show Steps _ _ _ (T37.setTop (mkF m 11 #[rv a_PIPELINE_CANCELLED] [(.ref a_PIPELINE_FAILED), (.ref a_PIPELINE_CANCELLED)])) _
    refine Jvm.RoadKit.acmp (g := (mkF m 11 #[rv a_PIPELINE_CANCELLED] [(.ref a_PIPELINE_FAILED), (.ref a_PIPELINE_CANCELLED)])) X37 hx rfl rfl rfl (pc0 := 11) (pc' := 14) (same := false) rfl (hb hby d1_11) rfl (decide_eq_false fun q => (own_ne R_PIPELINE_CANCELLED_ordinal R_PIPELINE_FAILED_ordinal (by decide)) (Value.ref.inj q)) (by decide) (by decide) ?_
    show Steps _ _ _ (T37.setTop (mkF m 14 #[rv a_PIPELINE_CANCELLED] [])) _
    refine XS.aloadN X37.here hx rfl (hb hby d1_14) rfl rfl ?_
    show Steps _ _ _ (T37.setTop (mkF m 15 #[rv a_PIPELINE_CANCELLED] [(.ref a_PIPELINE_CANCELLED)])) _
    exact q
  obtain ⟨T39, X39, e39, st39⟩ := getS2 X37 hx hZ hown (host := "") (Or.inl (hw _ (wd 48 rfl))) Via.refl e37 (S_PIPELINE_STOPPED.ext O0.2) (g := (mkF m 15 #[rv a_PIPELINE_CANCELLED] [(.ref a_PIPELINE_CANCELLED)])) rfl (hb hby d1_15)
  have k_40 : Go p.tables e below (s₁.setTop (entryFrame m #[(.ref a_PIPELINE_CANCELLED)] 1)) (T39.setTop (mkF m 22 #[rv a_PIPELINE_CANCELLED] [(.ref a_PIPELINE_CANCELLED)])) := fun t q => by
    refine k_38 t ?_
    refine st39 _ ?_
    show Steps _ _ _ (T39.setTop (mkF m 18 #[rv a_PIPELINE_CANCELLED] [(.ref a_PIPELINE_STOPPED), (.ref a_PIPELINE_CANCELLED)])) _
    refine Jvm.RoadKit.acmp (g := (mkF m 18 #[rv a_PIPELINE_CANCELLED] [(.ref a_PIPELINE_STOPPED), (.ref a_PIPELINE_CANCELLED)])) X39 hx rfl rfl rfl (pc0 := 18) (pc' := 21) (same := false) rfl (hb hby d1_18) rfl (decide_eq_false fun q => (own_ne R_PIPELINE_CANCELLED_ordinal R_PIPELINE_STOPPED_ordinal (by decide)) (Value.ref.inj q)) (by decide) (by decide) ?_
    show Steps _ _ _ (T39.setTop (mkF m 21 #[rv a_PIPELINE_CANCELLED] [])) _
    refine XS.aloadN X39.here hx rfl (hb hby d1_21) rfl rfl ?_
    show Steps _ _ _ (T39.setTop (mkF m 22 #[rv a_PIPELINE_CANCELLED] [(.ref a_PIPELINE_CANCELLED)])) _
    exact q
  obtain ⟨T41, X41, e41, st41⟩ := getS2 X39 hx hZ hown (host := "") (Or.inl (hw _ (wd 49 rfl))) Via.refl e39 (S_PIPELINE_CANCELLED.ext O0.2) (g := (mkF m 22 #[rv a_PIPELINE_CANCELLED] [(.ref a_PIPELINE_CANCELLED)])) rfl (hb hby d1_22)
  have k_42 : Go p.tables e below (s₁.setTop (entryFrame m #[(.ref a_PIPELINE_CANCELLED)] 1)) (T41.setTop (mkF m 33 #[rv a_PIPELINE_CANCELLED] [(.int 1)])) := fun t q => by
    refine k_40 t ?_
    refine st41 _ ?_
    show Steps _ _ _ (T41.setTop (mkF m 25 #[rv a_PIPELINE_CANCELLED] [(.ref a_PIPELINE_CANCELLED), (.ref a_PIPELINE_CANCELLED)])) _
    refine Jvm.RoadKit.acmp (g := (mkF m 25 #[rv a_PIPELINE_CANCELLED] [(.ref a_PIPELINE_CANCELLED), (.ref a_PIPELINE_CANCELLED)])) X41 hx rfl rfl rfl (pc0 := 25) (pc' := 28) (same := true) rfl (hb hby d1_25) rfl (decide_eq_true rfl) (by decide) (by decide) ?_
    show Steps _ _ _ (T41.setTop (mkF m 28 #[rv a_PIPELINE_CANCELLED] [])) _
    refine XS.iconst X41.here hx rfl (hb hby d1_28) ?_
    show Steps _ _ _ (T41.setTop (mkF m 29 #[rv a_PIPELINE_CANCELLED] [(.int 1)])) _
    refine XS.goto X41.here hx rfl (pc0 := 29) (pc' := 33) rfl (hb hby d1_29) (by decide) (by decide) ?_
    show Steps _ _ _ (T41.setTop (mkF m 33 #[rv a_PIPELINE_CANCELLED] [(.int 1)])) _
    exact q
  obtain ⟨fs, hr, hrun, hended, hW, hsame⟩ := X41.leave (v := some (.int 1)) (fun h => by rw [Bd.returns] at h; cases h)
  refine ⟨_, _, k_42 _ ?_, hrun, hended, _, _, rfl, ?_, ⟨_, rfl⟩, hW, hsame.mono (by decide) (by decide)⟩
  · exact retN X41 hx (t := .boolean) Bd.returns (by simp) (hb hby d1_33) hr
  · show QV (some (.int 1)) h0 n0 _ T41.heap _
    rw [e41]
    exact ⟨rfl, N0, rfl⟩
set_option maxRecDepth 65536 in
set_option maxHeartbeats 40000000 in
theorem ew_6 (l : Launch) (Z : State) (a0 : Array Value) (hw : ∀ d ∈ tables_1, d.before a0 Z = true) (ws : List Jvm.Cond) (a_PIPELINE_STARTED a_PIPELINE_RESUMED a_PIPELINE_COMPLETED a_PIPELINE_FAILED a_PIPELINE_STOPPED a_PIPELINE_CANCELLED a_STAGE_STARTED a_STAGE_COMPLETED a_STAGE_FAILED a_STAGE_RETRYING a_PARALLEL_STARTED a_PARALLEL_BRANCH_STARTED a_PARALLEL_BRANCH_COMPLETED a_PARALLEL_COMPLETED a_INTERVIEW_STARTED a_INTERVIEW_COMPLETED a_INTERVIEW_TIMEOUT a_CHECKPOINT_SAVED : Addr) (G : Own Z a_PIPELINE_STARTED a_PIPELINE_RESUMED a_PIPELINE_COMPLETED a_PIPELINE_FAILED a_PIPELINE_STOPPED a_PIPELINE_CANCELLED a_STAGE_STARTED a_STAGE_COMPLETED a_STAGE_FAILED a_STAGE_RETRYING a_PARALLEL_STARTED a_PARALLEL_BRANCH_STARTED a_PARALLEL_BRANCH_COMPLETED a_PARALLEL_COMPLETED a_INTERVIEW_STARTED a_INTERVIEW_COMPLETED a_INTERVIEW_TIMEOUT a_CHECKPOINT_SAVED)  (h0 : Heap) (n0 : Nat) (O0 : Old Z n0 h0)  :
    MetFree l y_0 (head1 (Jvm.Cond.code y_0 prog_29_method_7_code 1 (some .boolean) :: ws) ({ frames := 0, cells := 0, slots := 0, locals := 0 } : Room)) (fun a U => a = #[(.ref a_STAGE_STARTED)] ∧ Z.Warmed39 U.vm ∧ U.heap = h0) (fun _ _ _ _ _ => True) (fun _ U o U' => ∃ v L, o = .returned v ∧ QV (some (.int 0)) h0 n0 v U'.heap L ∧ FrameEnd U o U' L ({ frames := 0, cells := 0, slots := 0, locals := 0 } : Room).cells ({ frames := 0, cells := 0, slots := 0, locals := 0 } : Room).slots) := by
  refine MetFree.of_bodySF (plainFor_of_name pn_0) hisR ?_
  intro p e s m args below meth c s₁ Bd hml0 hP hK
  obtain ⟨rfl, hZ, hh⟩ := hP
  have hx := Bd.exec
  have hby := Bd.bytes
  have hml : c.maxLocals = 1 := hml0
  have hown : s.vm.findClass "com/example/theseus/theseus/engine/EventType" = some m.cls := findClass_of_methodNamed Bd.named
  have hnm := (name_of_methodNamed Bd.named Bd.method).1
  have X0 : Stand p l e ({ frames := 0, cells := 0, slots := 0, locals := 0 } : Room) s m #[(.ref a_STAGE_STARTED)] below meth c s₁ [] 0 0 := Stand.of_body Bd
  have e0 : s₁.heap = h0 := by rw [← hh, Bd.state]; rfl
  have N0 := Fr.nil n0
  have K0 := Keep.refl h0 []
  have k0 : Go p.tables e below (s₁.setTop (entryFrame m #[(.ref a_STAGE_STARTED)] 1)) (s₁.setTop (mkF m 0 #[rv a_STAGE_STARTED] [])) := fun t k => castTop (by first | rfl | (simp [entryFrame, mkF, argsToLocals, Value.category]; done)) k
  have ⟨S_PIPELINE_STARTED, E_PIPELINE_STARTED, S_PIPELINE_RESUMED, E_PIPELINE_RESUMED, S_PIPELINE_COMPLETED, E_PIPELINE_COMPLETED, S_PIPELINE_FAILED, E_PIPELINE_FAILED, S_PIPELINE_STOPPED, E_PIPELINE_STOPPED, S_PIPELINE_CANCELLED, E_PIPELINE_CANCELLED, S_STAGE_STARTED, E_STAGE_STARTED, S_STAGE_COMPLETED, E_STAGE_COMPLETED, S_STAGE_FAILED, E_STAGE_FAILED, S_STAGE_RETRYING, E_STAGE_RETRYING, S_PARALLEL_STARTED, E_PARALLEL_STARTED, S_PARALLEL_BRANCH_STARTED, E_PARALLEL_BRANCH_STARTED, S_PARALLEL_BRANCH_COMPLETED, E_PARALLEL_BRANCH_COMPLETED, S_PARALLEL_COMPLETED, E_PARALLEL_COMPLETED, S_INTERVIEW_STARTED, E_INTERVIEW_STARTED, S_INTERVIEW_COMPLETED, E_INTERVIEW_COMPLETED, S_INTERVIEW_TIMEOUT, E_INTERVIEW_TIMEOUT, S_CHECKPOINT_SAVED, E_CHECKPOINT_SAVED, R_PIPELINE_STARTED_ordinal, R_PIPELINE_COMPLETED_ordinal, R_PIPELINE_FAILED_ordinal, R_PIPELINE_STOPPED_ordinal, R_PIPELINE_CANCELLED_ordinal, R_PIPELINE_RESUMED_ordinal, R_STAGE_COMPLETED_ordinal, R_PARALLEL_BRANCH_STARTED_ordinal, R_STAGE_FAILED_ordinal, R_PARALLEL_BRANCH_COMPLETED_ordinal, R_INTERVIEW_TIMEOUT_ordinal, R_INTERVIEW_COMPLETED_ordinal, R_PARALLEL_STARTED_ordinal, R_PARALLEL_COMPLETED_ordinal, R_STAGE_STARTED_ordinal, R_CHECKPOINT_SAVED_ordinal, R_INTERVIEW_STARTED_ordinal, R_STAGE_RETRYING_ordinal⟩ := G
  have k_43 : Go p.tables e below (s₁.setTop (entryFrame m #[(.ref a_STAGE_STARTED)] 1)) (s₁.setTop (mkF m 1 #[rv a_STAGE_STARTED] [(.ref a_STAGE_STARTED)])) := fun t q => by
    refine k0 t ?_
    refine XS.aloadN X0.here hx rfl (hb hby d1_0) rfl rfl ?_
    show Steps _ _ _ (s₁.setTop (mkF m 1 #[rv a_STAGE_STARTED] [(.ref a_STAGE_STARTED)])) _
    exact q
  obtain ⟨T44, X44, e44, st44⟩ := getS2 X0 hx hZ hown (host := "") (Or.inl (hw _ (wd 46 rfl))) Via.refl e0 (S_PIPELINE_COMPLETED.ext O0.2) (g := (mkF m 1 #[rv a_STAGE_STARTED] [(.ref a_STAGE_STARTED)])) rfl (hb hby d1_1)
  have k_45 : Go p.tables e below (s₁.setTop (entryFrame m #[(.ref a_STAGE_STARTED)] 1)) (T44.setTop (mkF m 8 #[rv a_STAGE_STARTED] [(.ref a_STAGE_STARTED)])) := fun t q => by
    refine k_43 t ?_
    refine st44 _ ?_
    show Steps _ _ _ (T44.setTop (mkF m 4 #[rv a_STAGE_STARTED] [(.ref a_PIPELINE_COMPLETED), (.ref a_STAGE_STARTED)])) _
    refine Jvm.RoadKit.acmp (g := (mkF m 4 #[rv a_STAGE_STARTED] [(.ref a_PIPELINE_COMPLETED), (.ref a_STAGE_STARTED)])) X44 hx rfl rfl rfl (pc0 := 4) (pc' := 7) (same := false) rfl (hb hby d1_4) rfl (decide_eq_false fun q => (own_ne R_STAGE_STARTED_ordinal R_PIPELINE_COMPLETED_ordinal (by decide)) (Value.ref.inj q)) (by decide) (by decide) ?_
    show Steps _ _ _ (T44.setTop (mkF m 7 #[rv a_STAGE_STARTED] [])) _
    refine XS.aloadN X44.here hx rfl (hb hby d1_7) rfl rfl ?_
    show Steps _ _ _ (T44.setTop (mkF m 8 #[rv a_STAGE_STARTED] [(.ref a_STAGE_STARTED)])) _
    exact q
  obtain ⟨T46, X46, e46, st46⟩ := getS2 X44 hx hZ hown (host := "") (Or.inl (hw _ (wd 47 rfl))) Via.refl e44 (S_PIPELINE_FAILED.ext O0.2) (g := (mkF m 8 #[rv a_STAGE_STARTED] [(.ref a_STAGE_STARTED)])) rfl (hb hby d1_8)
  have k_47 : Go p.tables e below (s₁.setTop (entryFrame m #[(.ref a_STAGE_STARTED)] 1)) (T46.setTop (mkF m 15 #[rv a_STAGE_STARTED] [(.ref a_STAGE_STARTED)])) := fun t q => by
    refine k_45 t ?_
    refine st46 _ ?_
    show Steps _ _ _ (T46.setTop (mkF m 11 #[rv a_STAGE_STARTED] [(.ref a_PIPELINE_FAILED), (.ref a_STAGE_STARTED)])) _
    refine Jvm.RoadKit.acmp (g := (mkF m 11 #[rv a_STAGE_STARTED] [(.ref a_PIPELINE_FAILED), (.ref a_STAGE_STARTED)])) X46 hx rfl rfl rfl (pc0 := 11) (pc' := 14) (same := false) rfl (hb hby d1_11) rfl (decide_eq_false fun q => (own_ne R_STAGE_STARTED_ordinal R_PIPELINE_FAILED_ordinal (by decide)) (Value.ref.inj q)) (by decide) (by decide) ?_
    show Steps _ _ _ (T46.setTop (mkF m 14 #[rv a_STAGE_STARTED] [])) _
    refine XS.aloadN X46.here hx rfl (hb hby d1_14) rfl rfl ?_
    show Steps _ _ _ (T46.setTop (mkF m 15 #[rv a_STAGE_STARTED] [(.ref a_STAGE_STARTED)])) _
    exact q
  obtain ⟨T48, X48, e48, st48⟩ := getS2 X46 hx hZ hown (host := "") (Or.inl (hw _ (wd 48 rfl))) Via.refl e46 (S_PIPELINE_STOPPED.ext O0.2) (g := (mkF m 15 #[rv a_STAGE_STARTED] [(.ref a_STAGE_STARTED)])) rfl (hb hby d1_15)
  have k_49 : Go p.tables e below (s₁.setTop (entryFrame m #[(.ref a_STAGE_STARTED)] 1)) (T48.setTop (mkF m 22 #[rv a_STAGE_STARTED] [(.ref a_STAGE_STARTED)])) := fun t q => by
    refine k_47 t ?_
    refine st48 _ ?_
    show Steps _ _ _ (T48.setTop (mkF m 18 #[rv a_STAGE_STARTED] [(.ref a_PIPELINE_STOPPED), (.ref a_STAGE_STARTED)])) _
    refine Jvm.RoadKit.acmp (g := (mkF m 18 #[rv a_STAGE_STARTED] [(.ref a_PIPELINE_STOPPED), (.ref a_STAGE_STARTED)])) X48 hx rfl rfl rfl (pc0 := 18) (pc' := 21) (same := false) rfl (hb hby d1_18) rfl (decide_eq_false fun q => (own_ne R_STAGE_STARTED_ordinal R_PIPELINE_STOPPED_ordinal (by decide)) (Value.ref.inj q)) (by decide) (by decide) ?_
    show Steps _ _ _ (T48.setTop (mkF m 21 #[rv a_STAGE_STARTED] [])) _
    refine XS.aloadN X48.here hx rfl (hb hby d1_21) rfl rfl ?_
    show Steps _ _ _ (T48.setTop (mkF m 22 #[rv a_STAGE_STARTED] [(.ref a_STAGE_STARTED)])) _
    exact q
  obtain ⟨T50, X50, e50, st50⟩ := getS2 X48 hx hZ hown (host := "") (Or.inl (hw _ (wd 49 rfl))) Via.refl e48 (S_PIPELINE_CANCELLED.ext O0.2) (g := (mkF m 22 #[rv a_STAGE_STARTED] [(.ref a_STAGE_STARTED)])) rfl (hb hby d1_22)
  have k_51 : Go p.tables e below (s₁.setTop (entryFrame m #[(.ref a_STAGE_STARTED)] 1)) (T50.setTop (mkF m 33 #[rv a_STAGE_STARTED] [(.int 0)])) := fun t q => by
    refine k_49 t ?_
    refine st50 _ ?_
    show Steps _ _ _ (T50.setTop (mkF m 25 #[rv a_STAGE_STARTED] [(.ref a_PIPELINE_CANCELLED), (.ref a_STAGE_STARTED)])) _
    refine Jvm.RoadKit.acmp (g := (mkF m 25 #[rv a_STAGE_STARTED] [(.ref a_PIPELINE_CANCELLED), (.ref a_STAGE_STARTED)])) X50 hx rfl rfl rfl (pc0 := 25) (pc' := 32) (same := false) rfl (hb hby d1_25) rfl (decide_eq_false fun q => (own_ne R_STAGE_STARTED_ordinal R_PIPELINE_CANCELLED_ordinal (by decide)) (Value.ref.inj q)) (by decide) (by decide) ?_
    show Steps _ _ _ (T50.setTop (mkF m 32 #[rv a_STAGE_STARTED] [])) _
    refine XS.iconst X50.here hx rfl (hb hby d1_32) ?_
    show Steps _ _ _ (T50.setTop (mkF m 33 #[rv a_STAGE_STARTED] [(.int 0)])) _
    exact q
  obtain ⟨fs, hr, hrun, hended, hW, hsame⟩ := X50.leave (v := some (.int 0)) (fun h => by rw [Bd.returns] at h; cases h)
  refine ⟨_, _, k_51 _ ?_, hrun, hended, _, _, rfl, ?_, ⟨_, rfl⟩, hW, hsame.mono (by decide) (by decide)⟩
  · exact retN X50 hx (t := .boolean) Bd.returns (by simp) (hb hby d1_33) hr
  · show QV (some (.int 0)) h0 n0 _ T50.heap _
    rw [e50]
    exact ⟨rfl, N0, rfl⟩
set_option maxRecDepth 65536 in
set_option maxHeartbeats 40000000 in
theorem ew_7 (l : Launch) (Z : State) (a0 : Array Value) (hw : ∀ d ∈ tables_1, d.before a0 Z = true) (ws : List Jvm.Cond) (a_PIPELINE_STARTED a_PIPELINE_RESUMED a_PIPELINE_COMPLETED a_PIPELINE_FAILED a_PIPELINE_STOPPED a_PIPELINE_CANCELLED a_STAGE_STARTED a_STAGE_COMPLETED a_STAGE_FAILED a_STAGE_RETRYING a_PARALLEL_STARTED a_PARALLEL_BRANCH_STARTED a_PARALLEL_BRANCH_COMPLETED a_PARALLEL_COMPLETED a_INTERVIEW_STARTED a_INTERVIEW_COMPLETED a_INTERVIEW_TIMEOUT a_CHECKPOINT_SAVED : Addr) (G : Own Z a_PIPELINE_STARTED a_PIPELINE_RESUMED a_PIPELINE_COMPLETED a_PIPELINE_FAILED a_PIPELINE_STOPPED a_PIPELINE_CANCELLED a_STAGE_STARTED a_STAGE_COMPLETED a_STAGE_FAILED a_STAGE_RETRYING a_PARALLEL_STARTED a_PARALLEL_BRANCH_STARTED a_PARALLEL_BRANCH_COMPLETED a_PARALLEL_COMPLETED a_INTERVIEW_STARTED a_INTERVIEW_COMPLETED a_INTERVIEW_TIMEOUT a_CHECKPOINT_SAVED)  (h0 : Heap) (n0 : Nat) (O0 : Old Z n0 h0)  :
    MetFree l y_0 (head1 (Jvm.Cond.code y_0 prog_29_method_7_code 1 (some .boolean) :: ws) ({ frames := 0, cells := 0, slots := 0, locals := 0 } : Room)) (fun a U => a = #[(.ref a_STAGE_COMPLETED)] ∧ Z.Warmed39 U.vm ∧ U.heap = h0) (fun _ _ _ _ _ => True) (fun _ U o U' => ∃ v L, o = .returned v ∧ QV (some (.int 0)) h0 n0 v U'.heap L ∧ FrameEnd U o U' L ({ frames := 0, cells := 0, slots := 0, locals := 0 } : Room).cells ({ frames := 0, cells := 0, slots := 0, locals := 0 } : Room).slots) := by
  refine MetFree.of_bodySF (plainFor_of_name pn_0) hisR ?_
  intro p e s m args below meth c s₁ Bd hml0 hP hK
  obtain ⟨rfl, hZ, hh⟩ := hP
  have hx := Bd.exec
  have hby := Bd.bytes
  have hml : c.maxLocals = 1 := hml0
  have hown : s.vm.findClass "com/example/theseus/theseus/engine/EventType" = some m.cls := findClass_of_methodNamed Bd.named
  have hnm := (name_of_methodNamed Bd.named Bd.method).1
  have X0 : Stand p l e ({ frames := 0, cells := 0, slots := 0, locals := 0 } : Room) s m #[(.ref a_STAGE_COMPLETED)] below meth c s₁ [] 0 0 := Stand.of_body Bd
  have e0 : s₁.heap = h0 := by rw [← hh, Bd.state]; rfl
  have N0 := Fr.nil n0
  have K0 := Keep.refl h0 []
  have k0 : Go p.tables e below (s₁.setTop (entryFrame m #[(.ref a_STAGE_COMPLETED)] 1)) (s₁.setTop (mkF m 0 #[rv a_STAGE_COMPLETED] [])) := fun t k => castTop (by first | rfl | (simp [entryFrame, mkF, argsToLocals, Value.category]; done)) k
  have ⟨S_PIPELINE_STARTED, E_PIPELINE_STARTED, S_PIPELINE_RESUMED, E_PIPELINE_RESUMED, S_PIPELINE_COMPLETED, E_PIPELINE_COMPLETED, S_PIPELINE_FAILED, E_PIPELINE_FAILED, S_PIPELINE_STOPPED, E_PIPELINE_STOPPED, S_PIPELINE_CANCELLED, E_PIPELINE_CANCELLED, S_STAGE_STARTED, E_STAGE_STARTED, S_STAGE_COMPLETED, E_STAGE_COMPLETED, S_STAGE_FAILED, E_STAGE_FAILED, S_STAGE_RETRYING, E_STAGE_RETRYING, S_PARALLEL_STARTED, E_PARALLEL_STARTED, S_PARALLEL_BRANCH_STARTED, E_PARALLEL_BRANCH_STARTED, S_PARALLEL_BRANCH_COMPLETED, E_PARALLEL_BRANCH_COMPLETED, S_PARALLEL_COMPLETED, E_PARALLEL_COMPLETED, S_INTERVIEW_STARTED, E_INTERVIEW_STARTED, S_INTERVIEW_COMPLETED, E_INTERVIEW_COMPLETED, S_INTERVIEW_TIMEOUT, E_INTERVIEW_TIMEOUT, S_CHECKPOINT_SAVED, E_CHECKPOINT_SAVED, R_PIPELINE_STARTED_ordinal, R_PIPELINE_COMPLETED_ordinal, R_PIPELINE_FAILED_ordinal, R_PIPELINE_STOPPED_ordinal, R_PIPELINE_CANCELLED_ordinal, R_PIPELINE_RESUMED_ordinal, R_STAGE_COMPLETED_ordinal, R_PARALLEL_BRANCH_STARTED_ordinal, R_STAGE_FAILED_ordinal, R_PARALLEL_BRANCH_COMPLETED_ordinal, R_INTERVIEW_TIMEOUT_ordinal, R_INTERVIEW_COMPLETED_ordinal, R_PARALLEL_STARTED_ordinal, R_PARALLEL_COMPLETED_ordinal, R_STAGE_STARTED_ordinal, R_CHECKPOINT_SAVED_ordinal, R_INTERVIEW_STARTED_ordinal, R_STAGE_RETRYING_ordinal⟩ := G
  have k_52 : Go p.tables e below (s₁.setTop (entryFrame m #[(.ref a_STAGE_COMPLETED)] 1)) (s₁.setTop (mkF m 1 #[rv a_STAGE_COMPLETED] [(.ref a_STAGE_COMPLETED)])) := fun t q => by
    refine k0 t ?_
    refine XS.aloadN X0.here hx rfl (hb hby d1_0) rfl rfl ?_
    show Steps _ _ _ (s₁.setTop (mkF m 1 #[rv a_STAGE_COMPLETED] [(.ref a_STAGE_COMPLETED)])) _
    exact q
  obtain ⟨T53, X53, e53, st53⟩ := getS2 X0 hx hZ hown (host := "") (Or.inl (hw _ (wd 46 rfl))) Via.refl e0 (S_PIPELINE_COMPLETED.ext O0.2) (g := (mkF m 1 #[rv a_STAGE_COMPLETED] [(.ref a_STAGE_COMPLETED)])) rfl (hb hby d1_1)
  have k_54 : Go p.tables e below (s₁.setTop (entryFrame m #[(.ref a_STAGE_COMPLETED)] 1)) (T53.setTop (mkF m 8 #[rv a_STAGE_COMPLETED] [(.ref a_STAGE_COMPLETED)])) := fun t q => by
    refine k_52 t ?_
    refine st53 _ ?_
    show Steps _ _ _ (T53.setTop (mkF m 4 #[rv a_STAGE_COMPLETED] [(.ref a_PIPELINE_COMPLETED), (.ref a_STAGE_COMPLETED)])) _
    refine Jvm.RoadKit.acmp (g := (mkF m 4 #[rv a_STAGE_COMPLETED] [(.ref a_PIPELINE_COMPLETED), (.ref a_STAGE_COMPLETED)])) X53 hx rfl rfl rfl (pc0 := 4) (pc' := 7) (same := false) rfl (hb hby d1_4) rfl (decide_eq_false fun q => (own_ne R_STAGE_COMPLETED_ordinal R_PIPELINE_COMPLETED_ordinal (by decide)) (Value.ref.inj q)) (by decide) (by decide) ?_
    show Steps _ _ _ (T53.setTop (mkF m 7 #[rv a_STAGE_COMPLETED] [])) _
    refine XS.aloadN X53.here hx rfl (hb hby d1_7) rfl rfl ?_
    show Steps _ _ _ (T53.setTop (mkF m 8 #[rv a_STAGE_COMPLETED] [(.ref a_STAGE_COMPLETED)])) _
    exact q
  obtain ⟨T55, X55, e55, st55⟩ := getS2 X53 hx hZ hown (host := "") (Or.inl (hw _ (wd 47 rfl))) Via.refl e53 (S_PIPELINE_FAILED.ext O0.2) (g := (mkF m 8 #[rv a_STAGE_COMPLETED] [(.ref a_STAGE_COMPLETED)])) rfl (hb hby d1_8)
  have k_56 : Go p.tables e below (s₁.setTop (entryFrame m #[(.ref a_STAGE_COMPLETED)] 1)) (T55.setTop (mkF m 15 #[rv a_STAGE_COMPLETED] [(.ref a_STAGE_COMPLETED)])) := fun t q => by
    refine k_54 t ?_
    refine st55 _ ?_
    show Steps _ _ _ (T55.setTop (mkF m 11 #[rv a_STAGE_COMPLETED] [(.ref a_PIPELINE_FAILED), (.ref a_STAGE_COMPLETED)])) _
    refine Jvm.RoadKit.acmp (g := (mkF m 11 #[rv a_STAGE_COMPLETED] [(.ref a_PIPELINE_FAILED), (.ref a_STAGE_COMPLETED)])) X55 hx rfl rfl rfl (pc0 := 11) (pc' := 14) (same := false) rfl (hb hby d1_11) rfl (decide_eq_false fun q => (own_ne R_STAGE_COMPLETED_ordinal R_PIPELINE_FAILED_ordinal (by decide)) (Value.ref.inj q)) (by decide) (by decide) ?_
    show Steps _ _ _ (T55.setTop (mkF m 14 #[rv a_STAGE_COMPLETED] [])) _
    refine XS.aloadN X55.here hx rfl (hb hby d1_14) rfl rfl ?_
    show Steps _ _ _ (T55.setTop (mkF m 15 #[rv a_STAGE_COMPLETED] [(.ref a_STAGE_COMPLETED)])) _
    exact q
  obtain ⟨T57, X57, e57, st57⟩ := getS2 X55 hx hZ hown (host := "") (Or.inl (hw _ (wd 48 rfl))) Via.refl e55 (S_PIPELINE_STOPPED.ext O0.2) (g := (mkF m 15 #[rv a_STAGE_COMPLETED] [(.ref a_STAGE_COMPLETED)])) rfl (hb hby d1_15)
  have k_58 : Go p.tables e below (s₁.setTop (entryFrame m #[(.ref a_STAGE_COMPLETED)] 1)) (T57.setTop (mkF m 22 #[rv a_STAGE_COMPLETED] [(.ref a_STAGE_COMPLETED)])) := fun t q => by
    refine k_56 t ?_
    refine st57 _ ?_
    show Steps _ _ _ (T57.setTop (mkF m 18 #[rv a_STAGE_COMPLETED] [(.ref a_PIPELINE_STOPPED), (.ref a_STAGE_COMPLETED)])) _
    refine Jvm.RoadKit.acmp (g := (mkF m 18 #[rv a_STAGE_COMPLETED] [(.ref a_PIPELINE_STOPPED), (.ref a_STAGE_COMPLETED)])) X57 hx rfl rfl rfl (pc0 := 18) (pc' := 21) (same := false) rfl (hb hby d1_18) rfl (decide_eq_false fun q => (own_ne R_STAGE_COMPLETED_ordinal R_PIPELINE_STOPPED_ordinal (by decide)) (Value.ref.inj q)) (by decide) (by decide) ?_
    show Steps _ _ _ (T57.setTop (mkF m 21 #[rv a_STAGE_COMPLETED] [])) _
    refine XS.aloadN X57.here hx rfl (hb hby d1_21) rfl rfl ?_
    show Steps _ _ _ (T57.setTop (mkF m 22 #[rv a_STAGE_COMPLETED] [(.ref a_STAGE_COMPLETED)])) _
    exact q
  obtain ⟨T59, X59, e59, st59⟩ := getS2 X57 hx hZ hown (host := "") (Or.inl (hw _ (wd 49 rfl))) Via.refl e57 (S_PIPELINE_CANCELLED.ext O0.2) (g := (mkF m 22 #[rv a_STAGE_COMPLETED] [(.ref a_STAGE_COMPLETED)])) rfl (hb hby d1_22)
  have k_60 : Go p.tables e below (s₁.setTop (entryFrame m #[(.ref a_STAGE_COMPLETED)] 1)) (T59.setTop (mkF m 33 #[rv a_STAGE_COMPLETED] [(.int 0)])) := fun t q => by
    refine k_58 t ?_
    refine st59 _ ?_
    show Steps _ _ _ (T59.setTop (mkF m 25 #[rv a_STAGE_COMPLETED] [(.ref a_PIPELINE_CANCELLED), (.ref a_STAGE_COMPLETED)])) _
    refine Jvm.RoadKit.acmp (g := (mkF m 25 #[rv a_STAGE_COMPLETED] [(.ref a_PIPELINE_CANCELLED), (.ref a_STAGE_COMPLETED)])) X59 hx rfl rfl rfl (pc0 := 25) (pc' := 32) (same := false) rfl (hb hby d1_25) rfl (decide_eq_false fun q => (own_ne R_STAGE_COMPLETED_ordinal R_PIPELINE_CANCELLED_ordinal (by decide)) (Value.ref.inj q)) (by decide) (by decide) ?_
    show Steps _ _ _ (T59.setTop (mkF m 32 #[rv a_STAGE_COMPLETED] [])) _
    refine XS.iconst X59.here hx rfl (hb hby d1_32) ?_
    show Steps _ _ _ (T59.setTop (mkF m 33 #[rv a_STAGE_COMPLETED] [(.int 0)])) _
    exact q
  obtain ⟨fs, hr, hrun, hended, hW, hsame⟩ := X59.leave (v := some (.int 0)) (fun h => by rw [Bd.returns] at h; cases h)
  refine ⟨_, _, k_60 _ ?_, hrun, hended, _, _, rfl, ?_, ⟨_, rfl⟩, hW, hsame.mono (by decide) (by decide)⟩
  · exact retN X59 hx (t := .boolean) Bd.returns (by simp) (hb hby d1_33) hr
  · show QV (some (.int 0)) h0 n0 _ T59.heap _
    rw [e59]
    exact ⟨rfl, N0, rfl⟩
set_option maxRecDepth 65536 in
set_option maxHeartbeats 40000000 in
theorem ew_8 (l : Launch) (Z : State) (a0 : Array Value) (hw : ∀ d ∈ tables_1, d.before a0 Z = true) (ws : List Jvm.Cond) (a_PIPELINE_STARTED a_PIPELINE_RESUMED a_PIPELINE_COMPLETED a_PIPELINE_FAILED a_PIPELINE_STOPPED a_PIPELINE_CANCELLED a_STAGE_STARTED a_STAGE_COMPLETED a_STAGE_FAILED a_STAGE_RETRYING a_PARALLEL_STARTED a_PARALLEL_BRANCH_STARTED a_PARALLEL_BRANCH_COMPLETED a_PARALLEL_COMPLETED a_INTERVIEW_STARTED a_INTERVIEW_COMPLETED a_INTERVIEW_TIMEOUT a_CHECKPOINT_SAVED : Addr) (G : Own Z a_PIPELINE_STARTED a_PIPELINE_RESUMED a_PIPELINE_COMPLETED a_PIPELINE_FAILED a_PIPELINE_STOPPED a_PIPELINE_CANCELLED a_STAGE_STARTED a_STAGE_COMPLETED a_STAGE_FAILED a_STAGE_RETRYING a_PARALLEL_STARTED a_PARALLEL_BRANCH_STARTED a_PARALLEL_BRANCH_COMPLETED a_PARALLEL_COMPLETED a_INTERVIEW_STARTED a_INTERVIEW_COMPLETED a_INTERVIEW_TIMEOUT a_CHECKPOINT_SAVED)  (h0 : Heap) (n0 : Nat) (O0 : Old Z n0 h0)  :
    MetFree l y_0 (head1 (Jvm.Cond.code y_0 prog_29_method_7_code 1 (some .boolean) :: ws) ({ frames := 0, cells := 0, slots := 0, locals := 0 } : Room)) (fun a U => a = #[(.ref a_STAGE_FAILED)] ∧ Z.Warmed39 U.vm ∧ U.heap = h0) (fun _ _ _ _ _ => True) (fun _ U o U' => ∃ v L, o = .returned v ∧ QV (some (.int 0)) h0 n0 v U'.heap L ∧ FrameEnd U o U' L ({ frames := 0, cells := 0, slots := 0, locals := 0 } : Room).cells ({ frames := 0, cells := 0, slots := 0, locals := 0 } : Room).slots) := by
  refine MetFree.of_bodySF (plainFor_of_name pn_0) hisR ?_
  intro p e s m args below meth c s₁ Bd hml0 hP hK
  obtain ⟨rfl, hZ, hh⟩ := hP
  have hx := Bd.exec
  have hby := Bd.bytes
  have hml : c.maxLocals = 1 := hml0
  have hown : s.vm.findClass "com/example/theseus/theseus/engine/EventType" = some m.cls := findClass_of_methodNamed Bd.named
  have hnm := (name_of_methodNamed Bd.named Bd.method).1
  have X0 : Stand p l e ({ frames := 0, cells := 0, slots := 0, locals := 0 } : Room) s m #[(.ref a_STAGE_FAILED)] below meth c s₁ [] 0 0 := Stand.of_body Bd
  have e0 : s₁.heap = h0 := by rw [← hh, Bd.state]; rfl
  have N0 := Fr.nil n0
  have K0 := Keep.refl h0 []
  have k0 : Go p.tables e below (s₁.setTop (entryFrame m #[(.ref a_STAGE_FAILED)] 1)) (s₁.setTop (mkF m 0 #[rv a_STAGE_FAILED] [])) := fun t k => castTop (by first | rfl | (simp [entryFrame, mkF, argsToLocals, Value.category]; done)) k
  have ⟨S_PIPELINE_STARTED, E_PIPELINE_STARTED, S_PIPELINE_RESUMED, E_PIPELINE_RESUMED, S_PIPELINE_COMPLETED, E_PIPELINE_COMPLETED, S_PIPELINE_FAILED, E_PIPELINE_FAILED, S_PIPELINE_STOPPED, E_PIPELINE_STOPPED, S_PIPELINE_CANCELLED, E_PIPELINE_CANCELLED, S_STAGE_STARTED, E_STAGE_STARTED, S_STAGE_COMPLETED, E_STAGE_COMPLETED, S_STAGE_FAILED, E_STAGE_FAILED, S_STAGE_RETRYING, E_STAGE_RETRYING, S_PARALLEL_STARTED, E_PARALLEL_STARTED, S_PARALLEL_BRANCH_STARTED, E_PARALLEL_BRANCH_STARTED, S_PARALLEL_BRANCH_COMPLETED, E_PARALLEL_BRANCH_COMPLETED, S_PARALLEL_COMPLETED, E_PARALLEL_COMPLETED, S_INTERVIEW_STARTED, E_INTERVIEW_STARTED, S_INTERVIEW_COMPLETED, E_INTERVIEW_COMPLETED, S_INTERVIEW_TIMEOUT, E_INTERVIEW_TIMEOUT, S_CHECKPOINT_SAVED, E_CHECKPOINT_SAVED, R_PIPELINE_STARTED_ordinal, R_PIPELINE_COMPLETED_ordinal, R_PIPELINE_FAILED_ordinal, R_PIPELINE_STOPPED_ordinal, R_PIPELINE_CANCELLED_ordinal, R_PIPELINE_RESUMED_ordinal, R_STAGE_COMPLETED_ordinal, R_PARALLEL_BRANCH_STARTED_ordinal, R_STAGE_FAILED_ordinal, R_PARALLEL_BRANCH_COMPLETED_ordinal, R_INTERVIEW_TIMEOUT_ordinal, R_INTERVIEW_COMPLETED_ordinal, R_PARALLEL_STARTED_ordinal, R_PARALLEL_COMPLETED_ordinal, R_STAGE_STARTED_ordinal, R_CHECKPOINT_SAVED_ordinal, R_INTERVIEW_STARTED_ordinal, R_STAGE_RETRYING_ordinal⟩ := G
  have k_61 : Go p.tables e below (s₁.setTop (entryFrame m #[(.ref a_STAGE_FAILED)] 1)) (s₁.setTop (mkF m 1 #[rv a_STAGE_FAILED] [(.ref a_STAGE_FAILED)])) := fun t q => by
    refine k0 t ?_
    refine XS.aloadN X0.here hx rfl (hb hby d1_0) rfl rfl ?_
    show Steps _ _ _ (s₁.setTop (mkF m 1 #[rv a_STAGE_FAILED] [(.ref a_STAGE_FAILED)])) _
    exact q
  obtain ⟨T62, X62, e62, st62⟩ := getS2 X0 hx hZ hown (host := "") (Or.inl (hw _ (wd 46 rfl))) Via.refl e0 (S_PIPELINE_COMPLETED.ext O0.2) (g := (mkF m 1 #[rv a_STAGE_FAILED] [(.ref a_STAGE_FAILED)])) rfl (hb hby d1_1)
  have k_63 : Go p.tables e below (s₁.setTop (entryFrame m #[(.ref a_STAGE_FAILED)] 1)) (T62.setTop (mkF m 8 #[rv a_STAGE_FAILED] [(.ref a_STAGE_FAILED)])) := fun t q => by
    refine k_61 t ?_
    refine st62 _ ?_
    show Steps _ _ _ (T62.setTop (mkF m 4 #[rv a_STAGE_FAILED] [(.ref a_PIPELINE_COMPLETED), (.ref a_STAGE_FAILED)])) _
    refine Jvm.RoadKit.acmp (g := (mkF m 4 #[rv a_STAGE_FAILED] [(.ref a_PIPELINE_COMPLETED), (.ref a_STAGE_FAILED)])) X62 hx rfl rfl rfl (pc0 := 4) (pc' := 7) (same := false) rfl (hb hby d1_4) rfl (decide_eq_false fun q => (own_ne R_STAGE_FAILED_ordinal R_PIPELINE_COMPLETED_ordinal (by decide)) (Value.ref.inj q)) (by decide) (by decide) ?_
    show Steps _ _ _ (T62.setTop (mkF m 7 #[rv a_STAGE_FAILED] [])) _
    refine XS.aloadN X62.here hx rfl (hb hby d1_7) rfl rfl ?_
    show Steps _ _ _ (T62.setTop (mkF m 8 #[rv a_STAGE_FAILED] [(.ref a_STAGE_FAILED)])) _
    exact q
  obtain ⟨T64, X64, e64, st64⟩ := getS2 X62 hx hZ hown (host := "") (Or.inl (hw _ (wd 47 rfl))) Via.refl e62 (S_PIPELINE_FAILED.ext O0.2) (g := (mkF m 8 #[rv a_STAGE_FAILED] [(.ref a_STAGE_FAILED)])) rfl (hb hby d1_8)
  have k_65 : Go p.tables e below (s₁.setTop (entryFrame m #[(.ref a_STAGE_FAILED)] 1)) (T64.setTop (mkF m 15 #[rv a_STAGE_FAILED] [(.ref a_STAGE_FAILED)])) := fun t q => by
    refine k_63 t ?_
    refine st64 _ ?_
    show Steps _ _ _ (T64.setTop (mkF m 11 #[rv a_STAGE_FAILED] [(.ref a_PIPELINE_FAILED), (.ref a_STAGE_FAILED)])) _
    refine Jvm.RoadKit.acmp (g := (mkF m 11 #[rv a_STAGE_FAILED] [(.ref a_PIPELINE_FAILED), (.ref a_STAGE_FAILED)])) X64 hx rfl rfl rfl (pc0 := 11) (pc' := 14) (same := false) rfl (hb hby d1_11) rfl (decide_eq_false fun q => (own_ne R_STAGE_FAILED_ordinal R_PIPELINE_FAILED_ordinal (by decide)) (Value.ref.inj q)) (by decide) (by decide) ?_
    show Steps _ _ _ (T64.setTop (mkF m 14 #[rv a_STAGE_FAILED] [])) _
    refine XS.aloadN X64.here hx rfl (hb hby d1_14) rfl rfl ?_
    show Steps _ _ _ (T64.setTop (mkF m 15 #[rv a_STAGE_FAILED] [(.ref a_STAGE_FAILED)])) _
    exact q
  obtain ⟨T66, X66, e66, st66⟩ := getS2 X64 hx hZ hown (host := "") (Or.inl (hw _ (wd 48 rfl))) Via.refl e64 (S_PIPELINE_STOPPED.ext O0.2) (g := (mkF m 15 #[rv a_STAGE_FAILED] [(.ref a_STAGE_FAILED)])) rfl (hb hby d1_15)
  have k_67 : Go p.tables e below (s₁.setTop (entryFrame m #[(.ref a_STAGE_FAILED)] 1)) (T66.setTop (mkF m 22 #[rv a_STAGE_FAILED] [(.ref a_STAGE_FAILED)])) := fun t q => by
    refine k_65 t ?_
    refine st66 _ ?_
    show Steps _ _ _ (T66.setTop (mkF m 18 #[rv a_STAGE_FAILED] [(.ref a_PIPELINE_STOPPED), (.ref a_STAGE_FAILED)])) _
    refine Jvm.RoadKit.acmp (g := (mkF m 18 #[rv a_STAGE_FAILED] [(.ref a_PIPELINE_STOPPED), (.ref a_STAGE_FAILED)])) X66 hx rfl rfl rfl (pc0 := 18) (pc' := 21) (same := false) rfl (hb hby d1_18) rfl (decide_eq_false fun q => (own_ne R_STAGE_FAILED_ordinal R_PIPELINE_STOPPED_ordinal (by decide)) (Value.ref.inj q)) (by decide) (by decide) ?_
    show Steps _ _ _ (T66.setTop (mkF m 21 #[rv a_STAGE_FAILED] [])) _
    refine XS.aloadN X66.here hx rfl (hb hby d1_21) rfl rfl ?_
    show Steps _ _ _ (T66.setTop (mkF m 22 #[rv a_STAGE_FAILED] [(.ref a_STAGE_FAILED)])) _
    exact q
  obtain ⟨T68, X68, e68, st68⟩ := getS2 X66 hx hZ hown (host := "") (Or.inl (hw _ (wd 49 rfl))) Via.refl e66 (S_PIPELINE_CANCELLED.ext O0.2) (g := (mkF m 22 #[rv a_STAGE_FAILED] [(.ref a_STAGE_FAILED)])) rfl (hb hby d1_22)
  have k_69 : Go p.tables e below (s₁.setTop (entryFrame m #[(.ref a_STAGE_FAILED)] 1)) (T68.setTop (mkF m 33 #[rv a_STAGE_FAILED] [(.int 0)])) := fun t q => by
    refine k_67 t ?_
    refine st68 _ ?_
    show Steps _ _ _ (T68.setTop (mkF m 25 #[rv a_STAGE_FAILED] [(.ref a_PIPELINE_CANCELLED), (.ref a_STAGE_FAILED)])) _
    refine Jvm.RoadKit.acmp (g := (mkF m 25 #[rv a_STAGE_FAILED] [(.ref a_PIPELINE_CANCELLED), (.ref a_STAGE_FAILED)])) X68 hx rfl rfl rfl (pc0 := 25) (pc' := 32) (same := false) rfl (hb hby d1_25) rfl (decide_eq_false fun q => (own_ne R_STAGE_FAILED_ordinal R_PIPELINE_CANCELLED_ordinal (by decide)) (Value.ref.inj q)) (by decide) (by decide) ?_
    show Steps _ _ _ (T68.setTop (mkF m 32 #[rv a_STAGE_FAILED] [])) _
    refine XS.iconst X68.here hx rfl (hb hby d1_32) ?_
    show Steps _ _ _ (T68.setTop (mkF m 33 #[rv a_STAGE_FAILED] [(.int 0)])) _
    exact q
  obtain ⟨fs, hr, hrun, hended, hW, hsame⟩ := X68.leave (v := some (.int 0)) (fun h => by rw [Bd.returns] at h; cases h)
  refine ⟨_, _, k_69 _ ?_, hrun, hended, _, _, rfl, ?_, ⟨_, rfl⟩, hW, hsame.mono (by decide) (by decide)⟩
  · exact retN X68 hx (t := .boolean) Bd.returns (by simp) (hb hby d1_33) hr
  · show QV (some (.int 0)) h0 n0 _ T68.heap _
    rw [e68]
    exact ⟨rfl, N0, rfl⟩
set_option maxRecDepth 65536 in
set_option maxHeartbeats 40000000 in
theorem ew_9 (l : Launch) (Z : State) (a0 : Array Value) (hw : ∀ d ∈ tables_1, d.before a0 Z = true) (ws : List Jvm.Cond) (a_PIPELINE_STARTED a_PIPELINE_RESUMED a_PIPELINE_COMPLETED a_PIPELINE_FAILED a_PIPELINE_STOPPED a_PIPELINE_CANCELLED a_STAGE_STARTED a_STAGE_COMPLETED a_STAGE_FAILED a_STAGE_RETRYING a_PARALLEL_STARTED a_PARALLEL_BRANCH_STARTED a_PARALLEL_BRANCH_COMPLETED a_PARALLEL_COMPLETED a_INTERVIEW_STARTED a_INTERVIEW_COMPLETED a_INTERVIEW_TIMEOUT a_CHECKPOINT_SAVED : Addr) (G : Own Z a_PIPELINE_STARTED a_PIPELINE_RESUMED a_PIPELINE_COMPLETED a_PIPELINE_FAILED a_PIPELINE_STOPPED a_PIPELINE_CANCELLED a_STAGE_STARTED a_STAGE_COMPLETED a_STAGE_FAILED a_STAGE_RETRYING a_PARALLEL_STARTED a_PARALLEL_BRANCH_STARTED a_PARALLEL_BRANCH_COMPLETED a_PARALLEL_COMPLETED a_INTERVIEW_STARTED a_INTERVIEW_COMPLETED a_INTERVIEW_TIMEOUT a_CHECKPOINT_SAVED)  (h0 : Heap) (n0 : Nat) (O0 : Old Z n0 h0)  :
    MetFree l y_0 (head1 (Jvm.Cond.code y_0 prog_29_method_7_code 1 (some .boolean) :: ws) ({ frames := 0, cells := 0, slots := 0, locals := 0 } : Room)) (fun a U => a = #[(.ref a_STAGE_RETRYING)] ∧ Z.Warmed39 U.vm ∧ U.heap = h0) (fun _ _ _ _ _ => True) (fun _ U o U' => ∃ v L, o = .returned v ∧ QV (some (.int 0)) h0 n0 v U'.heap L ∧ FrameEnd U o U' L ({ frames := 0, cells := 0, slots := 0, locals := 0 } : Room).cells ({ frames := 0, cells := 0, slots := 0, locals := 0 } : Room).slots) := by
  refine MetFree.of_bodySF (plainFor_of_name pn_0) hisR ?_
  intro p e s m args below meth c s₁ Bd hml0 hP hK
  obtain ⟨rfl, hZ, hh⟩ := hP
  have hx := Bd.exec
  have hby := Bd.bytes
  have hml : c.maxLocals = 1 := hml0
  have hown : s.vm.findClass "com/example/theseus/theseus/engine/EventType" = some m.cls := findClass_of_methodNamed Bd.named
  have hnm := (name_of_methodNamed Bd.named Bd.method).1
  have X0 : Stand p l e ({ frames := 0, cells := 0, slots := 0, locals := 0 } : Room) s m #[(.ref a_STAGE_RETRYING)] below meth c s₁ [] 0 0 := Stand.of_body Bd
  have e0 : s₁.heap = h0 := by rw [← hh, Bd.state]; rfl
  have N0 := Fr.nil n0
  have K0 := Keep.refl h0 []
  have k0 : Go p.tables e below (s₁.setTop (entryFrame m #[(.ref a_STAGE_RETRYING)] 1)) (s₁.setTop (mkF m 0 #[rv a_STAGE_RETRYING] [])) := fun t k => castTop (by first | rfl | (simp [entryFrame, mkF, argsToLocals, Value.category]; done)) k
  have ⟨S_PIPELINE_STARTED, E_PIPELINE_STARTED, S_PIPELINE_RESUMED, E_PIPELINE_RESUMED, S_PIPELINE_COMPLETED, E_PIPELINE_COMPLETED, S_PIPELINE_FAILED, E_PIPELINE_FAILED, S_PIPELINE_STOPPED, E_PIPELINE_STOPPED, S_PIPELINE_CANCELLED, E_PIPELINE_CANCELLED, S_STAGE_STARTED, E_STAGE_STARTED, S_STAGE_COMPLETED, E_STAGE_COMPLETED, S_STAGE_FAILED, E_STAGE_FAILED, S_STAGE_RETRYING, E_STAGE_RETRYING, S_PARALLEL_STARTED, E_PARALLEL_STARTED, S_PARALLEL_BRANCH_STARTED, E_PARALLEL_BRANCH_STARTED, S_PARALLEL_BRANCH_COMPLETED, E_PARALLEL_BRANCH_COMPLETED, S_PARALLEL_COMPLETED, E_PARALLEL_COMPLETED, S_INTERVIEW_STARTED, E_INTERVIEW_STARTED, S_INTERVIEW_COMPLETED, E_INTERVIEW_COMPLETED, S_INTERVIEW_TIMEOUT, E_INTERVIEW_TIMEOUT, S_CHECKPOINT_SAVED, E_CHECKPOINT_SAVED, R_PIPELINE_STARTED_ordinal, R_PIPELINE_COMPLETED_ordinal, R_PIPELINE_FAILED_ordinal, R_PIPELINE_STOPPED_ordinal, R_PIPELINE_CANCELLED_ordinal, R_PIPELINE_RESUMED_ordinal, R_STAGE_COMPLETED_ordinal, R_PARALLEL_BRANCH_STARTED_ordinal, R_STAGE_FAILED_ordinal, R_PARALLEL_BRANCH_COMPLETED_ordinal, R_INTERVIEW_TIMEOUT_ordinal, R_INTERVIEW_COMPLETED_ordinal, R_PARALLEL_STARTED_ordinal, R_PARALLEL_COMPLETED_ordinal, R_STAGE_STARTED_ordinal, R_CHECKPOINT_SAVED_ordinal, R_INTERVIEW_STARTED_ordinal, R_STAGE_RETRYING_ordinal⟩ := G
  have k_70 : Go p.tables e below (s₁.setTop (entryFrame m #[(.ref a_STAGE_RETRYING)] 1)) (s₁.setTop (mkF m 1 #[rv a_STAGE_RETRYING] [(.ref a_STAGE_RETRYING)])) := fun t q => by
    refine k0 t ?_
    refine XS.aloadN X0.here hx rfl (hb hby d1_0) rfl rfl ?_
    show Steps _ _ _ (s₁.setTop (mkF m 1 #[rv a_STAGE_RETRYING] [(.ref a_STAGE_RETRYING)])) _
    exact q
  obtain ⟨T71, X71, e71, st71⟩ := getS2 X0 hx hZ hown (host := "") (Or.inl (hw _ (wd 46 rfl))) Via.refl e0 (S_PIPELINE_COMPLETED.ext O0.2) (g := (mkF m 1 #[rv a_STAGE_RETRYING] [(.ref a_STAGE_RETRYING)])) rfl (hb hby d1_1)
  have k_72 : Go p.tables e below (s₁.setTop (entryFrame m #[(.ref a_STAGE_RETRYING)] 1)) (T71.setTop (mkF m 8 #[rv a_STAGE_RETRYING] [(.ref a_STAGE_RETRYING)])) := fun t q => by
    refine k_70 t ?_
    refine st71 _ ?_
    show Steps _ _ _ (T71.setTop (mkF m 4 #[rv a_STAGE_RETRYING] [(.ref a_PIPELINE_COMPLETED), (.ref a_STAGE_RETRYING)])) _
    refine Jvm.RoadKit.acmp (g := (mkF m 4 #[rv a_STAGE_RETRYING] [(.ref a_PIPELINE_COMPLETED), (.ref a_STAGE_RETRYING)])) X71 hx rfl rfl rfl (pc0 := 4) (pc' := 7) (same := false) rfl (hb hby d1_4) rfl (decide_eq_false fun q => (own_ne R_STAGE_RETRYING_ordinal R_PIPELINE_COMPLETED_ordinal (by decide)) (Value.ref.inj q)) (by decide) (by decide) ?_
    show Steps _ _ _ (T71.setTop (mkF m 7 #[rv a_STAGE_RETRYING] [])) _
    refine XS.aloadN X71.here hx rfl (hb hby d1_7) rfl rfl ?_
    show Steps _ _ _ (T71.setTop (mkF m 8 #[rv a_STAGE_RETRYING] [(.ref a_STAGE_RETRYING)])) _
    exact q
  obtain ⟨T73, X73, e73, st73⟩ := getS2 X71 hx hZ hown (host := "") (Or.inl (hw _ (wd 47 rfl))) Via.refl e71 (S_PIPELINE_FAILED.ext O0.2) (g := (mkF m 8 #[rv a_STAGE_RETRYING] [(.ref a_STAGE_RETRYING)])) rfl (hb hby d1_8)
  have k_74 : Go p.tables e below (s₁.setTop (entryFrame m #[(.ref a_STAGE_RETRYING)] 1)) (T73.setTop (mkF m 15 #[rv a_STAGE_RETRYING] [(.ref a_STAGE_RETRYING)])) := fun t q => by
    refine k_72 t ?_
    refine st73 _ ?_
    show Steps _ _ _ (T73.setTop (mkF m 11 #[rv a_STAGE_RETRYING] [(.ref a_PIPELINE_FAILED), (.ref a_STAGE_RETRYING)])) _
    refine Jvm.RoadKit.acmp (g := (mkF m 11 #[rv a_STAGE_RETRYING] [(.ref a_PIPELINE_FAILED), (.ref a_STAGE_RETRYING)])) X73 hx rfl rfl rfl (pc0 := 11) (pc' := 14) (same := false) rfl (hb hby d1_11) rfl (decide_eq_false fun q => (own_ne R_STAGE_RETRYING_ordinal R_PIPELINE_FAILED_ordinal (by decide)) (Value.ref.inj q)) (by decide) (by decide) ?_
    show Steps _ _ _ (T73.setTop (mkF m 14 #[rv a_STAGE_RETRYING] [])) _
    refine XS.aloadN X73.here hx rfl (hb hby d1_14) rfl rfl ?_
    show Steps _ _ _ (T73.setTop (mkF m 15 #[rv a_STAGE_RETRYING] [(.ref a_STAGE_RETRYING)])) _
    exact q
  obtain ⟨T75, X75, e75, st75⟩ := getS2 X73 hx hZ hown (host := "") (Or.inl (hw _ (wd 48 rfl))) Via.refl e73 (S_PIPELINE_STOPPED.ext O0.2) (g := (mkF m 15 #[rv a_STAGE_RETRYING] [(.ref a_STAGE_RETRYING)])) rfl (hb hby d1_15)
  have k_76 : Go p.tables e below (s₁.setTop (entryFrame m #[(.ref a_STAGE_RETRYING)] 1)) (T75.setTop (mkF m 22 #[rv a_STAGE_RETRYING] [(.ref a_STAGE_RETRYING)])) := fun t q => by
    refine k_74 t ?_
    refine st75 _ ?_
    show Steps _ _ _ (T75.setTop (mkF m 18 #[rv a_STAGE_RETRYING] [(.ref a_PIPELINE_STOPPED), (.ref a_STAGE_RETRYING)])) _
    refine Jvm.RoadKit.acmp (g := (mkF m 18 #[rv a_STAGE_RETRYING] [(.ref a_PIPELINE_STOPPED), (.ref a_STAGE_RETRYING)])) X75 hx rfl rfl rfl (pc0 := 18) (pc' := 21) (same := false) rfl (hb hby d1_18) rfl (decide_eq_false fun q => (own_ne R_STAGE_RETRYING_ordinal R_PIPELINE_STOPPED_ordinal (by decide)) (Value.ref.inj q)) (by decide) (by decide) ?_
    show Steps _ _ _ (T75.setTop (mkF m 21 #[rv a_STAGE_RETRYING] [])) _
    refine XS.aloadN X75.here hx rfl (hb hby d1_21) rfl rfl ?_
    show Steps _ _ _ (T75.setTop (mkF m 22 #[rv a_STAGE_RETRYING] [(.ref a_STAGE_RETRYING)])) _
    exact q
  obtain ⟨T77, X77, e77, st77⟩ := getS2 X75 hx hZ hown (host := "") (Or.inl (hw _ (wd 49 rfl))) Via.refl e75 (S_PIPELINE_CANCELLED.ext O0.2) (g := (mkF m 22 #[rv a_STAGE_RETRYING] [(.ref a_STAGE_RETRYING)])) rfl (hb hby d1_22)
  have k_78 : Go p.tables e below (s₁.setTop (entryFrame m #[(.ref a_STAGE_RETRYING)] 1)) (T77.setTop (mkF m 33 #[rv a_STAGE_RETRYING] [(.int 0)])) := fun t q => by
    refine k_76 t ?_
    refine st77 _ ?_
    show Steps _ _ _ (T77.setTop (mkF m 25 #[rv a_STAGE_RETRYING] [(.ref a_PIPELINE_CANCELLED), (.ref a_STAGE_RETRYING)])) _
    refine Jvm.RoadKit.acmp (g := (mkF m 25 #[rv a_STAGE_RETRYING] [(.ref a_PIPELINE_CANCELLED), (.ref a_STAGE_RETRYING)])) X77 hx rfl rfl rfl (pc0 := 25) (pc' := 32) (same := false) rfl (hb hby d1_25) rfl (decide_eq_false fun q => (own_ne R_STAGE_RETRYING_ordinal R_PIPELINE_CANCELLED_ordinal (by decide)) (Value.ref.inj q)) (by decide) (by decide) ?_
    show Steps _ _ _ (T77.setTop (mkF m 32 #[rv a_STAGE_RETRYING] [])) _
    refine XS.iconst X77.here hx rfl (hb hby d1_32) ?_
    show Steps _ _ _ (T77.setTop (mkF m 33 #[rv a_STAGE_RETRYING] [(.int 0)])) _
    exact q
  obtain ⟨fs, hr, hrun, hended, hW, hsame⟩ := X77.leave (v := some (.int 0)) (fun h => by rw [Bd.returns] at h; cases h)
  refine ⟨_, _, k_78 _ ?_, hrun, hended, _, _, rfl, ?_, ⟨_, rfl⟩, hW, hsame.mono (by decide) (by decide)⟩
  · exact retN X77 hx (t := .boolean) Bd.returns (by simp) (hb hby d1_33) hr
  · show QV (some (.int 0)) h0 n0 _ T77.heap _
    rw [e77]
    exact ⟨rfl, N0, rfl⟩
set_option maxRecDepth 65536 in
set_option maxHeartbeats 40000000 in
theorem ew_10 (l : Launch) (Z : State) (a0 : Array Value) (hw : ∀ d ∈ tables_1, d.before a0 Z = true) (ws : List Jvm.Cond) (a_PIPELINE_STARTED a_PIPELINE_RESUMED a_PIPELINE_COMPLETED a_PIPELINE_FAILED a_PIPELINE_STOPPED a_PIPELINE_CANCELLED a_STAGE_STARTED a_STAGE_COMPLETED a_STAGE_FAILED a_STAGE_RETRYING a_PARALLEL_STARTED a_PARALLEL_BRANCH_STARTED a_PARALLEL_BRANCH_COMPLETED a_PARALLEL_COMPLETED a_INTERVIEW_STARTED a_INTERVIEW_COMPLETED a_INTERVIEW_TIMEOUT a_CHECKPOINT_SAVED : Addr) (G : Own Z a_PIPELINE_STARTED a_PIPELINE_RESUMED a_PIPELINE_COMPLETED a_PIPELINE_FAILED a_PIPELINE_STOPPED a_PIPELINE_CANCELLED a_STAGE_STARTED a_STAGE_COMPLETED a_STAGE_FAILED a_STAGE_RETRYING a_PARALLEL_STARTED a_PARALLEL_BRANCH_STARTED a_PARALLEL_BRANCH_COMPLETED a_PARALLEL_COMPLETED a_INTERVIEW_STARTED a_INTERVIEW_COMPLETED a_INTERVIEW_TIMEOUT a_CHECKPOINT_SAVED)  (h0 : Heap) (n0 : Nat) (O0 : Old Z n0 h0)  :
    MetFree l y_0 (head1 (Jvm.Cond.code y_0 prog_29_method_7_code 1 (some .boolean) :: ws) ({ frames := 0, cells := 0, slots := 0, locals := 0 } : Room)) (fun a U => a = #[(.ref a_PARALLEL_STARTED)] ∧ Z.Warmed39 U.vm ∧ U.heap = h0) (fun _ _ _ _ _ => True) (fun _ U o U' => ∃ v L, o = .returned v ∧ QV (some (.int 0)) h0 n0 v U'.heap L ∧ FrameEnd U o U' L ({ frames := 0, cells := 0, slots := 0, locals := 0 } : Room).cells ({ frames := 0, cells := 0, slots := 0, locals := 0 } : Room).slots) := by
  refine MetFree.of_bodySF (plainFor_of_name pn_0) hisR ?_
  intro p e s m args below meth c s₁ Bd hml0 hP hK
  obtain ⟨rfl, hZ, hh⟩ := hP
  have hx := Bd.exec
  have hby := Bd.bytes
  have hml : c.maxLocals = 1 := hml0
  have hown : s.vm.findClass "com/example/theseus/theseus/engine/EventType" = some m.cls := findClass_of_methodNamed Bd.named
  have hnm := (name_of_methodNamed Bd.named Bd.method).1
  have X0 : Stand p l e ({ frames := 0, cells := 0, slots := 0, locals := 0 } : Room) s m #[(.ref a_PARALLEL_STARTED)] below meth c s₁ [] 0 0 := Stand.of_body Bd
  have e0 : s₁.heap = h0 := by rw [← hh, Bd.state]; rfl
  have N0 := Fr.nil n0
  have K0 := Keep.refl h0 []
  have k0 : Go p.tables e below (s₁.setTop (entryFrame m #[(.ref a_PARALLEL_STARTED)] 1)) (s₁.setTop (mkF m 0 #[rv a_PARALLEL_STARTED] [])) := fun t k => castTop (by first | rfl | (simp [entryFrame, mkF, argsToLocals, Value.category]; done)) k
  have ⟨S_PIPELINE_STARTED, E_PIPELINE_STARTED, S_PIPELINE_RESUMED, E_PIPELINE_RESUMED, S_PIPELINE_COMPLETED, E_PIPELINE_COMPLETED, S_PIPELINE_FAILED, E_PIPELINE_FAILED, S_PIPELINE_STOPPED, E_PIPELINE_STOPPED, S_PIPELINE_CANCELLED, E_PIPELINE_CANCELLED, S_STAGE_STARTED, E_STAGE_STARTED, S_STAGE_COMPLETED, E_STAGE_COMPLETED, S_STAGE_FAILED, E_STAGE_FAILED, S_STAGE_RETRYING, E_STAGE_RETRYING, S_PARALLEL_STARTED, E_PARALLEL_STARTED, S_PARALLEL_BRANCH_STARTED, E_PARALLEL_BRANCH_STARTED, S_PARALLEL_BRANCH_COMPLETED, E_PARALLEL_BRANCH_COMPLETED, S_PARALLEL_COMPLETED, E_PARALLEL_COMPLETED, S_INTERVIEW_STARTED, E_INTERVIEW_STARTED, S_INTERVIEW_COMPLETED, E_INTERVIEW_COMPLETED, S_INTERVIEW_TIMEOUT, E_INTERVIEW_TIMEOUT, S_CHECKPOINT_SAVED, E_CHECKPOINT_SAVED, R_PIPELINE_STARTED_ordinal, R_PIPELINE_COMPLETED_ordinal, R_PIPELINE_FAILED_ordinal, R_PIPELINE_STOPPED_ordinal, R_PIPELINE_CANCELLED_ordinal, R_PIPELINE_RESUMED_ordinal, R_STAGE_COMPLETED_ordinal, R_PARALLEL_BRANCH_STARTED_ordinal, R_STAGE_FAILED_ordinal, R_PARALLEL_BRANCH_COMPLETED_ordinal, R_INTERVIEW_TIMEOUT_ordinal, R_INTERVIEW_COMPLETED_ordinal, R_PARALLEL_STARTED_ordinal, R_PARALLEL_COMPLETED_ordinal, R_STAGE_STARTED_ordinal, R_CHECKPOINT_SAVED_ordinal, R_INTERVIEW_STARTED_ordinal, R_STAGE_RETRYING_ordinal⟩ := G
  have k_79 : Go p.tables e below (s₁.setTop (entryFrame m #[(.ref a_PARALLEL_STARTED)] 1)) (s₁.setTop (mkF m 1 #[rv a_PARALLEL_STARTED] [(.ref a_PARALLEL_STARTED)])) := fun t q => by
    refine k0 t ?_
    refine XS.aloadN X0.here hx rfl (hb hby d1_0) rfl rfl ?_
    show Steps _ _ _ (s₁.setTop (mkF m 1 #[rv a_PARALLEL_STARTED] [(.ref a_PARALLEL_STARTED)])) _
    exact q
  obtain ⟨T80, X80, e80, st80⟩ := getS2 X0 hx hZ hown (host := "") (Or.inl (hw _ (wd 46 rfl))) Via.refl e0 (S_PIPELINE_COMPLETED.ext O0.2) (g := (mkF m 1 #[rv a_PARALLEL_STARTED] [(.ref a_PARALLEL_STARTED)])) rfl (hb hby d1_1)
  have k_81 : Go p.tables e below (s₁.setTop (entryFrame m #[(.ref a_PARALLEL_STARTED)] 1)) (T80.setTop (mkF m 8 #[rv a_PARALLEL_STARTED] [(.ref a_PARALLEL_STARTED)])) := fun t q => by
    refine k_79 t ?_
    refine st80 _ ?_
    show Steps _ _ _ (T80.setTop (mkF m 4 #[rv a_PARALLEL_STARTED] [(.ref a_PIPELINE_COMPLETED), (.ref a_PARALLEL_STARTED)])) _
    refine Jvm.RoadKit.acmp (g := (mkF m 4 #[rv a_PARALLEL_STARTED] [(.ref a_PIPELINE_COMPLETED), (.ref a_PARALLEL_STARTED)])) X80 hx rfl rfl rfl (pc0 := 4) (pc' := 7) (same := false) rfl (hb hby d1_4) rfl (decide_eq_false fun q => (own_ne R_PARALLEL_STARTED_ordinal R_PIPELINE_COMPLETED_ordinal (by decide)) (Value.ref.inj q)) (by decide) (by decide) ?_
    show Steps _ _ _ (T80.setTop (mkF m 7 #[rv a_PARALLEL_STARTED] [])) _
    refine XS.aloadN X80.here hx rfl (hb hby d1_7) rfl rfl ?_
    show Steps _ _ _ (T80.setTop (mkF m 8 #[rv a_PARALLEL_STARTED] [(.ref a_PARALLEL_STARTED)])) _
    exact q
  obtain ⟨T82, X82, e82, st82⟩ := getS2 X80 hx hZ hown (host := "") (Or.inl (hw _ (wd 47 rfl))) Via.refl e80 (S_PIPELINE_FAILED.ext O0.2) (g := (mkF m 8 #[rv a_PARALLEL_STARTED] [(.ref a_PARALLEL_STARTED)])) rfl (hb hby d1_8)
  have k_83 : Go p.tables e below (s₁.setTop (entryFrame m #[(.ref a_PARALLEL_STARTED)] 1)) (T82.setTop (mkF m 15 #[rv a_PARALLEL_STARTED] [(.ref a_PARALLEL_STARTED)])) := fun t q => by
    refine k_81 t ?_
    refine st82 _ ?_
    show Steps _ _ _ (T82.setTop (mkF m 11 #[rv a_PARALLEL_STARTED] [(.ref a_PIPELINE_FAILED), (.ref a_PARALLEL_STARTED)])) _
    refine Jvm.RoadKit.acmp (g := (mkF m 11 #[rv a_PARALLEL_STARTED] [(.ref a_PIPELINE_FAILED), (.ref a_PARALLEL_STARTED)])) X82 hx rfl rfl rfl (pc0 := 11) (pc' := 14) (same := false) rfl (hb hby d1_11) rfl (decide_eq_false fun q => (own_ne R_PARALLEL_STARTED_ordinal R_PIPELINE_FAILED_ordinal (by decide)) (Value.ref.inj q)) (by decide) (by decide) ?_
    show Steps _ _ _ (T82.setTop (mkF m 14 #[rv a_PARALLEL_STARTED] [])) _
    refine XS.aloadN X82.here hx rfl (hb hby d1_14) rfl rfl ?_
    show Steps _ _ _ (T82.setTop (mkF m 15 #[rv a_PARALLEL_STARTED] [(.ref a_PARALLEL_STARTED)])) _
    exact q
  obtain ⟨T84, X84, e84, st84⟩ := getS2 X82 hx hZ hown (host := "") (Or.inl (hw _ (wd 48 rfl))) Via.refl e82 (S_PIPELINE_STOPPED.ext O0.2) (g := (mkF m 15 #[rv a_PARALLEL_STARTED] [(.ref a_PARALLEL_STARTED)])) rfl (hb hby d1_15)
  have k_85 : Go p.tables e below (s₁.setTop (entryFrame m #[(.ref a_PARALLEL_STARTED)] 1)) (T84.setTop (mkF m 22 #[rv a_PARALLEL_STARTED] [(.ref a_PARALLEL_STARTED)])) := fun t q => by
    refine k_83 t ?_
    refine st84 _ ?_
    show Steps _ _ _ (T84.setTop (mkF m 18 #[rv a_PARALLEL_STARTED] [(.ref a_PIPELINE_STOPPED), (.ref a_PARALLEL_STARTED)])) _
    refine Jvm.RoadKit.acmp (g := (mkF m 18 #[rv a_PARALLEL_STARTED] [(.ref a_PIPELINE_STOPPED), (.ref a_PARALLEL_STARTED)])) X84 hx rfl rfl rfl (pc0 := 18) (pc' := 21) (same := false) rfl (hb hby d1_18) rfl (decide_eq_false fun q => (own_ne R_PARALLEL_STARTED_ordinal R_PIPELINE_STOPPED_ordinal (by decide)) (Value.ref.inj q)) (by decide) (by decide) ?_
    show Steps _ _ _ (T84.setTop (mkF m 21 #[rv a_PARALLEL_STARTED] [])) _
    refine XS.aloadN X84.here hx rfl (hb hby d1_21) rfl rfl ?_
    show Steps _ _ _ (T84.setTop (mkF m 22 #[rv a_PARALLEL_STARTED] [(.ref a_PARALLEL_STARTED)])) _
    exact q
  obtain ⟨T86, X86, e86, st86⟩ := getS2 X84 hx hZ hown (host := "") (Or.inl (hw _ (wd 49 rfl))) Via.refl e84 (S_PIPELINE_CANCELLED.ext O0.2) (g := (mkF m 22 #[rv a_PARALLEL_STARTED] [(.ref a_PARALLEL_STARTED)])) rfl (hb hby d1_22)
  have k_87 : Go p.tables e below (s₁.setTop (entryFrame m #[(.ref a_PARALLEL_STARTED)] 1)) (T86.setTop (mkF m 33 #[rv a_PARALLEL_STARTED] [(.int 0)])) := fun t q => by
    refine k_85 t ?_
    refine st86 _ ?_
    show Steps _ _ _ (T86.setTop (mkF m 25 #[rv a_PARALLEL_STARTED] [(.ref a_PIPELINE_CANCELLED), (.ref a_PARALLEL_STARTED)])) _
    refine Jvm.RoadKit.acmp (g := (mkF m 25 #[rv a_PARALLEL_STARTED] [(.ref a_PIPELINE_CANCELLED), (.ref a_PARALLEL_STARTED)])) X86 hx rfl rfl rfl (pc0 := 25) (pc' := 32) (same := false) rfl (hb hby d1_25) rfl (decide_eq_false fun q => (own_ne R_PARALLEL_STARTED_ordinal R_PIPELINE_CANCELLED_ordinal (by decide)) (Value.ref.inj q)) (by decide) (by decide) ?_
    show Steps _ _ _ (T86.setTop (mkF m 32 #[rv a_PARALLEL_STARTED] [])) _
    refine XS.iconst X86.here hx rfl (hb hby d1_32) ?_
    show Steps _ _ _ (T86.setTop (mkF m 33 #[rv a_PARALLEL_STARTED] [(.int 0)])) _
    exact q
  obtain ⟨fs, hr, hrun, hended, hW, hsame⟩ := X86.leave (v := some (.int 0)) (fun h => by rw [Bd.returns] at h; cases h)
  refine ⟨_, _, k_87 _ ?_, hrun, hended, _, _, rfl, ?_, ⟨_, rfl⟩, hW, hsame.mono (by decide) (by decide)⟩
  · exact retN X86 hx (t := .boolean) Bd.returns (by simp) (hb hby d1_33) hr
  · show QV (some (.int 0)) h0 n0 _ T86.heap _
    rw [e86]
    exact ⟨rfl, N0, rfl⟩
set_option maxRecDepth 65536 in
set_option maxHeartbeats 40000000 in
theorem ew_11 (l : Launch) (Z : State) (a0 : Array Value) (hw : ∀ d ∈ tables_1, d.before a0 Z = true) (ws : List Jvm.Cond) (a_PIPELINE_STARTED a_PIPELINE_RESUMED a_PIPELINE_COMPLETED a_PIPELINE_FAILED a_PIPELINE_STOPPED a_PIPELINE_CANCELLED a_STAGE_STARTED a_STAGE_COMPLETED a_STAGE_FAILED a_STAGE_RETRYING a_PARALLEL_STARTED a_PARALLEL_BRANCH_STARTED a_PARALLEL_BRANCH_COMPLETED a_PARALLEL_COMPLETED a_INTERVIEW_STARTED a_INTERVIEW_COMPLETED a_INTERVIEW_TIMEOUT a_CHECKPOINT_SAVED : Addr) (G : Own Z a_PIPELINE_STARTED a_PIPELINE_RESUMED a_PIPELINE_COMPLETED a_PIPELINE_FAILED a_PIPELINE_STOPPED a_PIPELINE_CANCELLED a_STAGE_STARTED a_STAGE_COMPLETED a_STAGE_FAILED a_STAGE_RETRYING a_PARALLEL_STARTED a_PARALLEL_BRANCH_STARTED a_PARALLEL_BRANCH_COMPLETED a_PARALLEL_COMPLETED a_INTERVIEW_STARTED a_INTERVIEW_COMPLETED a_INTERVIEW_TIMEOUT a_CHECKPOINT_SAVED)  (h0 : Heap) (n0 : Nat) (O0 : Old Z n0 h0)  :
    MetFree l y_0 (head1 (Jvm.Cond.code y_0 prog_29_method_7_code 1 (some .boolean) :: ws) ({ frames := 0, cells := 0, slots := 0, locals := 0 } : Room)) (fun a U => a = #[(.ref a_PARALLEL_BRANCH_STARTED)] ∧ Z.Warmed39 U.vm ∧ U.heap = h0) (fun _ _ _ _ _ => True) (fun _ U o U' => ∃ v L, o = .returned v ∧ QV (some (.int 0)) h0 n0 v U'.heap L ∧ FrameEnd U o U' L ({ frames := 0, cells := 0, slots := 0, locals := 0 } : Room).cells ({ frames := 0, cells := 0, slots := 0, locals := 0 } : Room).slots) := by
  refine MetFree.of_bodySF (plainFor_of_name pn_0) hisR ?_
  intro p e s m args below meth c s₁ Bd hml0 hP hK
  obtain ⟨rfl, hZ, hh⟩ := hP
  have hx := Bd.exec
  have hby := Bd.bytes
  have hml : c.maxLocals = 1 := hml0
  have hown : s.vm.findClass "com/example/theseus/theseus/engine/EventType" = some m.cls := findClass_of_methodNamed Bd.named
  have hnm := (name_of_methodNamed Bd.named Bd.method).1
  have X0 : Stand p l e ({ frames := 0, cells := 0, slots := 0, locals := 0 } : Room) s m #[(.ref a_PARALLEL_BRANCH_STARTED)] below meth c s₁ [] 0 0 := Stand.of_body Bd
  have e0 : s₁.heap = h0 := by rw [← hh, Bd.state]; rfl
  have N0 := Fr.nil n0
  have K0 := Keep.refl h0 []
  have k0 : Go p.tables e below (s₁.setTop (entryFrame m #[(.ref a_PARALLEL_BRANCH_STARTED)] 1)) (s₁.setTop (mkF m 0 #[rv a_PARALLEL_BRANCH_STARTED] [])) := fun t k => castTop (by first | rfl | (simp [entryFrame, mkF, argsToLocals, Value.category]; done)) k
  have ⟨S_PIPELINE_STARTED, E_PIPELINE_STARTED, S_PIPELINE_RESUMED, E_PIPELINE_RESUMED, S_PIPELINE_COMPLETED, E_PIPELINE_COMPLETED, S_PIPELINE_FAILED, E_PIPELINE_FAILED, S_PIPELINE_STOPPED, E_PIPELINE_STOPPED, S_PIPELINE_CANCELLED, E_PIPELINE_CANCELLED, S_STAGE_STARTED, E_STAGE_STARTED, S_STAGE_COMPLETED, E_STAGE_COMPLETED, S_STAGE_FAILED, E_STAGE_FAILED, S_STAGE_RETRYING, E_STAGE_RETRYING, S_PARALLEL_STARTED, E_PARALLEL_STARTED, S_PARALLEL_BRANCH_STARTED, E_PARALLEL_BRANCH_STARTED, S_PARALLEL_BRANCH_COMPLETED, E_PARALLEL_BRANCH_COMPLETED, S_PARALLEL_COMPLETED, E_PARALLEL_COMPLETED, S_INTERVIEW_STARTED, E_INTERVIEW_STARTED, S_INTERVIEW_COMPLETED, E_INTERVIEW_COMPLETED, S_INTERVIEW_TIMEOUT, E_INTERVIEW_TIMEOUT, S_CHECKPOINT_SAVED, E_CHECKPOINT_SAVED, R_PIPELINE_STARTED_ordinal, R_PIPELINE_COMPLETED_ordinal, R_PIPELINE_FAILED_ordinal, R_PIPELINE_STOPPED_ordinal, R_PIPELINE_CANCELLED_ordinal, R_PIPELINE_RESUMED_ordinal, R_STAGE_COMPLETED_ordinal, R_PARALLEL_BRANCH_STARTED_ordinal, R_STAGE_FAILED_ordinal, R_PARALLEL_BRANCH_COMPLETED_ordinal, R_INTERVIEW_TIMEOUT_ordinal, R_INTERVIEW_COMPLETED_ordinal, R_PARALLEL_STARTED_ordinal, R_PARALLEL_COMPLETED_ordinal, R_STAGE_STARTED_ordinal, R_CHECKPOINT_SAVED_ordinal, R_INTERVIEW_STARTED_ordinal, R_STAGE_RETRYING_ordinal⟩ := G
  have k_88 : Go p.tables e below (s₁.setTop (entryFrame m #[(.ref a_PARALLEL_BRANCH_STARTED)] 1)) (s₁.setTop (mkF m 1 #[rv a_PARALLEL_BRANCH_STARTED] [(.ref a_PARALLEL_BRANCH_STARTED)])) := fun t q => by
    refine k0 t ?_
    refine XS.aloadN X0.here hx rfl (hb hby d1_0) rfl rfl ?_
    show Steps _ _ _ (s₁.setTop (mkF m 1 #[rv a_PARALLEL_BRANCH_STARTED] [(.ref a_PARALLEL_BRANCH_STARTED)])) _
    exact q
  obtain ⟨T89, X89, e89, st89⟩ := getS2 X0 hx hZ hown (host := "") (Or.inl (hw _ (wd 46 rfl))) Via.refl e0 (S_PIPELINE_COMPLETED.ext O0.2) (g := (mkF m 1 #[rv a_PARALLEL_BRANCH_STARTED] [(.ref a_PARALLEL_BRANCH_STARTED)])) rfl (hb hby d1_1)
  have k_90 : Go p.tables e below (s₁.setTop (entryFrame m #[(.ref a_PARALLEL_BRANCH_STARTED)] 1)) (T89.setTop (mkF m 8 #[rv a_PARALLEL_BRANCH_STARTED] [(.ref a_PARALLEL_BRANCH_STARTED)])) := fun t q => by
    refine k_88 t ?_
    refine st89 _ ?_
    show Steps _ _ _ (T89.setTop (mkF m 4 #[rv a_PARALLEL_BRANCH_STARTED] [(.ref a_PIPELINE_COMPLETED), (.ref a_PARALLEL_BRANCH_STARTED)])) _
    refine Jvm.RoadKit.acmp (g := (mkF m 4 #[rv a_PARALLEL_BRANCH_STARTED] [(.ref a_PIPELINE_COMPLETED), (.ref a_PARALLEL_BRANCH_STARTED)])) X89 hx rfl rfl rfl (pc0 := 4) (pc' := 7) (same := false) rfl (hb hby d1_4) rfl (decide_eq_false fun q => (own_ne R_PARALLEL_BRANCH_STARTED_ordinal R_PIPELINE_COMPLETED_ordinal (by decide)) (Value.ref.inj q)) (by decide) (by decide) ?_
    show Steps _ _ _ (T89.setTop (mkF m 7 #[rv a_PARALLEL_BRANCH_STARTED] [])) _
    refine XS.aloadN X89.here hx rfl (hb hby d1_7) rfl rfl ?_
    show Steps _ _ _ (T89.setTop (mkF m 8 #[rv a_PARALLEL_BRANCH_STARTED] [(.ref a_PARALLEL_BRANCH_STARTED)])) _
    exact q
  obtain ⟨T91, X91, e91, st91⟩ := getS2 X89 hx hZ hown (host := "") (Or.inl (hw _ (wd 47 rfl))) Via.refl e89 (S_PIPELINE_FAILED.ext O0.2) (g := (mkF m 8 #[rv a_PARALLEL_BRANCH_STARTED] [(.ref a_PARALLEL_BRANCH_STARTED)])) rfl (hb hby d1_8)
  have k_92 : Go p.tables e below (s₁.setTop (entryFrame m #[(.ref a_PARALLEL_BRANCH_STARTED)] 1)) (T91.setTop (mkF m 15 #[rv a_PARALLEL_BRANCH_STARTED] [(.ref a_PARALLEL_BRANCH_STARTED)])) := fun t q => by
    refine k_90 t ?_
    refine st91 _ ?_
    show Steps _ _ _ (T91.setTop (mkF m 11 #[rv a_PARALLEL_BRANCH_STARTED] [(.ref a_PIPELINE_FAILED), (.ref a_PARALLEL_BRANCH_STARTED)])) _
    refine Jvm.RoadKit.acmp (g := (mkF m 11 #[rv a_PARALLEL_BRANCH_STARTED] [(.ref a_PIPELINE_FAILED), (.ref a_PARALLEL_BRANCH_STARTED)])) X91 hx rfl rfl rfl (pc0 := 11) (pc' := 14) (same := false) rfl (hb hby d1_11) rfl (decide_eq_false fun q => (own_ne R_PARALLEL_BRANCH_STARTED_ordinal R_PIPELINE_FAILED_ordinal (by decide)) (Value.ref.inj q)) (by decide) (by decide) ?_
    show Steps _ _ _ (T91.setTop (mkF m 14 #[rv a_PARALLEL_BRANCH_STARTED] [])) _
    refine XS.aloadN X91.here hx rfl (hb hby d1_14) rfl rfl ?_
    show Steps _ _ _ (T91.setTop (mkF m 15 #[rv a_PARALLEL_BRANCH_STARTED] [(.ref a_PARALLEL_BRANCH_STARTED)])) _
    exact q
  obtain ⟨T93, X93, e93, st93⟩ := getS2 X91 hx hZ hown (host := "") (Or.inl (hw _ (wd 48 rfl))) Via.refl e91 (S_PIPELINE_STOPPED.ext O0.2) (g := (mkF m 15 #[rv a_PARALLEL_BRANCH_STARTED] [(.ref a_PARALLEL_BRANCH_STARTED)])) rfl (hb hby d1_15)
  have k_94 : Go p.tables e below (s₁.setTop (entryFrame m #[(.ref a_PARALLEL_BRANCH_STARTED)] 1)) (T93.setTop (mkF m 22 #[rv a_PARALLEL_BRANCH_STARTED] [(.ref a_PARALLEL_BRANCH_STARTED)])) := fun t q => by
    refine k_92 t ?_
    refine st93 _ ?_
    show Steps _ _ _ (T93.setTop (mkF m 18 #[rv a_PARALLEL_BRANCH_STARTED] [(.ref a_PIPELINE_STOPPED), (.ref a_PARALLEL_BRANCH_STARTED)])) _
    refine Jvm.RoadKit.acmp (g := (mkF m 18 #[rv a_PARALLEL_BRANCH_STARTED] [(.ref a_PIPELINE_STOPPED), (.ref a_PARALLEL_BRANCH_STARTED)])) X93 hx rfl rfl rfl (pc0 := 18) (pc' := 21) (same := false) rfl (hb hby d1_18) rfl (decide_eq_false fun q => (own_ne R_PARALLEL_BRANCH_STARTED_ordinal R_PIPELINE_STOPPED_ordinal (by decide)) (Value.ref.inj q)) (by decide) (by decide) ?_
    show Steps _ _ _ (T93.setTop (mkF m 21 #[rv a_PARALLEL_BRANCH_STARTED] [])) _
    refine XS.aloadN X93.here hx rfl (hb hby d1_21) rfl rfl ?_
    show Steps _ _ _ (T93.setTop (mkF m 22 #[rv a_PARALLEL_BRANCH_STARTED] [(.ref a_PARALLEL_BRANCH_STARTED)])) _
    exact q
  obtain ⟨T95, X95, e95, st95⟩ := getS2 X93 hx hZ hown (host := "") (Or.inl (hw _ (wd 49 rfl))) Via.refl e93 (S_PIPELINE_CANCELLED.ext O0.2) (g := (mkF m 22 #[rv a_PARALLEL_BRANCH_STARTED] [(.ref a_PARALLEL_BRANCH_STARTED)])) rfl (hb hby d1_22)
  have k_96 : Go p.tables e below (s₁.setTop (entryFrame m #[(.ref a_PARALLEL_BRANCH_STARTED)] 1)) (T95.setTop (mkF m 33 #[rv a_PARALLEL_BRANCH_STARTED] [(.int 0)])) := fun t q => by
    refine k_94 t ?_
    refine st95 _ ?_
    show Steps _ _ _ (T95.setTop (mkF m 25 #[rv a_PARALLEL_BRANCH_STARTED] [(.ref a_PIPELINE_CANCELLED), (.ref a_PARALLEL_BRANCH_STARTED)])) _
    refine Jvm.RoadKit.acmp (g := (mkF m 25 #[rv a_PARALLEL_BRANCH_STARTED] [(.ref a_PIPELINE_CANCELLED), (.ref a_PARALLEL_BRANCH_STARTED)])) X95 hx rfl rfl rfl (pc0 := 25) (pc' := 32) (same := false) rfl (hb hby d1_25) rfl (decide_eq_false fun q => (own_ne R_PARALLEL_BRANCH_STARTED_ordinal R_PIPELINE_CANCELLED_ordinal (by decide)) (Value.ref.inj q)) (by decide) (by decide) ?_
    show Steps _ _ _ (T95.setTop (mkF m 32 #[rv a_PARALLEL_BRANCH_STARTED] [])) _
    refine XS.iconst X95.here hx rfl (hb hby d1_32) ?_
    show Steps _ _ _ (T95.setTop (mkF m 33 #[rv a_PARALLEL_BRANCH_STARTED] [(.int 0)])) _
    exact q
  obtain ⟨fs, hr, hrun, hended, hW, hsame⟩ := X95.leave (v := some (.int 0)) (fun h => by rw [Bd.returns] at h; cases h)
  refine ⟨_, _, k_96 _ ?_, hrun, hended, _, _, rfl, ?_, ⟨_, rfl⟩, hW, hsame.mono (by decide) (by decide)⟩
  · exact retN X95 hx (t := .boolean) Bd.returns (by simp) (hb hby d1_33) hr
  · show QV (some (.int 0)) h0 n0 _ T95.heap _
    rw [e95]
    exact ⟨rfl, N0, rfl⟩
set_option maxRecDepth 65536 in
set_option maxHeartbeats 40000000 in
theorem ew_12 (l : Launch) (Z : State) (a0 : Array Value) (hw : ∀ d ∈ tables_1, d.before a0 Z = true) (ws : List Jvm.Cond) (a_PIPELINE_STARTED a_PIPELINE_RESUMED a_PIPELINE_COMPLETED a_PIPELINE_FAILED a_PIPELINE_STOPPED a_PIPELINE_CANCELLED a_STAGE_STARTED a_STAGE_COMPLETED a_STAGE_FAILED a_STAGE_RETRYING a_PARALLEL_STARTED a_PARALLEL_BRANCH_STARTED a_PARALLEL_BRANCH_COMPLETED a_PARALLEL_COMPLETED a_INTERVIEW_STARTED a_INTERVIEW_COMPLETED a_INTERVIEW_TIMEOUT a_CHECKPOINT_SAVED : Addr) (G : Own Z a_PIPELINE_STARTED a_PIPELINE_RESUMED a_PIPELINE_COMPLETED a_PIPELINE_FAILED a_PIPELINE_STOPPED a_PIPELINE_CANCELLED a_STAGE_STARTED a_STAGE_COMPLETED a_STAGE_FAILED a_STAGE_RETRYING a_PARALLEL_STARTED a_PARALLEL_BRANCH_STARTED a_PARALLEL_BRANCH_COMPLETED a_PARALLEL_COMPLETED a_INTERVIEW_STARTED a_INTERVIEW_COMPLETED a_INTERVIEW_TIMEOUT a_CHECKPOINT_SAVED)  (h0 : Heap) (n0 : Nat) (O0 : Old Z n0 h0)  :
    MetFree l y_0 (head1 (Jvm.Cond.code y_0 prog_29_method_7_code 1 (some .boolean) :: ws) ({ frames := 0, cells := 0, slots := 0, locals := 0 } : Room)) (fun a U => a = #[(.ref a_PARALLEL_BRANCH_COMPLETED)] ∧ Z.Warmed39 U.vm ∧ U.heap = h0) (fun _ _ _ _ _ => True) (fun _ U o U' => ∃ v L, o = .returned v ∧ QV (some (.int 0)) h0 n0 v U'.heap L ∧ FrameEnd U o U' L ({ frames := 0, cells := 0, slots := 0, locals := 0 } : Room).cells ({ frames := 0, cells := 0, slots := 0, locals := 0 } : Room).slots) := by
  refine MetFree.of_bodySF (plainFor_of_name pn_0) hisR ?_
  intro p e s m args below meth c s₁ Bd hml0 hP hK
  obtain ⟨rfl, hZ, hh⟩ := hP
  have hx := Bd.exec
  have hby := Bd.bytes
  have hml : c.maxLocals = 1 := hml0
  have hown : s.vm.findClass "com/example/theseus/theseus/engine/EventType" = some m.cls := findClass_of_methodNamed Bd.named
  have hnm := (name_of_methodNamed Bd.named Bd.method).1
  have X0 : Stand p l e ({ frames := 0, cells := 0, slots := 0, locals := 0 } : Room) s m #[(.ref a_PARALLEL_BRANCH_COMPLETED)] below meth c s₁ [] 0 0 := Stand.of_body Bd
  have e0 : s₁.heap = h0 := by rw [← hh, Bd.state]; rfl
  have N0 := Fr.nil n0
  have K0 := Keep.refl h0 []
  have k0 : Go p.tables e below (s₁.setTop (entryFrame m #[(.ref a_PARALLEL_BRANCH_COMPLETED)] 1)) (s₁.setTop (mkF m 0 #[rv a_PARALLEL_BRANCH_COMPLETED] [])) := fun t k => castTop (by first | rfl | (simp [entryFrame, mkF, argsToLocals, Value.category]; done)) k
  have ⟨S_PIPELINE_STARTED, E_PIPELINE_STARTED, S_PIPELINE_RESUMED, E_PIPELINE_RESUMED, S_PIPELINE_COMPLETED, E_PIPELINE_COMPLETED, S_PIPELINE_FAILED, E_PIPELINE_FAILED, S_PIPELINE_STOPPED, E_PIPELINE_STOPPED, S_PIPELINE_CANCELLED, E_PIPELINE_CANCELLED, S_STAGE_STARTED, E_STAGE_STARTED, S_STAGE_COMPLETED, E_STAGE_COMPLETED, S_STAGE_FAILED, E_STAGE_FAILED, S_STAGE_RETRYING, E_STAGE_RETRYING, S_PARALLEL_STARTED, E_PARALLEL_STARTED, S_PARALLEL_BRANCH_STARTED, E_PARALLEL_BRANCH_STARTED, S_PARALLEL_BRANCH_COMPLETED, E_PARALLEL_BRANCH_COMPLETED, S_PARALLEL_COMPLETED, E_PARALLEL_COMPLETED, S_INTERVIEW_STARTED, E_INTERVIEW_STARTED, S_INTERVIEW_COMPLETED, E_INTERVIEW_COMPLETED, S_INTERVIEW_TIMEOUT, E_INTERVIEW_TIMEOUT, S_CHECKPOINT_SAVED, E_CHECKPOINT_SAVED, R_PIPELINE_STARTED_ordinal, R_PIPELINE_COMPLETED_ordinal, R_PIPELINE_FAILED_ordinal, R_PIPELINE_STOPPED_ordinal, R_PIPELINE_CANCELLED_ordinal, R_PIPELINE_RESUMED_ordinal, R_STAGE_COMPLETED_ordinal, R_PARALLEL_BRANCH_STARTED_ordinal, R_STAGE_FAILED_ordinal, R_PARALLEL_BRANCH_COMPLETED_ordinal, R_INTERVIEW_TIMEOUT_ordinal, R_INTERVIEW_COMPLETED_ordinal, R_PARALLEL_STARTED_ordinal, R_PARALLEL_COMPLETED_ordinal, R_STAGE_STARTED_ordinal, R_CHECKPOINT_SAVED_ordinal, R_INTERVIEW_STARTED_ordinal, R_STAGE_RETRYING_ordinal⟩ := G
  have k_97 : Go p.tables e below (s₁.setTop (entryFrame m #[(.ref a_PARALLEL_BRANCH_COMPLETED)] 1)) (s₁.setTop (mkF m 1 #[rv a_PARALLEL_BRANCH_COMPLETED] [(.ref a_PARALLEL_BRANCH_COMPLETED)])) := fun t q => by
    refine k0 t ?_
    refine XS.aloadN X0.here hx rfl (hb hby d1_0) rfl rfl ?_
    show Steps _ _ _ (s₁.setTop (mkF m 1 #[rv a_PARALLEL_BRANCH_COMPLETED] [(.ref a_PARALLEL_BRANCH_COMPLETED)])) _
    exact q
  obtain ⟨T98, X98, e98, st98⟩ := getS2 X0 hx hZ hown (host := "") (Or.inl (hw _ (wd 46 rfl))) Via.refl e0 (S_PIPELINE_COMPLETED.ext O0.2) (g := (mkF m 1 #[rv a_PARALLEL_BRANCH_COMPLETED] [(.ref a_PARALLEL_BRANCH_COMPLETED)])) rfl (hb hby d1_1)
  have k_99 : Go p.tables e below (s₁.setTop (entryFrame m #[(.ref a_PARALLEL_BRANCH_COMPLETED)] 1)) (T98.setTop (mkF m 8 #[rv a_PARALLEL_BRANCH_COMPLETED] [(.ref a_PARALLEL_BRANCH_COMPLETED)])) := fun t q => by
    refine k_97 t ?_
    refine st98 _ ?_
    show Steps _ _ _ (T98.setTop (mkF m 4 #[rv a_PARALLEL_BRANCH_COMPLETED] [(.ref a_PIPELINE_COMPLETED), (.ref a_PARALLEL_BRANCH_COMPLETED)])) _
    refine Jvm.RoadKit.acmp (g := (mkF m 4 #[rv a_PARALLEL_BRANCH_COMPLETED] [(.ref a_PIPELINE_COMPLETED), (.ref a_PARALLEL_BRANCH_COMPLETED)])) X98 hx rfl rfl rfl (pc0 := 4) (pc' := 7) (same := false) rfl (hb hby d1_4) rfl (decide_eq_false fun q => (own_ne R_PARALLEL_BRANCH_COMPLETED_ordinal R_PIPELINE_COMPLETED_ordinal (by decide)) (Value.ref.inj q)) (by decide) (by decide) ?_
    show Steps _ _ _ (T98.setTop (mkF m 7 #[rv a_PARALLEL_BRANCH_COMPLETED] [])) _
    refine XS.aloadN X98.here hx rfl (hb hby d1_7) rfl rfl ?_
    show Steps _ _ _ (T98.setTop (mkF m 8 #[rv a_PARALLEL_BRANCH_COMPLETED] [(.ref a_PARALLEL_BRANCH_COMPLETED)])) _
    exact q
  obtain ⟨T100, X100, e100, st100⟩ := getS2 X98 hx hZ hown (host := "") (Or.inl (hw _ (wd 47 rfl))) Via.refl e98 (S_PIPELINE_FAILED.ext O0.2) (g := (mkF m 8 #[rv a_PARALLEL_BRANCH_COMPLETED] [(.ref a_PARALLEL_BRANCH_COMPLETED)])) rfl (hb hby d1_8)
  have k_101 : Go p.tables e below (s₁.setTop (entryFrame m #[(.ref a_PARALLEL_BRANCH_COMPLETED)] 1)) (T100.setTop (mkF m 15 #[rv a_PARALLEL_BRANCH_COMPLETED] [(.ref a_PARALLEL_BRANCH_COMPLETED)])) := fun t q => by
    refine k_99 t ?_
    refine st100 _ ?_
    show Steps _ _ _ (T100.setTop (mkF m 11 #[rv a_PARALLEL_BRANCH_COMPLETED] [(.ref a_PIPELINE_FAILED), (.ref a_PARALLEL_BRANCH_COMPLETED)])) _
    refine Jvm.RoadKit.acmp (g := (mkF m 11 #[rv a_PARALLEL_BRANCH_COMPLETED] [(.ref a_PIPELINE_FAILED), (.ref a_PARALLEL_BRANCH_COMPLETED)])) X100 hx rfl rfl rfl (pc0 := 11) (pc' := 14) (same := false) rfl (hb hby d1_11) rfl (decide_eq_false fun q => (own_ne R_PARALLEL_BRANCH_COMPLETED_ordinal R_PIPELINE_FAILED_ordinal (by decide)) (Value.ref.inj q)) (by decide) (by decide) ?_
    show Steps _ _ _ (T100.setTop (mkF m 14 #[rv a_PARALLEL_BRANCH_COMPLETED] [])) _
    refine XS.aloadN X100.here hx rfl (hb hby d1_14) rfl rfl ?_
    show Steps _ _ _ (T100.setTop (mkF m 15 #[rv a_PARALLEL_BRANCH_COMPLETED] [(.ref a_PARALLEL_BRANCH_COMPLETED)])) _
    exact q
  obtain ⟨T102, X102, e102, st102⟩ := getS2 X100 hx hZ hown (host := "") (Or.inl (hw _ (wd 48 rfl))) Via.refl e100 (S_PIPELINE_STOPPED.ext O0.2) (g := (mkF m 15 #[rv a_PARALLEL_BRANCH_COMPLETED] [(.ref a_PARALLEL_BRANCH_COMPLETED)])) rfl (hb hby d1_15)
  have k_103 : Go p.tables e below (s₁.setTop (entryFrame m #[(.ref a_PARALLEL_BRANCH_COMPLETED)] 1)) (T102.setTop (mkF m 22 #[rv a_PARALLEL_BRANCH_COMPLETED] [(.ref a_PARALLEL_BRANCH_COMPLETED)])) := fun t q => by
    refine k_101 t ?_
    refine st102 _ ?_
    show Steps _ _ _ (T102.setTop (mkF m 18 #[rv a_PARALLEL_BRANCH_COMPLETED] [(.ref a_PIPELINE_STOPPED), (.ref a_PARALLEL_BRANCH_COMPLETED)])) _
    refine Jvm.RoadKit.acmp (g := (mkF m 18 #[rv a_PARALLEL_BRANCH_COMPLETED] [(.ref a_PIPELINE_STOPPED), (.ref a_PARALLEL_BRANCH_COMPLETED)])) X102 hx rfl rfl rfl (pc0 := 18) (pc' := 21) (same := false) rfl (hb hby d1_18) rfl (decide_eq_false fun q => (own_ne R_PARALLEL_BRANCH_COMPLETED_ordinal R_PIPELINE_STOPPED_ordinal (by decide)) (Value.ref.inj q)) (by decide) (by decide) ?_
    show Steps _ _ _ (T102.setTop (mkF m 21 #[rv a_PARALLEL_BRANCH_COMPLETED] [])) _
    refine XS.aloadN X102.here hx rfl (hb hby d1_21) rfl rfl ?_
    show Steps _ _ _ (T102.setTop (mkF m 22 #[rv a_PARALLEL_BRANCH_COMPLETED] [(.ref a_PARALLEL_BRANCH_COMPLETED)])) _
    exact q
  obtain ⟨T104, X104, e104, st104⟩ := getS2 X102 hx hZ hown (host := "") (Or.inl (hw _ (wd 49 rfl))) Via.refl e102 (S_PIPELINE_CANCELLED.ext O0.2) (g := (mkF m 22 #[rv a_PARALLEL_BRANCH_COMPLETED] [(.ref a_PARALLEL_BRANCH_COMPLETED)])) rfl (hb hby d1_22)
  have k_105 : Go p.tables e below (s₁.setTop (entryFrame m #[(.ref a_PARALLEL_BRANCH_COMPLETED)] 1)) (T104.setTop (mkF m 33 #[rv a_PARALLEL_BRANCH_COMPLETED] [(.int 0)])) := fun t q => by
    refine k_103 t ?_
    refine st104 _ ?_
    show Steps _ _ _ (T104.setTop (mkF m 25 #[rv a_PARALLEL_BRANCH_COMPLETED] [(.ref a_PIPELINE_CANCELLED), (.ref a_PARALLEL_BRANCH_COMPLETED)])) _
    refine Jvm.RoadKit.acmp (g := (mkF m 25 #[rv a_PARALLEL_BRANCH_COMPLETED] [(.ref a_PIPELINE_CANCELLED), (.ref a_PARALLEL_BRANCH_COMPLETED)])) X104 hx rfl rfl rfl (pc0 := 25) (pc' := 32) (same := false) rfl (hb hby d1_25) rfl (decide_eq_false fun q => (own_ne R_PARALLEL_BRANCH_COMPLETED_ordinal R_PIPELINE_CANCELLED_ordinal (by decide)) (Value.ref.inj q)) (by decide) (by decide) ?_
    show Steps _ _ _ (T104.setTop (mkF m 32 #[rv a_PARALLEL_BRANCH_COMPLETED] [])) _
    refine XS.iconst X104.here hx rfl (hb hby d1_32) ?_
    show Steps _ _ _ (T104.setTop (mkF m 33 #[rv a_PARALLEL_BRANCH_COMPLETED] [(.int 0)])) _
    exact q
  obtain ⟨fs, hr, hrun, hended, hW, hsame⟩ := X104.leave (v := some (.int 0)) (fun h => by rw [Bd.returns] at h; cases h)
  refine ⟨_, _, k_105 _ ?_, hrun, hended, _, _, rfl, ?_, ⟨_, rfl⟩, hW, hsame.mono (by decide) (by decide)⟩
  · exact retN X104 hx (t := .boolean) Bd.returns (by simp) (hb hby d1_33) hr
  · show QV (some (.int 0)) h0 n0 _ T104.heap _
    rw [e104]
    exact ⟨rfl, N0, rfl⟩
set_option maxRecDepth 65536 in
set_option maxHeartbeats 40000000 in
theorem ew_13 (l : Launch) (Z : State) (a0 : Array Value) (hw : ∀ d ∈ tables_1, d.before a0 Z = true) (ws : List Jvm.Cond) (a_PIPELINE_STARTED a_PIPELINE_RESUMED a_PIPELINE_COMPLETED a_PIPELINE_FAILED a_PIPELINE_STOPPED a_PIPELINE_CANCELLED a_STAGE_STARTED a_STAGE_COMPLETED a_STAGE_FAILED a_STAGE_RETRYING a_PARALLEL_STARTED a_PARALLEL_BRANCH_STARTED a_PARALLEL_BRANCH_COMPLETED a_PARALLEL_COMPLETED a_INTERVIEW_STARTED a_INTERVIEW_COMPLETED a_INTERVIEW_TIMEOUT a_CHECKPOINT_SAVED : Addr) (G : Own Z a_PIPELINE_STARTED a_PIPELINE_RESUMED a_PIPELINE_COMPLETED a_PIPELINE_FAILED a_PIPELINE_STOPPED a_PIPELINE_CANCELLED a_STAGE_STARTED a_STAGE_COMPLETED a_STAGE_FAILED a_STAGE_RETRYING a_PARALLEL_STARTED a_PARALLEL_BRANCH_STARTED a_PARALLEL_BRANCH_COMPLETED a_PARALLEL_COMPLETED a_INTERVIEW_STARTED a_INTERVIEW_COMPLETED a_INTERVIEW_TIMEOUT a_CHECKPOINT_SAVED)  (h0 : Heap) (n0 : Nat) (O0 : Old Z n0 h0)  :
    MetFree l y_0 (head1 (Jvm.Cond.code y_0 prog_29_method_7_code 1 (some .boolean) :: ws) ({ frames := 0, cells := 0, slots := 0, locals := 0 } : Room)) (fun a U => a = #[(.ref a_PARALLEL_COMPLETED)] ∧ Z.Warmed39 U.vm ∧ U.heap = h0) (fun _ _ _ _ _ => True) (fun _ U o U' => ∃ v L, o = .returned v ∧ QV (some (.int 0)) h0 n0 v U'.heap L ∧ FrameEnd U o U' L ({ frames := 0, cells := 0, slots := 0, locals := 0 } : Room).cells ({ frames := 0, cells := 0, slots := 0, locals := 0 } : Room).slots) := by
  refine MetFree.of_bodySF (plainFor_of_name pn_0) hisR ?_
  intro p e s m args below meth c s₁ Bd hml0 hP hK
  obtain ⟨rfl, hZ, hh⟩ := hP
  have hx := Bd.exec
  have hby := Bd.bytes
  have hml : c.maxLocals = 1 := hml0
  have hown : s.vm.findClass "com/example/theseus/theseus/engine/EventType" = some m.cls := findClass_of_methodNamed Bd.named
  have hnm := (name_of_methodNamed Bd.named Bd.method).1
  have X0 : Stand p l e ({ frames := 0, cells := 0, slots := 0, locals := 0 } : Room) s m #[(.ref a_PARALLEL_COMPLETED)] below meth c s₁ [] 0 0 := Stand.of_body Bd
  have e0 : s₁.heap = h0 := by rw [← hh, Bd.state]; rfl
  have N0 := Fr.nil n0
  have K0 := Keep.refl h0 []
  have k0 : Go p.tables e below (s₁.setTop (entryFrame m #[(.ref a_PARALLEL_COMPLETED)] 1)) (s₁.setTop (mkF m 0 #[rv a_PARALLEL_COMPLETED] [])) := fun t k => castTop (by first | rfl | (simp [entryFrame, mkF, argsToLocals, Value.category]; done)) k
  have ⟨S_PIPELINE_STARTED, E_PIPELINE_STARTED, S_PIPELINE_RESUMED, E_PIPELINE_RESUMED, S_PIPELINE_COMPLETED, E_PIPELINE_COMPLETED, S_PIPELINE_FAILED, E_PIPELINE_FAILED, S_PIPELINE_STOPPED, E_PIPELINE_STOPPED, S_PIPELINE_CANCELLED, E_PIPELINE_CANCELLED, S_STAGE_STARTED, E_STAGE_STARTED, S_STAGE_COMPLETED, E_STAGE_COMPLETED, S_STAGE_FAILED, E_STAGE_FAILED, S_STAGE_RETRYING, E_STAGE_RETRYING, S_PARALLEL_STARTED, E_PARALLEL_STARTED, S_PARALLEL_BRANCH_STARTED, E_PARALLEL_BRANCH_STARTED, S_PARALLEL_BRANCH_COMPLETED, E_PARALLEL_BRANCH_COMPLETED, S_PARALLEL_COMPLETED, E_PARALLEL_COMPLETED, S_INTERVIEW_STARTED, E_INTERVIEW_STARTED, S_INTERVIEW_COMPLETED, E_INTERVIEW_COMPLETED, S_INTERVIEW_TIMEOUT, E_INTERVIEW_TIMEOUT, S_CHECKPOINT_SAVED, E_CHECKPOINT_SAVED, R_PIPELINE_STARTED_ordinal, R_PIPELINE_COMPLETED_ordinal, R_PIPELINE_FAILED_ordinal, R_PIPELINE_STOPPED_ordinal, R_PIPELINE_CANCELLED_ordinal, R_PIPELINE_RESUMED_ordinal, R_STAGE_COMPLETED_ordinal, R_PARALLEL_BRANCH_STARTED_ordinal, R_STAGE_FAILED_ordinal, R_PARALLEL_BRANCH_COMPLETED_ordinal, R_INTERVIEW_TIMEOUT_ordinal, R_INTERVIEW_COMPLETED_ordinal, R_PARALLEL_STARTED_ordinal, R_PARALLEL_COMPLETED_ordinal, R_STAGE_STARTED_ordinal, R_CHECKPOINT_SAVED_ordinal, R_INTERVIEW_STARTED_ordinal, R_STAGE_RETRYING_ordinal⟩ := G
  have k_106 : Go p.tables e below (s₁.setTop (entryFrame m #[(.ref a_PARALLEL_COMPLETED)] 1)) (s₁.setTop (mkF m 1 #[rv a_PARALLEL_COMPLETED] [(.ref a_PARALLEL_COMPLETED)])) := fun t q => by
    refine k0 t ?_
    refine XS.aloadN X0.here hx rfl (hb hby d1_0) rfl rfl ?_
    show Steps _ _ _ (s₁.setTop (mkF m 1 #[rv a_PARALLEL_COMPLETED] [(.ref a_PARALLEL_COMPLETED)])) _
    exact q
  obtain ⟨T107, X107, e107, st107⟩ := getS2 X0 hx hZ hown (host := "") (Or.inl (hw _ (wd 46 rfl))) Via.refl e0 (S_PIPELINE_COMPLETED.ext O0.2) (g := (mkF m 1 #[rv a_PARALLEL_COMPLETED] [(.ref a_PARALLEL_COMPLETED)])) rfl (hb hby d1_1)
  have k_108 : Go p.tables e below (s₁.setTop (entryFrame m #[(.ref a_PARALLEL_COMPLETED)] 1)) (T107.setTop (mkF m 8 #[rv a_PARALLEL_COMPLETED] [(.ref a_PARALLEL_COMPLETED)])) := fun t q => by
    refine k_106 t ?_
    refine st107 _ ?_
    show Steps _ _ _ (T107.setTop (mkF m 4 #[rv a_PARALLEL_COMPLETED] [(.ref a_PIPELINE_COMPLETED), (.ref a_PARALLEL_COMPLETED)])) _
    refine Jvm.RoadKit.acmp (g := (mkF m 4 #[rv a_PARALLEL_COMPLETED] [(.ref a_PIPELINE_COMPLETED), (.ref a_PARALLEL_COMPLETED)])) X107 hx rfl rfl rfl (pc0 := 4) (pc' := 7) (same := false) rfl (hb hby d1_4) rfl (decide_eq_false fun q => (own_ne R_PARALLEL_COMPLETED_ordinal R_PIPELINE_COMPLETED_ordinal (by decide)) (Value.ref.inj q)) (by decide) (by decide) ?_
    show Steps _ _ _ (T107.setTop (mkF m 7 #[rv a_PARALLEL_COMPLETED] [])) _
    refine XS.aloadN X107.here hx rfl (hb hby d1_7) rfl rfl ?_
    show Steps _ _ _ (T107.setTop (mkF m 8 #[rv a_PARALLEL_COMPLETED] [(.ref a_PARALLEL_COMPLETED)])) _
    exact q
  obtain ⟨T109, X109, e109, st109⟩ := getS2 X107 hx hZ hown (host := "") (Or.inl (hw _ (wd 47 rfl))) Via.refl e107 (S_PIPELINE_FAILED.ext O0.2) (g := (mkF m 8 #[rv a_PARALLEL_COMPLETED] [(.ref a_PARALLEL_COMPLETED)])) rfl (hb hby d1_8)
  have k_110 : Go p.tables e below (s₁.setTop (entryFrame m #[(.ref a_PARALLEL_COMPLETED)] 1)) (T109.setTop (mkF m 15 #[rv a_PARALLEL_COMPLETED] [(.ref a_PARALLEL_COMPLETED)])) := fun t q => by
    refine k_108 t ?_
    refine st109 _ ?_
    show Steps _ _ _ (T109.setTop (mkF m 11 #[rv a_PARALLEL_COMPLETED] [(.ref a_PIPELINE_FAILED), (.ref a_PARALLEL_COMPLETED)])) _
    refine Jvm.RoadKit.acmp (g := (mkF m 11 #[rv a_PARALLEL_COMPLETED] [(.ref a_PIPELINE_FAILED), (.ref a_PARALLEL_COMPLETED)])) X109 hx rfl rfl rfl (pc0 := 11) (pc' := 14) (same := false) rfl (hb hby d1_11) rfl (decide_eq_false fun q => (own_ne R_PARALLEL_COMPLETED_ordinal R_PIPELINE_FAILED_ordinal (by decide)) (Value.ref.inj q)) (by decide) (by decide) ?_
    show Steps _ _ _ (T109.setTop (mkF m 14 #[rv a_PARALLEL_COMPLETED] [])) _
    refine XS.aloadN X109.here hx rfl (hb hby d1_14) rfl rfl ?_
    show Steps _ _ _ (T109.setTop (mkF m 15 #[rv a_PARALLEL_COMPLETED] [(.ref a_PARALLEL_COMPLETED)])) _
    exact q
  obtain ⟨T111, X111, e111, st111⟩ := getS2 X109 hx hZ hown (host := "") (Or.inl (hw _ (wd 48 rfl))) Via.refl e109 (S_PIPELINE_STOPPED.ext O0.2) (g := (mkF m 15 #[rv a_PARALLEL_COMPLETED] [(.ref a_PARALLEL_COMPLETED)])) rfl (hb hby d1_15)
  have k_112 : Go p.tables e below (s₁.setTop (entryFrame m #[(.ref a_PARALLEL_COMPLETED)] 1)) (T111.setTop (mkF m 22 #[rv a_PARALLEL_COMPLETED] [(.ref a_PARALLEL_COMPLETED)])) := fun t q => by
    refine k_110 t ?_
    refine st111 _ ?_
    show Steps _ _ _ (T111.setTop (mkF m 18 #[rv a_PARALLEL_COMPLETED] [(.ref a_PIPELINE_STOPPED), (.ref a_PARALLEL_COMPLETED)])) _
    refine Jvm.RoadKit.acmp (g := (mkF m 18 #[rv a_PARALLEL_COMPLETED] [(.ref a_PIPELINE_STOPPED), (.ref a_PARALLEL_COMPLETED)])) X111 hx rfl rfl rfl (pc0 := 18) (pc' := 21) (same := false) rfl (hb hby d1_18) rfl (decide_eq_false fun q => (own_ne R_PARALLEL_COMPLETED_ordinal R_PIPELINE_STOPPED_ordinal (by decide)) (Value.ref.inj q)) (by decide) (by decide) ?_
    show Steps _ _ _ (T111.setTop (mkF m 21 #[rv a_PARALLEL_COMPLETED] [])) _
    refine XS.aloadN X111.here hx rfl (hb hby d1_21) rfl rfl ?_
    show Steps _ _ _ (T111.setTop (mkF m 22 #[rv a_PARALLEL_COMPLETED] [(.ref a_PARALLEL_COMPLETED)])) _
    exact q
  obtain ⟨T113, X113, e113, st113⟩ := getS2 X111 hx hZ hown (host := "") (Or.inl (hw _ (wd 49 rfl))) Via.refl e111 (S_PIPELINE_CANCELLED.ext O0.2) (g := (mkF m 22 #[rv a_PARALLEL_COMPLETED] [(.ref a_PARALLEL_COMPLETED)])) rfl (hb hby d1_22)
  have k_114 : Go p.tables e below (s₁.setTop (entryFrame m #[(.ref a_PARALLEL_COMPLETED)] 1)) (T113.setTop (mkF m 33 #[rv a_PARALLEL_COMPLETED] [(.int 0)])) := fun t q => by
    refine k_112 t ?_
    refine st113 _ ?_
    show Steps _ _ _ (T113.setTop (mkF m 25 #[rv a_PARALLEL_COMPLETED] [(.ref a_PIPELINE_CANCELLED), (.ref a_PARALLEL_COMPLETED)])) _
    refine Jvm.RoadKit.acmp (g := (mkF m 25 #[rv a_PARALLEL_COMPLETED] [(.ref a_PIPELINE_CANCELLED), (.ref a_PARALLEL_COMPLETED)])) X113 hx rfl rfl rfl (pc0 := 25) (pc' := 32) (same := false) rfl (hb hby d1_25) rfl (decide_eq_false fun q => (own_ne R_PARALLEL_COMPLETED_ordinal R_PIPELINE_CANCELLED_ordinal (by decide)) (Value.ref.inj q)) (by decide) (by decide) ?_
    show Steps _ _ _ (T113.setTop (mkF m 32 #[rv a_PARALLEL_COMPLETED] [])) _
    refine XS.iconst X113.here hx rfl (hb hby d1_32) ?_
    show Steps _ _ _ (T113.setTop (mkF m 33 #[rv a_PARALLEL_COMPLETED] [(.int 0)])) _
    exact q
  obtain ⟨fs, hr, hrun, hended, hW, hsame⟩ := X113.leave (v := some (.int 0)) (fun h => by rw [Bd.returns] at h; cases h)
  refine ⟨_, _, k_114 _ ?_, hrun, hended, _, _, rfl, ?_, ⟨_, rfl⟩, hW, hsame.mono (by decide) (by decide)⟩
  · exact retN X113 hx (t := .boolean) Bd.returns (by simp) (hb hby d1_33) hr
  · show QV (some (.int 0)) h0 n0 _ T113.heap _
    rw [e113]
    exact ⟨rfl, N0, rfl⟩
set_option maxRecDepth 65536 in
set_option maxHeartbeats 40000000 in
theorem ew_14 (l : Launch) (Z : State) (a0 : Array Value) (hw : ∀ d ∈ tables_1, d.before a0 Z = true) (ws : List Jvm.Cond) (a_PIPELINE_STARTED a_PIPELINE_RESUMED a_PIPELINE_COMPLETED a_PIPELINE_FAILED a_PIPELINE_STOPPED a_PIPELINE_CANCELLED a_STAGE_STARTED a_STAGE_COMPLETED a_STAGE_FAILED a_STAGE_RETRYING a_PARALLEL_STARTED a_PARALLEL_BRANCH_STARTED a_PARALLEL_BRANCH_COMPLETED a_PARALLEL_COMPLETED a_INTERVIEW_STARTED a_INTERVIEW_COMPLETED a_INTERVIEW_TIMEOUT a_CHECKPOINT_SAVED : Addr) (G : Own Z a_PIPELINE_STARTED a_PIPELINE_RESUMED a_PIPELINE_COMPLETED a_PIPELINE_FAILED a_PIPELINE_STOPPED a_PIPELINE_CANCELLED a_STAGE_STARTED a_STAGE_COMPLETED a_STAGE_FAILED a_STAGE_RETRYING a_PARALLEL_STARTED a_PARALLEL_BRANCH_STARTED a_PARALLEL_BRANCH_COMPLETED a_PARALLEL_COMPLETED a_INTERVIEW_STARTED a_INTERVIEW_COMPLETED a_INTERVIEW_TIMEOUT a_CHECKPOINT_SAVED)  (h0 : Heap) (n0 : Nat) (O0 : Old Z n0 h0)  :
    MetFree l y_0 (head1 (Jvm.Cond.code y_0 prog_29_method_7_code 1 (some .boolean) :: ws) ({ frames := 0, cells := 0, slots := 0, locals := 0 } : Room)) (fun a U => a = #[(.ref a_INTERVIEW_STARTED)] ∧ Z.Warmed39 U.vm ∧ U.heap = h0) (fun _ _ _ _ _ => True) (fun _ U o U' => ∃ v L, o = .returned v ∧ QV (some (.int 0)) h0 n0 v U'.heap L ∧ FrameEnd U o U' L ({ frames := 0, cells := 0, slots := 0, locals := 0 } : Room).cells ({ frames := 0, cells := 0, slots := 0, locals := 0 } : Room).slots) := by
  refine MetFree.of_bodySF (plainFor_of_name pn_0) hisR ?_
  intro p e s m args below meth c s₁ Bd hml0 hP hK
  obtain ⟨rfl, hZ, hh⟩ := hP
  have hx := Bd.exec
  have hby := Bd.bytes
  have hml : c.maxLocals = 1 := hml0
  have hown : s.vm.findClass "com/example/theseus/theseus/engine/EventType" = some m.cls := findClass_of_methodNamed Bd.named
  have hnm := (name_of_methodNamed Bd.named Bd.method).1
  have X0 : Stand p l e ({ frames := 0, cells := 0, slots := 0, locals := 0 } : Room) s m #[(.ref a_INTERVIEW_STARTED)] below meth c s₁ [] 0 0 := Stand.of_body Bd
  have e0 : s₁.heap = h0 := by rw [← hh, Bd.state]; rfl
  have N0 := Fr.nil n0
  have K0 := Keep.refl h0 []
  have k0 : Go p.tables e below (s₁.setTop (entryFrame m #[(.ref a_INTERVIEW_STARTED)] 1)) (s₁.setTop (mkF m 0 #[rv a_INTERVIEW_STARTED] [])) := fun t k => castTop (by first | rfl | (simp [entryFrame, mkF, argsToLocals, Value.category]; done)) k
  have ⟨S_PIPELINE_STARTED, E_PIPELINE_STARTED, S_PIPELINE_RESUMED, E_PIPELINE_RESUMED, S_PIPELINE_COMPLETED, E_PIPELINE_COMPLETED, S_PIPELINE_FAILED, E_PIPELINE_FAILED, S_PIPELINE_STOPPED, E_PIPELINE_STOPPED, S_PIPELINE_CANCELLED, E_PIPELINE_CANCELLED, S_STAGE_STARTED, E_STAGE_STARTED, S_STAGE_COMPLETED, E_STAGE_COMPLETED, S_STAGE_FAILED, E_STAGE_FAILED, S_STAGE_RETRYING, E_STAGE_RETRYING, S_PARALLEL_STARTED, E_PARALLEL_STARTED, S_PARALLEL_BRANCH_STARTED, E_PARALLEL_BRANCH_STARTED, S_PARALLEL_BRANCH_COMPLETED, E_PARALLEL_BRANCH_COMPLETED, S_PARALLEL_COMPLETED, E_PARALLEL_COMPLETED, S_INTERVIEW_STARTED, E_INTERVIEW_STARTED, S_INTERVIEW_COMPLETED, E_INTERVIEW_COMPLETED, S_INTERVIEW_TIMEOUT, E_INTERVIEW_TIMEOUT, S_CHECKPOINT_SAVED, E_CHECKPOINT_SAVED, R_PIPELINE_STARTED_ordinal, R_PIPELINE_COMPLETED_ordinal, R_PIPELINE_FAILED_ordinal, R_PIPELINE_STOPPED_ordinal, R_PIPELINE_CANCELLED_ordinal, R_PIPELINE_RESUMED_ordinal, R_STAGE_COMPLETED_ordinal, R_PARALLEL_BRANCH_STARTED_ordinal, R_STAGE_FAILED_ordinal, R_PARALLEL_BRANCH_COMPLETED_ordinal, R_INTERVIEW_TIMEOUT_ordinal, R_INTERVIEW_COMPLETED_ordinal, R_PARALLEL_STARTED_ordinal, R_PARALLEL_COMPLETED_ordinal, R_STAGE_STARTED_ordinal, R_CHECKPOINT_SAVED_ordinal, R_INTERVIEW_STARTED_ordinal, R_STAGE_RETRYING_ordinal⟩ := G
  have k_115 : Go p.tables e below (s₁.setTop (entryFrame m #[(.ref a_INTERVIEW_STARTED)] 1)) (s₁.setTop (mkF m 1 #[rv a_INTERVIEW_STARTED] [(.ref a_INTERVIEW_STARTED)])) := fun t q => by
    refine k0 t ?_
    refine XS.aloadN X0.here hx rfl (hb hby d1_0) rfl rfl ?_
    show Steps _ _ _ (s₁.setTop (mkF m 1 #[rv a_INTERVIEW_STARTED] [(.ref a_INTERVIEW_STARTED)])) _
    exact q
  obtain ⟨T116, X116, e116, st116⟩ := getS2 X0 hx hZ hown (host := "") (Or.inl (hw _ (wd 46 rfl))) Via.refl e0 (S_PIPELINE_COMPLETED.ext O0.2) (g := (mkF m 1 #[rv a_INTERVIEW_STARTED] [(.ref a_INTERVIEW_STARTED)])) rfl (hb hby d1_1)
  have k_117 : Go p.tables e below (s₁.setTop (entryFrame m #[(.ref a_INTERVIEW_STARTED)] 1)) (T116.setTop (mkF m 8 #[rv a_INTERVIEW_STARTED] [(.ref a_INTERVIEW_STARTED)])) := fun t q => by
    refine k_115 t ?_
    refine st116 _ ?_
    show Steps _ _ _ (T116.setTop (mkF m 4 #[rv a_INTERVIEW_STARTED] [(.ref a_PIPELINE_COMPLETED), (.ref a_INTERVIEW_STARTED)])) _
    refine Jvm.RoadKit.acmp (g := (mkF m 4 #[rv a_INTERVIEW_STARTED] [(.ref a_PIPELINE_COMPLETED), (.ref a_INTERVIEW_STARTED)])) X116 hx rfl rfl rfl (pc0 := 4) (pc' := 7) (same := false) rfl (hb hby d1_4) rfl (decide_eq_false fun q => (own_ne R_INTERVIEW_STARTED_ordinal R_PIPELINE_COMPLETED_ordinal (by decide)) (Value.ref.inj q)) (by decide) (by decide) ?_
    show Steps _ _ _ (T116.setTop (mkF m 7 #[rv a_INTERVIEW_STARTED] [])) _
    refine XS.aloadN X116.here hx rfl (hb hby d1_7) rfl rfl ?_
    show Steps _ _ _ (T116.setTop (mkF m 8 #[rv a_INTERVIEW_STARTED] [(.ref a_INTERVIEW_STARTED)])) _
    exact q
  obtain ⟨T118, X118, e118, st118⟩ := getS2 X116 hx hZ hown (host := "") (Or.inl (hw _ (wd 47 rfl))) Via.refl e116 (S_PIPELINE_FAILED.ext O0.2) (g := (mkF m 8 #[rv a_INTERVIEW_STARTED] [(.ref a_INTERVIEW_STARTED)])) rfl (hb hby d1_8)
  have k_119 : Go p.tables e below (s₁.setTop (entryFrame m #[(.ref a_INTERVIEW_STARTED)] 1)) (T118.setTop (mkF m 15 #[rv a_INTERVIEW_STARTED] [(.ref a_INTERVIEW_STARTED)])) := fun t q => by
    refine k_117 t ?_
    refine st118 _ ?_
    show Steps _ _ _ (T118.setTop (mkF m 11 #[rv a_INTERVIEW_STARTED] [(.ref a_PIPELINE_FAILED), (.ref a_INTERVIEW_STARTED)])) _
    refine Jvm.RoadKit.acmp (g := (mkF m 11 #[rv a_INTERVIEW_STARTED] [(.ref a_PIPELINE_FAILED), (.ref a_INTERVIEW_STARTED)])) X118 hx rfl rfl rfl (pc0 := 11) (pc' := 14) (same := false) rfl (hb hby d1_11) rfl (decide_eq_false fun q => (own_ne R_INTERVIEW_STARTED_ordinal R_PIPELINE_FAILED_ordinal (by decide)) (Value.ref.inj q)) (by decide) (by decide) ?_
    show Steps _ _ _ (T118.setTop (mkF m 14 #[rv a_INTERVIEW_STARTED] [])) _
    refine XS.aloadN X118.here hx rfl (hb hby d1_14) rfl rfl ?_
    show Steps _ _ _ (T118.setTop (mkF m 15 #[rv a_INTERVIEW_STARTED] [(.ref a_INTERVIEW_STARTED)])) _
    exact q
  obtain ⟨T120, X120, e120, st120⟩ := getS2 X118 hx hZ hown (host := "") (Or.inl (hw _ (wd 48 rfl))) Via.refl e118 (S_PIPELINE_STOPPED.ext O0.2) (g := (mkF m 15 #[rv a_INTERVIEW_STARTED] [(.ref a_INTERVIEW_STARTED)])) rfl (hb hby d1_15)
  have k_121 : Go p.tables e below (s₁.setTop (entryFrame m #[(.ref a_INTERVIEW_STARTED)] 1)) (T120.setTop (mkF m 22 #[rv a_INTERVIEW_STARTED] [(.ref a_INTERVIEW_STARTED)])) := fun t q => by
    refine k_119 t ?_
    refine st120 _ ?_
    show Steps _ _ _ (T120.setTop (mkF m 18 #[rv a_INTERVIEW_STARTED] [(.ref a_PIPELINE_STOPPED), (.ref a_INTERVIEW_STARTED)])) _
    refine Jvm.RoadKit.acmp (g := (mkF m 18 #[rv a_INTERVIEW_STARTED] [(.ref a_PIPELINE_STOPPED), (.ref a_INTERVIEW_STARTED)])) X120 hx rfl rfl rfl (pc0 := 18) (pc' := 21) (same := false) rfl (hb hby d1_18) rfl (decide_eq_false fun q => (own_ne R_INTERVIEW_STARTED_ordinal R_PIPELINE_STOPPED_ordinal (by decide)) (Value.ref.inj q)) (by decide) (by decide) ?_
    show Steps _ _ _ (T120.setTop (mkF m 21 #[rv a_INTERVIEW_STARTED] [])) _
    refine XS.aloadN X120.here hx rfl (hb hby d1_21) rfl rfl ?_
    show Steps _ _ _ (T120.setTop (mkF m 22 #[rv a_INTERVIEW_STARTED] [(.ref a_INTERVIEW_STARTED)])) _
    exact q
  obtain ⟨T122, X122, e122, st122⟩ := getS2 X120 hx hZ hown (host := "") (Or.inl (hw _ (wd 49 rfl))) Via.refl e120 (S_PIPELINE_CANCELLED.ext O0.2) (g := (mkF m 22 #[rv a_INTERVIEW_STARTED] [(.ref a_INTERVIEW_STARTED)])) rfl (hb hby d1_22)
  have k_123 : Go p.tables e below (s₁.setTop (entryFrame m #[(.ref a_INTERVIEW_STARTED)] 1)) (T122.setTop (mkF m 33 #[rv a_INTERVIEW_STARTED] [(.int 0)])) := fun t q => by
    refine k_121 t ?_
    refine st122 _ ?_
    show Steps _ _ _ (T122.setTop (mkF m 25 #[rv a_INTERVIEW_STARTED] [(.ref a_PIPELINE_CANCELLED), (.ref a_INTERVIEW_STARTED)])) _
    refine Jvm.RoadKit.acmp (g := (mkF m 25 #[rv a_INTERVIEW_STARTED] [(.ref a_PIPELINE_CANCELLED), (.ref a_INTERVIEW_STARTED)])) X122 hx rfl rfl rfl (pc0 := 25) (pc' := 32) (same := false) rfl (hb hby d1_25) rfl (decide_eq_false fun q => (own_ne R_INTERVIEW_STARTED_ordinal R_PIPELINE_CANCELLED_ordinal (by decide)) (Value.ref.inj q)) (by decide) (by decide) ?_
    show Steps _ _ _ (T122.setTop (mkF m 32 #[rv a_INTERVIEW_STARTED] [])) _
    refine XS.iconst X122.here hx rfl (hb hby d1_32) ?_
    show Steps _ _ _ (T122.setTop (mkF m 33 #[rv a_INTERVIEW_STARTED] [(.int 0)])) _
    exact q
  obtain ⟨fs, hr, hrun, hended, hW, hsame⟩ := X122.leave (v := some (.int 0)) (fun h => by rw [Bd.returns] at h; cases h)
  refine ⟨_, _, k_123 _ ?_, hrun, hended, _, _, rfl, ?_, ⟨_, rfl⟩, hW, hsame.mono (by decide) (by decide)⟩
  · exact retN X122 hx (t := .boolean) Bd.returns (by simp) (hb hby d1_33) hr
  · show QV (some (.int 0)) h0 n0 _ T122.heap _
    rw [e122]
    exact ⟨rfl, N0, rfl⟩
set_option maxRecDepth 65536 in
set_option maxHeartbeats 40000000 in
theorem ew_15 (l : Launch) (Z : State) (a0 : Array Value) (hw : ∀ d ∈ tables_1, d.before a0 Z = true) (ws : List Jvm.Cond) (a_PIPELINE_STARTED a_PIPELINE_RESUMED a_PIPELINE_COMPLETED a_PIPELINE_FAILED a_PIPELINE_STOPPED a_PIPELINE_CANCELLED a_STAGE_STARTED a_STAGE_COMPLETED a_STAGE_FAILED a_STAGE_RETRYING a_PARALLEL_STARTED a_PARALLEL_BRANCH_STARTED a_PARALLEL_BRANCH_COMPLETED a_PARALLEL_COMPLETED a_INTERVIEW_STARTED a_INTERVIEW_COMPLETED a_INTERVIEW_TIMEOUT a_CHECKPOINT_SAVED : Addr) (G : Own Z a_PIPELINE_STARTED a_PIPELINE_RESUMED a_PIPELINE_COMPLETED a_PIPELINE_FAILED a_PIPELINE_STOPPED a_PIPELINE_CANCELLED a_STAGE_STARTED a_STAGE_COMPLETED a_STAGE_FAILED a_STAGE_RETRYING a_PARALLEL_STARTED a_PARALLEL_BRANCH_STARTED a_PARALLEL_BRANCH_COMPLETED a_PARALLEL_COMPLETED a_INTERVIEW_STARTED a_INTERVIEW_COMPLETED a_INTERVIEW_TIMEOUT a_CHECKPOINT_SAVED)  (h0 : Heap) (n0 : Nat) (O0 : Old Z n0 h0)  :
    MetFree l y_0 (head1 (Jvm.Cond.code y_0 prog_29_method_7_code 1 (some .boolean) :: ws) ({ frames := 0, cells := 0, slots := 0, locals := 0 } : Room)) (fun a U => a = #[(.ref a_INTERVIEW_COMPLETED)] ∧ Z.Warmed39 U.vm ∧ U.heap = h0) (fun _ _ _ _ _ => True) (fun _ U o U' => ∃ v L, o = .returned v ∧ QV (some (.int 0)) h0 n0 v U'.heap L ∧ FrameEnd U o U' L ({ frames := 0, cells := 0, slots := 0, locals := 0 } : Room).cells ({ frames := 0, cells := 0, slots := 0, locals := 0 } : Room).slots) := by
  refine MetFree.of_bodySF (plainFor_of_name pn_0) hisR ?_
  intro p e s m args below meth c s₁ Bd hml0 hP hK
  obtain ⟨rfl, hZ, hh⟩ := hP
  have hx := Bd.exec
  have hby := Bd.bytes
  have hml : c.maxLocals = 1 := hml0
  have hown : s.vm.findClass "com/example/theseus/theseus/engine/EventType" = some m.cls := findClass_of_methodNamed Bd.named
  have hnm := (name_of_methodNamed Bd.named Bd.method).1
  have X0 : Stand p l e ({ frames := 0, cells := 0, slots := 0, locals := 0 } : Room) s m #[(.ref a_INTERVIEW_COMPLETED)] below meth c s₁ [] 0 0 := Stand.of_body Bd
  have e0 : s₁.heap = h0 := by rw [← hh, Bd.state]; rfl
  have N0 := Fr.nil n0
  have K0 := Keep.refl h0 []
  have k0 : Go p.tables e below (s₁.setTop (entryFrame m #[(.ref a_INTERVIEW_COMPLETED)] 1)) (s₁.setTop (mkF m 0 #[rv a_INTERVIEW_COMPLETED] [])) := fun t k => castTop (by first | rfl | (simp [entryFrame, mkF, argsToLocals, Value.category]; done)) k
  have ⟨S_PIPELINE_STARTED, E_PIPELINE_STARTED, S_PIPELINE_RESUMED, E_PIPELINE_RESUMED, S_PIPELINE_COMPLETED, E_PIPELINE_COMPLETED, S_PIPELINE_FAILED, E_PIPELINE_FAILED, S_PIPELINE_STOPPED, E_PIPELINE_STOPPED, S_PIPELINE_CANCELLED, E_PIPELINE_CANCELLED, S_STAGE_STARTED, E_STAGE_STARTED, S_STAGE_COMPLETED, E_STAGE_COMPLETED, S_STAGE_FAILED, E_STAGE_FAILED, S_STAGE_RETRYING, E_STAGE_RETRYING, S_PARALLEL_STARTED, E_PARALLEL_STARTED, S_PARALLEL_BRANCH_STARTED, E_PARALLEL_BRANCH_STARTED, S_PARALLEL_BRANCH_COMPLETED, E_PARALLEL_BRANCH_COMPLETED, S_PARALLEL_COMPLETED, E_PARALLEL_COMPLETED, S_INTERVIEW_STARTED, E_INTERVIEW_STARTED, S_INTERVIEW_COMPLETED, E_INTERVIEW_COMPLETED, S_INTERVIEW_TIMEOUT, E_INTERVIEW_TIMEOUT, S_CHECKPOINT_SAVED, E_CHECKPOINT_SAVED, R_PIPELINE_STARTED_ordinal, R_PIPELINE_COMPLETED_ordinal, R_PIPELINE_FAILED_ordinal, R_PIPELINE_STOPPED_ordinal, R_PIPELINE_CANCELLED_ordinal, R_PIPELINE_RESUMED_ordinal, R_STAGE_COMPLETED_ordinal, R_PARALLEL_BRANCH_STARTED_ordinal, R_STAGE_FAILED_ordinal, R_PARALLEL_BRANCH_COMPLETED_ordinal, R_INTERVIEW_TIMEOUT_ordinal, R_INTERVIEW_COMPLETED_ordinal, R_PARALLEL_STARTED_ordinal, R_PARALLEL_COMPLETED_ordinal, R_STAGE_STARTED_ordinal, R_CHECKPOINT_SAVED_ordinal, R_INTERVIEW_STARTED_ordinal, R_STAGE_RETRYING_ordinal⟩ := G
  have k_124 : Go p.tables e below (s₁.setTop (entryFrame m #[(.ref a_INTERVIEW_COMPLETED)] 1)) (s₁.setTop (mkF m 1 #[rv a_INTERVIEW_COMPLETED] [(.ref a_INTERVIEW_COMPLETED)])) := fun t q => by
    refine k0 t ?_
    refine XS.aloadN X0.here hx rfl (hb hby d1_0) rfl rfl ?_
    show Steps _ _ _ (s₁.setTop (mkF m 1 #[rv a_INTERVIEW_COMPLETED] [(.ref a_INTERVIEW_COMPLETED)])) _
    exact q
  obtain ⟨T125, X125, e125, st125⟩ := getS2 X0 hx hZ hown (host := "") (Or.inl (hw _ (wd 46 rfl))) Via.refl e0 (S_PIPELINE_COMPLETED.ext O0.2) (g := (mkF m 1 #[rv a_INTERVIEW_COMPLETED] [(.ref a_INTERVIEW_COMPLETED)])) rfl (hb hby d1_1)
  have k_126 : Go p.tables e below (s₁.setTop (entryFrame m #[(.ref a_INTERVIEW_COMPLETED)] 1)) (T125.setTop (mkF m 8 #[rv a_INTERVIEW_COMPLETED] [(.ref a_INTERVIEW_COMPLETED)])) := fun t q => by
    refine k_124 t ?_
    refine st125 _ ?_
    show Steps _ _ _ (T125.setTop (mkF m 4 #[rv a_INTERVIEW_COMPLETED] [(.ref a_PIPELINE_COMPLETED), (.ref a_INTERVIEW_COMPLETED)])) _
    refine Jvm.RoadKit.acmp (g := (mkF m 4 #[rv a_INTERVIEW_COMPLETED] [(.ref a_PIPELINE_COMPLETED), (.ref a_INTERVIEW_COMPLETED)])) X125 hx rfl rfl rfl (pc0 := 4) (pc' := 7) (same := false) rfl (hb hby d1_4) rfl (decide_eq_false fun q => (own_ne R_INTERVIEW_COMPLETED_ordinal R_PIPELINE_COMPLETED_ordinal (by decide)) (Value.ref.inj q)) (by decide) (by decide) ?_
    show Steps _ _ _ (T125.setTop (mkF m 7 #[rv a_INTERVIEW_COMPLETED] [])) _
    refine XS.aloadN X125.here hx rfl (hb hby d1_7) rfl rfl ?_
    show Steps _ _ _ (T125.setTop (mkF m 8 #[rv a_INTERVIEW_COMPLETED] [(.ref a_INTERVIEW_COMPLETED)])) _
    exact q
  obtain ⟨T127, X127, e127, st127⟩ := getS2 X125 hx hZ hown (host := "") (Or.inl (hw _ (wd 47 rfl))) Via.refl e125 (S_PIPELINE_FAILED.ext O0.2) (g := (mkF m 8 #[rv a_INTERVIEW_COMPLETED] [(.ref a_INTERVIEW_COMPLETED)])) rfl (hb hby d1_8)
  have k_128 : Go p.tables e below (s₁.setTop (entryFrame m #[(.ref a_INTERVIEW_COMPLETED)] 1)) (T127.setTop (mkF m 15 #[rv a_INTERVIEW_COMPLETED] [(.ref a_INTERVIEW_COMPLETED)])) := fun t q => by
    refine k_126 t ?_
    refine st127 _ ?_
    show Steps _ _ _ (T127.setTop (mkF m 11 #[rv a_INTERVIEW_COMPLETED] [(.ref a_PIPELINE_FAILED), (.ref a_INTERVIEW_COMPLETED)])) _
    refine Jvm.RoadKit.acmp (g := (mkF m 11 #[rv a_INTERVIEW_COMPLETED] [(.ref a_PIPELINE_FAILED), (.ref a_INTERVIEW_COMPLETED)])) X127 hx rfl rfl rfl (pc0 := 11) (pc' := 14) (same := false) rfl (hb hby d1_11) rfl (decide_eq_false fun q => (own_ne R_INTERVIEW_COMPLETED_ordinal R_PIPELINE_FAILED_ordinal (by decide)) (Value.ref.inj q)) (by decide) (by decide) ?_
    show Steps _ _ _ (T127.setTop (mkF m 14 #[rv a_INTERVIEW_COMPLETED] [])) _
    refine XS.aloadN X127.here hx rfl (hb hby d1_14) rfl rfl ?_
    show Steps _ _ _ (T127.setTop (mkF m 15 #[rv a_INTERVIEW_COMPLETED] [(.ref a_INTERVIEW_COMPLETED)])) _
    exact q
  obtain ⟨T129, X129, e129, st129⟩ := getS2 X127 hx hZ hown (host := "") (Or.inl (hw _ (wd 48 rfl))) Via.refl e127 (S_PIPELINE_STOPPED.ext O0.2) (g := (mkF m 15 #[rv a_INTERVIEW_COMPLETED] [(.ref a_INTERVIEW_COMPLETED)])) rfl (hb hby d1_15)
  have k_130 : Go p.tables e below (s₁.setTop (entryFrame m #[(.ref a_INTERVIEW_COMPLETED)] 1)) (T129.setTop (mkF m 22 #[rv a_INTERVIEW_COMPLETED] [(.ref a_INTERVIEW_COMPLETED)])) := fun t q => by
    refine k_128 t ?_
    refine st129 _ ?_
    show Steps _ _ _ (T129.setTop (mkF m 18 #[rv a_INTERVIEW_COMPLETED] [(.ref a_PIPELINE_STOPPED), (.ref a_INTERVIEW_COMPLETED)])) _
    refine Jvm.RoadKit.acmp (g := (mkF m 18 #[rv a_INTERVIEW_COMPLETED] [(.ref a_PIPELINE_STOPPED), (.ref a_INTERVIEW_COMPLETED)])) X129 hx rfl rfl rfl (pc0 := 18) (pc' := 21) (same := false) rfl (hb hby d1_18) rfl (decide_eq_false fun q => (own_ne R_INTERVIEW_COMPLETED_ordinal R_PIPELINE_STOPPED_ordinal (by decide)) (Value.ref.inj q)) (by decide) (by decide) ?_
    show Steps _ _ _ (T129.setTop (mkF m 21 #[rv a_INTERVIEW_COMPLETED] [])) _
    refine XS.aloadN X129.here hx rfl (hb hby d1_21) rfl rfl ?_
    show Steps _ _ _ (T129.setTop (mkF m 22 #[rv a_INTERVIEW_COMPLETED] [(.ref a_INTERVIEW_COMPLETED)])) _
    exact q
  obtain ⟨T131, X131, e131, st131⟩ := getS2 X129 hx hZ hown (host := "") (Or.inl (hw _ (wd 49 rfl))) Via.refl e129 (S_PIPELINE_CANCELLED.ext O0.2) (g := (mkF m 22 #[rv a_INTERVIEW_COMPLETED] [(.ref a_INTERVIEW_COMPLETED)])) rfl (hb hby d1_22)
  have k_132 : Go p.tables e below (s₁.setTop (entryFrame m #[(.ref a_INTERVIEW_COMPLETED)] 1)) (T131.setTop (mkF m 33 #[rv a_INTERVIEW_COMPLETED] [(.int 0)])) := fun t q => by
    refine k_130 t ?_
    refine st131 _ ?_
    show Steps _ _ _ (T131.setTop (mkF m 25 #[rv a_INTERVIEW_COMPLETED] [(.ref a_PIPELINE_CANCELLED), (.ref a_INTERVIEW_COMPLETED)])) _
    refine Jvm.RoadKit.acmp (g := (mkF m 25 #[rv a_INTERVIEW_COMPLETED] [(.ref a_PIPELINE_CANCELLED), (.ref a_INTERVIEW_COMPLETED)])) X131 hx rfl rfl rfl (pc0 := 25) (pc' := 32) (same := false) rfl (hb hby d1_25) rfl (decide_eq_false fun q => (own_ne R_INTERVIEW_COMPLETED_ordinal R_PIPELINE_CANCELLED_ordinal (by decide)) (Value.ref.inj q)) (by decide) (by decide) ?_
    show Steps _ _ _ (T131.setTop (mkF m 32 #[rv a_INTERVIEW_COMPLETED] [])) _
    refine XS.iconst X131.here hx rfl (hb hby d1_32) ?_
    show Steps _ _ _ (T131.setTop (mkF m 33 #[rv a_INTERVIEW_COMPLETED] [(.int 0)])) _
    exact q
  obtain ⟨fs, hr, hrun, hended, hW, hsame⟩ := X131.leave (v := some (.int 0)) (fun h => by rw [Bd.returns] at h; cases h)
  refine ⟨_, _, k_132 _ ?_, hrun, hended, _, _, rfl, ?_, ⟨_, rfl⟩, hW, hsame.mono (by decide) (by decide)⟩
  · exact retN X131 hx (t := .boolean) Bd.returns (by simp) (hb hby d1_33) hr
  · show QV (some (.int 0)) h0 n0 _ T131.heap _
    rw [e131]
    exact ⟨rfl, N0, rfl⟩
set_option maxRecDepth 65536 in
set_option maxHeartbeats 40000000 in
theorem ew_16 (l : Launch) (Z : State) (a0 : Array Value) (hw : ∀ d ∈ tables_1, d.before a0 Z = true) (ws : List Jvm.Cond) (a_PIPELINE_STARTED a_PIPELINE_RESUMED a_PIPELINE_COMPLETED a_PIPELINE_FAILED a_PIPELINE_STOPPED a_PIPELINE_CANCELLED a_STAGE_STARTED a_STAGE_COMPLETED a_STAGE_FAILED a_STAGE_RETRYING a_PARALLEL_STARTED a_PARALLEL_BRANCH_STARTED a_PARALLEL_BRANCH_COMPLETED a_PARALLEL_COMPLETED a_INTERVIEW_STARTED a_INTERVIEW_COMPLETED a_INTERVIEW_TIMEOUT a_CHECKPOINT_SAVED : Addr) (G : Own Z a_PIPELINE_STARTED a_PIPELINE_RESUMED a_PIPELINE_COMPLETED a_PIPELINE_FAILED a_PIPELINE_STOPPED a_PIPELINE_CANCELLED a_STAGE_STARTED a_STAGE_COMPLETED a_STAGE_FAILED a_STAGE_RETRYING a_PARALLEL_STARTED a_PARALLEL_BRANCH_STARTED a_PARALLEL_BRANCH_COMPLETED a_PARALLEL_COMPLETED a_INTERVIEW_STARTED a_INTERVIEW_COMPLETED a_INTERVIEW_TIMEOUT a_CHECKPOINT_SAVED)  (h0 : Heap) (n0 : Nat) (O0 : Old Z n0 h0)  :
    MetFree l y_0 (head1 (Jvm.Cond.code y_0 prog_29_method_7_code 1 (some .boolean) :: ws) ({ frames := 0, cells := 0, slots := 0, locals := 0 } : Room)) (fun a U => a = #[(.ref a_INTERVIEW_TIMEOUT)] ∧ Z.Warmed39 U.vm ∧ U.heap = h0) (fun _ _ _ _ _ => True) (fun _ U o U' => ∃ v L, o = .returned v ∧ QV (some (.int 0)) h0 n0 v U'.heap L ∧ FrameEnd U o U' L ({ frames := 0, cells := 0, slots := 0, locals := 0 } : Room).cells ({ frames := 0, cells := 0, slots := 0, locals := 0 } : Room).slots) := by
  refine MetFree.of_bodySF (plainFor_of_name pn_0) hisR ?_
  intro p e s m args below meth c s₁ Bd hml0 hP hK
  obtain ⟨rfl, hZ, hh⟩ := hP
  have hx := Bd.exec
  have hby := Bd.bytes
  have hml : c.maxLocals = 1 := hml0
  have hown : s.vm.findClass "com/example/theseus/theseus/engine/EventType" = some m.cls := findClass_of_methodNamed Bd.named
  have hnm := (name_of_methodNamed Bd.named Bd.method).1
  have X0 : Stand p l e ({ frames := 0, cells := 0, slots := 0, locals := 0 } : Room) s m #[(.ref a_INTERVIEW_TIMEOUT)] below meth c s₁ [] 0 0 := Stand.of_body Bd
  have e0 : s₁.heap = h0 := by rw [← hh, Bd.state]; rfl
  have N0 := Fr.nil n0
  have K0 := Keep.refl h0 []
  have k0 : Go p.tables e below (s₁.setTop (entryFrame m #[(.ref a_INTERVIEW_TIMEOUT)] 1)) (s₁.setTop (mkF m 0 #[rv a_INTERVIEW_TIMEOUT] [])) := fun t k => castTop (by first | rfl | (simp [entryFrame, mkF, argsToLocals, Value.category]; done)) k
  have ⟨S_PIPELINE_STARTED, E_PIPELINE_STARTED, S_PIPELINE_RESUMED, E_PIPELINE_RESUMED, S_PIPELINE_COMPLETED, E_PIPELINE_COMPLETED, S_PIPELINE_FAILED, E_PIPELINE_FAILED, S_PIPELINE_STOPPED, E_PIPELINE_STOPPED, S_PIPELINE_CANCELLED, E_PIPELINE_CANCELLED, S_STAGE_STARTED, E_STAGE_STARTED, S_STAGE_COMPLETED, E_STAGE_COMPLETED, S_STAGE_FAILED, E_STAGE_FAILED, S_STAGE_RETRYING, E_STAGE_RETRYING, S_PARALLEL_STARTED, E_PARALLEL_STARTED, S_PARALLEL_BRANCH_STARTED, E_PARALLEL_BRANCH_STARTED, S_PARALLEL_BRANCH_COMPLETED, E_PARALLEL_BRANCH_COMPLETED, S_PARALLEL_COMPLETED, E_PARALLEL_COMPLETED, S_INTERVIEW_STARTED, E_INTERVIEW_STARTED, S_INTERVIEW_COMPLETED, E_INTERVIEW_COMPLETED, S_INTERVIEW_TIMEOUT, E_INTERVIEW_TIMEOUT, S_CHECKPOINT_SAVED, E_CHECKPOINT_SAVED, R_PIPELINE_STARTED_ordinal, R_PIPELINE_COMPLETED_ordinal, R_PIPELINE_FAILED_ordinal, R_PIPELINE_STOPPED_ordinal, R_PIPELINE_CANCELLED_ordinal, R_PIPELINE_RESUMED_ordinal, R_STAGE_COMPLETED_ordinal, R_PARALLEL_BRANCH_STARTED_ordinal, R_STAGE_FAILED_ordinal, R_PARALLEL_BRANCH_COMPLETED_ordinal, R_INTERVIEW_TIMEOUT_ordinal, R_INTERVIEW_COMPLETED_ordinal, R_PARALLEL_STARTED_ordinal, R_PARALLEL_COMPLETED_ordinal, R_STAGE_STARTED_ordinal, R_CHECKPOINT_SAVED_ordinal, R_INTERVIEW_STARTED_ordinal, R_STAGE_RETRYING_ordinal⟩ := G
  have k_133 : Go p.tables e below (s₁.setTop (entryFrame m #[(.ref a_INTERVIEW_TIMEOUT)] 1)) (s₁.setTop (mkF m 1 #[rv a_INTERVIEW_TIMEOUT] [(.ref a_INTERVIEW_TIMEOUT)])) := fun t q => by
    refine k0 t ?_
    refine XS.aloadN X0.here hx rfl (hb hby d1_0) rfl rfl ?_
    show Steps _ _ _ (s₁.setTop (mkF m 1 #[rv a_INTERVIEW_TIMEOUT] [(.ref a_INTERVIEW_TIMEOUT)])) _
    exact q
  obtain ⟨T134, X134, e134, st134⟩ := getS2 X0 hx hZ hown (host := "") (Or.inl (hw _ (wd 46 rfl))) Via.refl e0 (S_PIPELINE_COMPLETED.ext O0.2) (g := (mkF m 1 #[rv a_INTERVIEW_TIMEOUT] [(.ref a_INTERVIEW_TIMEOUT)])) rfl (hb hby d1_1)
  have k_135 : Go p.tables e below (s₁.setTop (entryFrame m #[(.ref a_INTERVIEW_TIMEOUT)] 1)) (T134.setTop (mkF m 8 #[rv a_INTERVIEW_TIMEOUT] [(.ref a_INTERVIEW_TIMEOUT)])) := fun t q => by
    refine k_133 t ?_
    refine st134 _ ?_
    show Steps _ _ _ (T134.setTop (mkF m 4 #[rv a_INTERVIEW_TIMEOUT] [(.ref a_PIPELINE_COMPLETED), (.ref a_INTERVIEW_TIMEOUT)])) _
    refine Jvm.RoadKit.acmp (g := (mkF m 4 #[rv a_INTERVIEW_TIMEOUT] [(.ref a_PIPELINE_COMPLETED), (.ref a_INTERVIEW_TIMEOUT)])) X134 hx rfl rfl rfl (pc0 := 4) (pc' := 7) (same := false) rfl (hb hby d1_4) rfl (decide_eq_false fun q => (own_ne R_INTERVIEW_TIMEOUT_ordinal R_PIPELINE_COMPLETED_ordinal (by decide)) (Value.ref.inj q)) (by decide) (by decide) ?_
    show Steps _ _ _ (T134.setTop (mkF m 7 #[rv a_INTERVIEW_TIMEOUT] [])) _
    refine XS.aloadN X134.here hx rfl (hb hby d1_7) rfl rfl ?_
    show Steps _ _ _ (T134.setTop (mkF m 8 #[rv a_INTERVIEW_TIMEOUT] [(.ref a_INTERVIEW_TIMEOUT)])) _
    exact q
  obtain ⟨T136, X136, e136, st136⟩ := getS2 X134 hx hZ hown (host := "") (Or.inl (hw _ (wd 47 rfl))) Via.refl e134 (S_PIPELINE_FAILED.ext O0.2) (g := (mkF m 8 #[rv a_INTERVIEW_TIMEOUT] [(.ref a_INTERVIEW_TIMEOUT)])) rfl (hb hby d1_8)
  have k_137 : Go p.tables e below (s₁.setTop (entryFrame m #[(.ref a_INTERVIEW_TIMEOUT)] 1)) (T136.setTop (mkF m 15 #[rv a_INTERVIEW_TIMEOUT] [(.ref a_INTERVIEW_TIMEOUT)])) := fun t q => by
    refine k_135 t ?_
    refine st136 _ ?_
    show Steps _ _ _ (T136.setTop (mkF m 11 #[rv a_INTERVIEW_TIMEOUT] [(.ref a_PIPELINE_FAILED), (.ref a_INTERVIEW_TIMEOUT)])) _
    refine Jvm.RoadKit.acmp (g := (mkF m 11 #[rv a_INTERVIEW_TIMEOUT] [(.ref a_PIPELINE_FAILED), (.ref a_INTERVIEW_TIMEOUT)])) X136 hx rfl rfl rfl (pc0 := 11) (pc' := 14) (same := false) rfl (hb hby d1_11) rfl (decide_eq_false fun q => (own_ne R_INTERVIEW_TIMEOUT_ordinal R_PIPELINE_FAILED_ordinal (by decide)) (Value.ref.inj q)) (by decide) (by decide) ?_
    show Steps _ _ _ (T136.setTop (mkF m 14 #[rv a_INTERVIEW_TIMEOUT] [])) _
    refine XS.aloadN X136.here hx rfl (hb hby d1_14) rfl rfl ?_
    show Steps _ _ _ (T136.setTop (mkF m 15 #[rv a_INTERVIEW_TIMEOUT] [(.ref a_INTERVIEW_TIMEOUT)])) _
    exact q
  obtain ⟨T138, X138, e138, st138⟩ := getS2 X136 hx hZ hown (host := "") (Or.inl (hw _ (wd 48 rfl))) Via.refl e136 (S_PIPELINE_STOPPED.ext O0.2) (g := (mkF m 15 #[rv a_INTERVIEW_TIMEOUT] [(.ref a_INTERVIEW_TIMEOUT)])) rfl (hb hby d1_15)
  have k_139 : Go p.tables e below (s₁.setTop (entryFrame m #[(.ref a_INTERVIEW_TIMEOUT)] 1)) (T138.setTop (mkF m 22 #[rv a_INTERVIEW_TIMEOUT] [(.ref a_INTERVIEW_TIMEOUT)])) := fun t q => by
    refine k_137 t ?_
    refine st138 _ ?_
    show Steps _ _ _ (T138.setTop (mkF m 18 #[rv a_INTERVIEW_TIMEOUT] [(.ref a_PIPELINE_STOPPED), (.ref a_INTERVIEW_TIMEOUT)])) _
    refine Jvm.RoadKit.acmp (g := (mkF m 18 #[rv a_INTERVIEW_TIMEOUT] [(.ref a_PIPELINE_STOPPED), (.ref a_INTERVIEW_TIMEOUT)])) X138 hx rfl rfl rfl (pc0 := 18) (pc' := 21) (same := false) rfl (hb hby d1_18) rfl (decide_eq_false fun q => (own_ne R_INTERVIEW_TIMEOUT_ordinal R_PIPELINE_STOPPED_ordinal (by decide)) (Value.ref.inj q)) (by decide) (by decide) ?_
    show Steps _ _ _ (T138.setTop (mkF m 21 #[rv a_INTERVIEW_TIMEOUT] [])) _
    refine XS.aloadN X138.here hx rfl (hb hby d1_21) rfl rfl ?_
    show Steps _ _ _ (T138.setTop (mkF m 22 #[rv a_INTERVIEW_TIMEOUT] [(.ref a_INTERVIEW_TIMEOUT)])) _
    exact q
  obtain ⟨T140, X140, e140, st140⟩ := getS2 X138 hx hZ hown (host := "") (Or.inl (hw _ (wd 49 rfl))) Via.refl e138 (S_PIPELINE_CANCELLED.ext O0.2) (g := (mkF m 22 #[rv a_INTERVIEW_TIMEOUT] [(.ref a_INTERVIEW_TIMEOUT)])) rfl (hb hby d1_22)
  have k_141 : Go p.tables e below (s₁.setTop (entryFrame m #[(.ref a_INTERVIEW_TIMEOUT)] 1)) (T140.setTop (mkF m 33 #[rv a_INTERVIEW_TIMEOUT] [(.int 0)])) := fun t q => by
    refine k_139 t ?_
    refine st140 _ ?_
    show Steps _ _ _ (T140.setTop (mkF m 25 #[rv a_INTERVIEW_TIMEOUT] [(.ref a_PIPELINE_CANCELLED), (.ref a_INTERVIEW_TIMEOUT)])) _
    refine Jvm.RoadKit.acmp (g := (mkF m 25 #[rv a_INTERVIEW_TIMEOUT] [(.ref a_PIPELINE_CANCELLED), (.ref a_INTERVIEW_TIMEOUT)])) X140 hx rfl rfl rfl (pc0 := 25) (pc' := 32) (same := false) rfl (hb hby d1_25) rfl (decide_eq_false fun q => (own_ne R_INTERVIEW_TIMEOUT_ordinal R_PIPELINE_CANCELLED_ordinal (by decide)) (Value.ref.inj q)) (by decide) (by decide) ?_
    show Steps _ _ _ (T140.setTop (mkF m 32 #[rv a_INTERVIEW_TIMEOUT] [])) _
    refine XS.iconst X140.here hx rfl (hb hby d1_32) ?_
    show Steps _ _ _ (T140.setTop (mkF m 33 #[rv a_INTERVIEW_TIMEOUT] [(.int 0)])) _
    exact q
  obtain ⟨fs, hr, hrun, hended, hW, hsame⟩ := X140.leave (v := some (.int 0)) (fun h => by rw [Bd.returns] at h; cases h)
  refine ⟨_, _, k_141 _ ?_, hrun, hended, _, _, rfl, ?_, ⟨_, rfl⟩, hW, hsame.mono (by decide) (by decide)⟩
  · exact retN X140 hx (t := .boolean) Bd.returns (by simp) (hb hby d1_33) hr
  · show QV (some (.int 0)) h0 n0 _ T140.heap _
    rw [e140]
    exact ⟨rfl, N0, rfl⟩
set_option maxRecDepth 65536 in
set_option maxHeartbeats 40000000 in
theorem ew_17 (l : Launch) (Z : State) (a0 : Array Value) (hw : ∀ d ∈ tables_1, d.before a0 Z = true) (ws : List Jvm.Cond) (a_PIPELINE_STARTED a_PIPELINE_RESUMED a_PIPELINE_COMPLETED a_PIPELINE_FAILED a_PIPELINE_STOPPED a_PIPELINE_CANCELLED a_STAGE_STARTED a_STAGE_COMPLETED a_STAGE_FAILED a_STAGE_RETRYING a_PARALLEL_STARTED a_PARALLEL_BRANCH_STARTED a_PARALLEL_BRANCH_COMPLETED a_PARALLEL_COMPLETED a_INTERVIEW_STARTED a_INTERVIEW_COMPLETED a_INTERVIEW_TIMEOUT a_CHECKPOINT_SAVED : Addr) (G : Own Z a_PIPELINE_STARTED a_PIPELINE_RESUMED a_PIPELINE_COMPLETED a_PIPELINE_FAILED a_PIPELINE_STOPPED a_PIPELINE_CANCELLED a_STAGE_STARTED a_STAGE_COMPLETED a_STAGE_FAILED a_STAGE_RETRYING a_PARALLEL_STARTED a_PARALLEL_BRANCH_STARTED a_PARALLEL_BRANCH_COMPLETED a_PARALLEL_COMPLETED a_INTERVIEW_STARTED a_INTERVIEW_COMPLETED a_INTERVIEW_TIMEOUT a_CHECKPOINT_SAVED)  (h0 : Heap) (n0 : Nat) (O0 : Old Z n0 h0)  :
    MetFree l y_0 (head1 (Jvm.Cond.code y_0 prog_29_method_7_code 1 (some .boolean) :: ws) ({ frames := 0, cells := 0, slots := 0, locals := 0 } : Room)) (fun a U => a = #[(.ref a_CHECKPOINT_SAVED)] ∧ Z.Warmed39 U.vm ∧ U.heap = h0) (fun _ _ _ _ _ => True) (fun _ U o U' => ∃ v L, o = .returned v ∧ QV (some (.int 0)) h0 n0 v U'.heap L ∧ FrameEnd U o U' L ({ frames := 0, cells := 0, slots := 0, locals := 0 } : Room).cells ({ frames := 0, cells := 0, slots := 0, locals := 0 } : Room).slots) := by
  refine MetFree.of_bodySF (plainFor_of_name pn_0) hisR ?_
  intro p e s m args below meth c s₁ Bd hml0 hP hK
  obtain ⟨rfl, hZ, hh⟩ := hP
  have hx := Bd.exec
  have hby := Bd.bytes
  have hml : c.maxLocals = 1 := hml0
  have hown : s.vm.findClass "com/example/theseus/theseus/engine/EventType" = some m.cls := findClass_of_methodNamed Bd.named
  have hnm := (name_of_methodNamed Bd.named Bd.method).1
  have X0 : Stand p l e ({ frames := 0, cells := 0, slots := 0, locals := 0 } : Room) s m #[(.ref a_CHECKPOINT_SAVED)] below meth c s₁ [] 0 0 := Stand.of_body Bd
  have e0 : s₁.heap = h0 := by rw [← hh, Bd.state]; rfl
  have N0 := Fr.nil n0
  have K0 := Keep.refl h0 []
  have k0 : Go p.tables e below (s₁.setTop (entryFrame m #[(.ref a_CHECKPOINT_SAVED)] 1)) (s₁.setTop (mkF m 0 #[rv a_CHECKPOINT_SAVED] [])) := fun t k => castTop (by first | rfl | (simp [entryFrame, mkF, argsToLocals, Value.category]; done)) k
  have ⟨S_PIPELINE_STARTED, E_PIPELINE_STARTED, S_PIPELINE_RESUMED, E_PIPELINE_RESUMED, S_PIPELINE_COMPLETED, E_PIPELINE_COMPLETED, S_PIPELINE_FAILED, E_PIPELINE_FAILED, S_PIPELINE_STOPPED, E_PIPELINE_STOPPED, S_PIPELINE_CANCELLED, E_PIPELINE_CANCELLED, S_STAGE_STARTED, E_STAGE_STARTED, S_STAGE_COMPLETED, E_STAGE_COMPLETED, S_STAGE_FAILED, E_STAGE_FAILED, S_STAGE_RETRYING, E_STAGE_RETRYING, S_PARALLEL_STARTED, E_PARALLEL_STARTED, S_PARALLEL_BRANCH_STARTED, E_PARALLEL_BRANCH_STARTED, S_PARALLEL_BRANCH_COMPLETED, E_PARALLEL_BRANCH_COMPLETED, S_PARALLEL_COMPLETED, E_PARALLEL_COMPLETED, S_INTERVIEW_STARTED, E_INTERVIEW_STARTED, S_INTERVIEW_COMPLETED, E_INTERVIEW_COMPLETED, S_INTERVIEW_TIMEOUT, E_INTERVIEW_TIMEOUT, S_CHECKPOINT_SAVED, E_CHECKPOINT_SAVED, R_PIPELINE_STARTED_ordinal, R_PIPELINE_COMPLETED_ordinal, R_PIPELINE_FAILED_ordinal, R_PIPELINE_STOPPED_ordinal, R_PIPELINE_CANCELLED_ordinal, R_PIPELINE_RESUMED_ordinal, R_STAGE_COMPLETED_ordinal, R_PARALLEL_BRANCH_STARTED_ordinal, R_STAGE_FAILED_ordinal, R_PARALLEL_BRANCH_COMPLETED_ordinal, R_INTERVIEW_TIMEOUT_ordinal, R_INTERVIEW_COMPLETED_ordinal, R_PARALLEL_STARTED_ordinal, R_PARALLEL_COMPLETED_ordinal, R_STAGE_STARTED_ordinal, R_CHECKPOINT_SAVED_ordinal, R_INTERVIEW_STARTED_ordinal, R_STAGE_RETRYING_ordinal⟩ := G
  have k_142 : Go p.tables e below (s₁.setTop (entryFrame m #[(.ref a_CHECKPOINT_SAVED)] 1)) (s₁.setTop (mkF m 1 #[rv a_CHECKPOINT_SAVED] [(.ref a_CHECKPOINT_SAVED)])) := fun t q => by
    refine k0 t ?_
    refine XS.aloadN X0.here hx rfl (hb hby d1_0) rfl rfl ?_
    show Steps _ _ _ (s₁.setTop (mkF m 1 #[rv a_CHECKPOINT_SAVED] [(.ref a_CHECKPOINT_SAVED)])) _
    exact q
  obtain ⟨T143, X143, e143, st143⟩ := getS2 X0 hx hZ hown (host := "") (Or.inl (hw _ (wd 46 rfl))) Via.refl e0 (S_PIPELINE_COMPLETED.ext O0.2) (g := (mkF m 1 #[rv a_CHECKPOINT_SAVED] [(.ref a_CHECKPOINT_SAVED)])) rfl (hb hby d1_1)
  have k_144 : Go p.tables e below (s₁.setTop (entryFrame m #[(.ref a_CHECKPOINT_SAVED)] 1)) (T143.setTop (mkF m 8 #[rv a_CHECKPOINT_SAVED] [(.ref a_CHECKPOINT_SAVED)])) := fun t q => by
    refine k_142 t ?_
    refine st143 _ ?_
    show Steps _ _ _ (T143.setTop (mkF m 4 #[rv a_CHECKPOINT_SAVED] [(.ref a_PIPELINE_COMPLETED), (.ref a_CHECKPOINT_SAVED)])) _
    refine Jvm.RoadKit.acmp (g := (mkF m 4 #[rv a_CHECKPOINT_SAVED] [(.ref a_PIPELINE_COMPLETED), (.ref a_CHECKPOINT_SAVED)])) X143 hx rfl rfl rfl (pc0 := 4) (pc' := 7) (same := false) rfl (hb hby d1_4) rfl (decide_eq_false fun q => (own_ne R_CHECKPOINT_SAVED_ordinal R_PIPELINE_COMPLETED_ordinal (by decide)) (Value.ref.inj q)) (by decide) (by decide) ?_
    show Steps _ _ _ (T143.setTop (mkF m 7 #[rv a_CHECKPOINT_SAVED] [])) _
    refine XS.aloadN X143.here hx rfl (hb hby d1_7) rfl rfl ?_
    show Steps _ _ _ (T143.setTop (mkF m 8 #[rv a_CHECKPOINT_SAVED] [(.ref a_CHECKPOINT_SAVED)])) _
    exact q
  obtain ⟨T145, X145, e145, st145⟩ := getS2 X143 hx hZ hown (host := "") (Or.inl (hw _ (wd 47 rfl))) Via.refl e143 (S_PIPELINE_FAILED.ext O0.2) (g := (mkF m 8 #[rv a_CHECKPOINT_SAVED] [(.ref a_CHECKPOINT_SAVED)])) rfl (hb hby d1_8)
  have k_146 : Go p.tables e below (s₁.setTop (entryFrame m #[(.ref a_CHECKPOINT_SAVED)] 1)) (T145.setTop (mkF m 15 #[rv a_CHECKPOINT_SAVED] [(.ref a_CHECKPOINT_SAVED)])) := fun t q => by
    refine k_144 t ?_
    refine st145 _ ?_
    show Steps _ _ _ (T145.setTop (mkF m 11 #[rv a_CHECKPOINT_SAVED] [(.ref a_PIPELINE_FAILED), (.ref a_CHECKPOINT_SAVED)])) _
    refine Jvm.RoadKit.acmp (g := (mkF m 11 #[rv a_CHECKPOINT_SAVED] [(.ref a_PIPELINE_FAILED), (.ref a_CHECKPOINT_SAVED)])) X145 hx rfl rfl rfl (pc0 := 11) (pc' := 14) (same := false) rfl (hb hby d1_11) rfl (decide_eq_false fun q => (own_ne R_CHECKPOINT_SAVED_ordinal R_PIPELINE_FAILED_ordinal (by decide)) (Value.ref.inj q)) (by decide) (by decide) ?_
    show Steps _ _ _ (T145.setTop (mkF m 14 #[rv a_CHECKPOINT_SAVED] [])) _
    refine XS.aloadN X145.here hx rfl (hb hby d1_14) rfl rfl ?_
    show Steps _ _ _ (T145.setTop (mkF m 15 #[rv a_CHECKPOINT_SAVED] [(.ref a_CHECKPOINT_SAVED)])) _
    exact q
  obtain ⟨T147, X147, e147, st147⟩ := getS2 X145 hx hZ hown (host := "") (Or.inl (hw _ (wd 48 rfl))) Via.refl e145 (S_PIPELINE_STOPPED.ext O0.2) (g := (mkF m 15 #[rv a_CHECKPOINT_SAVED] [(.ref a_CHECKPOINT_SAVED)])) rfl (hb hby d1_15)
  have k_148 : Go p.tables e below (s₁.setTop (entryFrame m #[(.ref a_CHECKPOINT_SAVED)] 1)) (T147.setTop (mkF m 22 #[rv a_CHECKPOINT_SAVED] [(.ref a_CHECKPOINT_SAVED)])) := fun t q => by
    refine k_146 t ?_
    refine st147 _ ?_
    show Steps _ _ _ (T147.setTop (mkF m 18 #[rv a_CHECKPOINT_SAVED] [(.ref a_PIPELINE_STOPPED), (.ref a_CHECKPOINT_SAVED)])) _
    refine Jvm.RoadKit.acmp (g := (mkF m 18 #[rv a_CHECKPOINT_SAVED] [(.ref a_PIPELINE_STOPPED), (.ref a_CHECKPOINT_SAVED)])) X147 hx rfl rfl rfl (pc0 := 18) (pc' := 21) (same := false) rfl (hb hby d1_18) rfl (decide_eq_false fun q => (own_ne R_CHECKPOINT_SAVED_ordinal R_PIPELINE_STOPPED_ordinal (by decide)) (Value.ref.inj q)) (by decide) (by decide) ?_
    show Steps _ _ _ (T147.setTop (mkF m 21 #[rv a_CHECKPOINT_SAVED] [])) _
    refine XS.aloadN X147.here hx rfl (hb hby d1_21) rfl rfl ?_
    show Steps _ _ _ (T147.setTop (mkF m 22 #[rv a_CHECKPOINT_SAVED] [(.ref a_CHECKPOINT_SAVED)])) _
    exact q
  obtain ⟨T149, X149, e149, st149⟩ := getS2 X147 hx hZ hown (host := "") (Or.inl (hw _ (wd 49 rfl))) Via.refl e147 (S_PIPELINE_CANCELLED.ext O0.2) (g := (mkF m 22 #[rv a_CHECKPOINT_SAVED] [(.ref a_CHECKPOINT_SAVED)])) rfl (hb hby d1_22)
  have k_150 : Go p.tables e below (s₁.setTop (entryFrame m #[(.ref a_CHECKPOINT_SAVED)] 1)) (T149.setTop (mkF m 33 #[rv a_CHECKPOINT_SAVED] [(.int 0)])) := fun t q => by
    refine k_148 t ?_
    refine st149 _ ?_
    show Steps _ _ _ (T149.setTop (mkF m 25 #[rv a_CHECKPOINT_SAVED] [(.ref a_PIPELINE_CANCELLED), (.ref a_CHECKPOINT_SAVED)])) _
    refine Jvm.RoadKit.acmp (g := (mkF m 25 #[rv a_CHECKPOINT_SAVED] [(.ref a_PIPELINE_CANCELLED), (.ref a_CHECKPOINT_SAVED)])) X149 hx rfl rfl rfl (pc0 := 25) (pc' := 32) (same := false) rfl (hb hby d1_25) rfl (decide_eq_false fun q => (own_ne R_CHECKPOINT_SAVED_ordinal R_PIPELINE_CANCELLED_ordinal (by decide)) (Value.ref.inj q)) (by decide) (by decide) ?_
    show Steps _ _ _ (T149.setTop (mkF m 32 #[rv a_CHECKPOINT_SAVED] [])) _
    refine XS.iconst X149.here hx rfl (hb hby d1_32) ?_
    show Steps _ _ _ (T149.setTop (mkF m 33 #[rv a_CHECKPOINT_SAVED] [(.int 0)])) _
    exact q
  obtain ⟨fs, hr, hrun, hended, hW, hsame⟩ := X149.leave (v := some (.int 0)) (fun h => by rw [Bd.returns] at h; cases h)
  refine ⟨_, _, k_150 _ ?_, hrun, hended, _, _, rfl, ?_, ⟨_, rfl⟩, hW, hsame.mono (by decide) (by decide)⟩
  · exact retN X149 hx (t := .boolean) Bd.returns (by simp) (hb hby d1_33) hr
  · show QV (some (.int 0)) h0 n0 _ T149.heap _
    rw [e149]
    exact ⟨rfl, N0, rfl⟩
set_option maxRecDepth 65536 in
set_option maxHeartbeats 40000000 in
theorem rm0 (l : Launch) (Z : State) (a0 : Array Value) (hw : ∀ d ∈ tables_1, d.before a0 Z = true) (ws : List Jvm.Cond) (a_PIPELINE_STARTED a_PIPELINE_RESUMED a_PIPELINE_COMPLETED a_PIPELINE_FAILED a_PIPELINE_STOPPED a_PIPELINE_CANCELLED a_STAGE_STARTED a_STAGE_COMPLETED a_STAGE_FAILED a_STAGE_RETRYING a_PARALLEL_STARTED a_PARALLEL_BRANCH_STARTED a_PARALLEL_BRANCH_COMPLETED a_PARALLEL_COMPLETED a_INTERVIEW_STARTED a_INTERVIEW_COMPLETED a_INTERVIEW_TIMEOUT a_CHECKPOINT_SAVED : Addr) (G : Own Z a_PIPELINE_STARTED a_PIPELINE_RESUMED a_PIPELINE_COMPLETED a_PIPELINE_FAILED a_PIPELINE_STOPPED a_PIPELINE_CANCELLED a_STAGE_STARTED a_STAGE_COMPLETED a_STAGE_FAILED a_STAGE_RETRYING a_PARALLEL_STARTED a_PARALLEL_BRANCH_STARTED a_PARALLEL_BRANCH_COMPLETED a_PARALLEL_COMPLETED a_INTERVIEW_STARTED a_INTERVIEW_COMPLETED a_INTERVIEW_TIMEOUT a_CHECKPOINT_SAVED) (q1 : Int32) (h0 : Heap) (n0 : Nat) (O0 : Old Z n0 h0)  :
    MetFree l x (head1 (Jvm.Cond.code x code maxLocals ret :: ws) room_1) (fun a U => a = #[(.int q1)] ∧ Z.Warmed39 U.vm ∧ U.heap = h0) (fun _ _ _ _ _ => True) (fun _ U o U' => ∃ v L, o = .returned v ∧ Q0 n0 v U'.heap L ∧ FrameEnd U o U' L room_1.cells room_1.slots) := by
  refine MetFree.of_bodySF (plainFor_of_name pn_1) hisR ?_
  intro p e s m args below meth c s₁ Bd hml0 hP hK
  obtain ⟨rfl, hZ, hh⟩ := hP
  have hx := Bd.exec
  have hby := Bd.bytes
  have hml : c.maxLocals = 4 := hml0
  have hown : s.vm.findClass "com/example/theseus/theseus/engine/EventTypeEndsTheWalkPinLaw" = some m.cls := findClass_of_methodNamed Bd.named
  have hnm := (name_of_methodNamed Bd.named Bd.method).1
  have X0 : Stand p l e room_1 s m #[(.int q1)] below meth c s₁ [] 0 0 := Stand.of_body Bd
  have e0 : s₁.heap = h0 := by rw [← hh, Bd.state]; rfl
  have N0 := Fr.nil n0
  have K0 := Keep.refl h0 []
  have k0 : Go p.tables e below (s₁.setTop (entryFrame m #[(.int q1)] maxLocals)) (s₁.setTop (mkF m 0 #[iv q1, .unset, .unset, .unset] [])) := fun t k => castTop (by first | rfl | (simp [entryFrame, mkF, argsToLocals, Value.category, maxLocals]; done)) k
  have ⟨S_PIPELINE_STARTED, E_PIPELINE_STARTED, S_PIPELINE_RESUMED, E_PIPELINE_RESUMED, S_PIPELINE_COMPLETED, E_PIPELINE_COMPLETED, S_PIPELINE_FAILED, E_PIPELINE_FAILED, S_PIPELINE_STOPPED, E_PIPELINE_STOPPED, S_PIPELINE_CANCELLED, E_PIPELINE_CANCELLED, S_STAGE_STARTED, E_STAGE_STARTED, S_STAGE_COMPLETED, E_STAGE_COMPLETED, S_STAGE_FAILED, E_STAGE_FAILED, S_STAGE_RETRYING, E_STAGE_RETRYING, S_PARALLEL_STARTED, E_PARALLEL_STARTED, S_PARALLEL_BRANCH_STARTED, E_PARALLEL_BRANCH_STARTED, S_PARALLEL_BRANCH_COMPLETED, E_PARALLEL_BRANCH_COMPLETED, S_PARALLEL_COMPLETED, E_PARALLEL_COMPLETED, S_INTERVIEW_STARTED, E_INTERVIEW_STARTED, S_INTERVIEW_COMPLETED, E_INTERVIEW_COMPLETED, S_INTERVIEW_TIMEOUT, E_INTERVIEW_TIMEOUT, S_CHECKPOINT_SAVED, E_CHECKPOINT_SAVED, R_PIPELINE_STARTED_ordinal, R_PIPELINE_COMPLETED_ordinal, R_PIPELINE_FAILED_ordinal, R_PIPELINE_STOPPED_ordinal, R_PIPELINE_CANCELLED_ordinal, R_PIPELINE_RESUMED_ordinal, R_STAGE_COMPLETED_ordinal, R_PARALLEL_BRANCH_STARTED_ordinal, R_STAGE_FAILED_ordinal, R_PARALLEL_BRANCH_COMPLETED_ordinal, R_INTERVIEW_TIMEOUT_ordinal, R_INTERVIEW_COMPLETED_ordinal, R_PARALLEL_STARTED_ordinal, R_PARALLEL_COMPLETED_ordinal, R_STAGE_STARTED_ordinal, R_CHECKPOINT_SAVED_ordinal, R_INTERVIEW_STARTED_ordinal, R_STAGE_RETRYING_ordinal⟩ := G
  have k_151 : Go p.tables e below (s₁.setTop (entryFrame m #[(.int q1)] maxLocals)) (s₁.setTop (mkF m 2 #[iv q1, .unset, .unset, .unset] [(.int 18)])) := fun t q => by
    refine k0 t ?_
    refine XS.bipush X0.here hx rfl (hb hby at_0) ?_
    show Steps _ _ _ (s₁.setTop (mkF m 2 #[iv q1, .unset, .unset, .unset] [(.int 18)])) _
    exact q
  obtain ⟨T152, h152, c152, X152, e152, E152, A152, V152, st152⟩ := newR X0 hx hZ hown (hw _ (wd 0 rfl)) (hw _ (wd 1 rfl)) e0 (g := (mkF m 2 #[iv q1, .unset, .unset, .unset] [(.int 18)])) rfl (hb hby at_2) rfl (by decide) (cap := 18) (by decide) (by decide) (by decide) (by decide)
  obtain ⟨b152, g152⟩ : ∃ z, z = h0.size := ⟨_, rfl⟩
  rw [← g152] at A152 st152
  have g_b152 : n0 ≤ b152 := Nat.le_trans (own_old_le O0) (Nat.le_of_eq g152.symm)
  have sz_b152 : h0.size ≤ b152 := Nat.le_trans K0.1 (Nat.le_of_eq g152.symm)
  have O_153 := O0.ext E152
  have K_154 := K0.ext E152
  have B152 : Arv Z h152 b152 c152 (.object "com/example/theseus/theseus/engine/EventType") (18 : Int32) [.null, .null, .null, .null, .null, .null, .null, .null, .null, .null, .null, .null, .null, .null, .null, .null, .null, .null] .null := (Arv.new A152 (by decide)).pad (pad_rep [] .null 18)
  have k_155 : Go p.tables e below (s₁.setTop (entryFrame m #[(.int q1)] maxLocals)) (T152.setTop (mkF m 7 #[iv q1, .unset, .unset, .unset] [(.int 0), (.ref b152), (.ref b152)])) := fun t q => by
    refine k_151 t ?_
    refine st152 _ ?_
    show Steps _ _ _ (T152.setTop (mkF m 5 #[iv q1, .unset, .unset, .unset] [(.ref b152)])) _
    refine XS.dup X152.here hx rfl (hb hby at_5) rfl rfl ?_
    show Steps _ _ _ (T152.setTop (mkF m 6 #[iv q1, .unset, .unset, .unset] [(.ref b152), (.ref b152)])) _
    refine XS.iconst X152.here hx rfl (hb hby at_6) ?_
    show Steps _ _ _ (T152.setTop (mkF m 7 #[iv q1, .unset, .unset, .unset] [(.int 0), (.ref b152), (.ref b152)])) _
    exact q
  obtain ⟨T156, X156, e156, st156⟩ := getS2 X152 hx hZ hown (host := "") (Or.inl (hw _ (wd 2 rfl))) Via.refl e152 (S_PIPELINE_STARTED.ext O_153.2) (g := (mkF m 7 #[iv q1, .unset, .unset, .unset] [(.int 0), (.ref b152), (.ref b152)])) rfl (hb hby at_7)
  have k_157 : Go p.tables e below (s₁.setTop (entryFrame m #[(.int q1)] maxLocals)) (T156.setTop (mkF m 10 #[iv q1, .unset, .unset, .unset] [(.ref a_PIPELINE_STARTED), (.int 0), (.ref b152), (.ref b152)])) := fun t q => by
    refine k_155 t ?_
    refine st156 _ ?_
    show Steps _ _ _ (T156.setTop (mkF m 10 #[iv q1, .unset, .unset, .unset] [(.ref a_PIPELINE_STARTED), (.int 0), (.ref b152), (.ref b152)])) _
    exact q
  obtain ⟨cl158, Ar158, q158, S158, M158, H158, G158⟩ := B152
  have hin158 : ¬ ((0 : Int32) < 0 ∨ cl158.slots.size ≤ ((0 : Int32)).toNatClampNeg) := inb_of S158 ⟨by decide, by decide⟩
  obtain ⟨T159, h159, X159, e159, W159, st159⟩ := stR X156 hx hZ e156 Ar158 (j := (0 : Int32)) hin158 rfl (Sto.ofV Ar158 q158 V152 (Ins.self (Exa.ext O_153.2 E_PIPELINE_STARTED))) (g := (mkF m 10 #[iv q1, .unset, .unset, .unset] [(.ref a_PIPELINE_STARTED), (.int 0), (.ref b152), (.ref b152)])) rfl rfl (hb hby at_10)
  have B159 : Arv Z h159 b152 c152 (.object "com/example/theseus/theseus/engine/EventType") (18 : Int32) [(.ref a_PIPELINE_STARTED), .null, .null, .null, .null, .null, .null, .null, .null, .null, .null, .null, .null, .null, .null, .null, .null, .null] .null := Arv.set Ar158 q158 S158 M158 H158 G158 rfl W159 0 rfl (Nat.le_of_ble_eq_true rfl)
  have N159 := Fr.snoc X159 N0 g_b152
  have O_160 := O_153.wr W159 g_b152
  have K_161 := K_154.wr W159 (Or.inr sz_b152)
  have k_162 : Go p.tables e below (s₁.setTop (entryFrame m #[(.int q1)] maxLocals)) (T159.setTop (mkF m 13 #[iv q1, .unset, .unset, .unset] [(.int 1), (.ref b152), (.ref b152)])) := fun t q => by
    refine k_157 t ?_
    refine st159 _ ?_
    show Steps _ _ _ (T159.setTop (mkF m 11 #[iv q1, .unset, .unset, .unset] [(.ref b152)])) _
    refine XS.dup X159.here hx rfl (hb hby at_11) rfl rfl ?_
    show Steps _ _ _ (T159.setTop (mkF m 12 #[iv q1, .unset, .unset, .unset] [(.ref b152), (.ref b152)])) _
    refine XS.iconst X159.here hx rfl (hb hby at_12) ?_
    show Steps _ _ _ (T159.setTop (mkF m 13 #[iv q1, .unset, .unset, .unset] [(.int 1), (.ref b152), (.ref b152)])) _
    exact q
  obtain ⟨T163, X163, e163, st163⟩ := getS2 X159 hx hZ hown (host := "") (Or.inl (hw _ (wd 6 rfl))) Via.refl e159 (S_PIPELINE_RESUMED.ext O_160.2) (g := (mkF m 13 #[iv q1, .unset, .unset, .unset] [(.int 1), (.ref b152), (.ref b152)])) rfl (hb hby at_13)
  have k_164 : Go p.tables e below (s₁.setTop (entryFrame m #[(.int q1)] maxLocals)) (T163.setTop (mkF m 16 #[iv q1, .unset, .unset, .unset] [(.ref a_PIPELINE_RESUMED), (.int 1), (.ref b152), (.ref b152)])) := fun t q => by
    refine k_162 t ?_
    refine st163 _ ?_
    show Steps _ _ _ (T163.setTop (mkF m 16 #[iv q1, .unset, .unset, .unset] [(.ref a_PIPELINE_RESUMED), (.int 1), (.ref b152), (.ref b152)])) _
    exact q
  obtain ⟨cl165, Ar165, q165, S165, M165, H165, G165⟩ := B159
  have hin165 : ¬ ((1 : Int32) < 0 ∨ cl165.slots.size ≤ ((1 : Int32)).toNatClampNeg) := inb_of S165 ⟨by decide, by decide⟩
  obtain ⟨T166, h166, X166, e166, W166, st166⟩ := stR X163 hx hZ e163 Ar165 (j := (1 : Int32)) hin165 rfl (Sto.ofV Ar165 q165 V152 (Ins.self (Exa.ext O_160.2 E_PIPELINE_RESUMED))) (g := (mkF m 16 #[iv q1, .unset, .unset, .unset] [(.ref a_PIPELINE_RESUMED), (.int 1), (.ref b152), (.ref b152)])) rfl rfl (hb hby at_16)
  have B166 : Arv Z h166 b152 c152 (.object "com/example/theseus/theseus/engine/EventType") (18 : Int32) [(.ref a_PIPELINE_STARTED), (.ref a_PIPELINE_RESUMED), .null, .null, .null, .null, .null, .null, .null, .null, .null, .null, .null, .null, .null, .null, .null, .null] .null := Arv.set Ar165 q165 S165 M165 H165 G165 rfl W166 1 rfl (Nat.le_of_ble_eq_true rfl)
  have N166 := Fr.snoc X166 N159 g_b152
  have O_167 := O_160.wr W166 g_b152
  have K_168 := K_161.wr W166 (Or.inr sz_b152)
  have k_169 : Go p.tables e below (s₁.setTop (entryFrame m #[(.int q1)] maxLocals)) (T166.setTop (mkF m 19 #[iv q1, .unset, .unset, .unset] [(.int 2), (.ref b152), (.ref b152)])) := fun t q => by
    refine k_164 t ?_
    refine st166 _ ?_
    show Steps _ _ _ (T166.setTop (mkF m 17 #[iv q1, .unset, .unset, .unset] [(.ref b152)])) _
    refine XS.dup X166.here hx rfl (hb hby at_17) rfl rfl ?_
    show Steps _ _ _ (T166.setTop (mkF m 18 #[iv q1, .unset, .unset, .unset] [(.ref b152), (.ref b152)])) _
    refine XS.iconst X166.here hx rfl (hb hby at_18) ?_
    show Steps _ _ _ (T166.setTop (mkF m 19 #[iv q1, .unset, .unset, .unset] [(.int 2), (.ref b152), (.ref b152)])) _
    exact q
  obtain ⟨T170, X170, e170, st170⟩ := getS2 X166 hx hZ hown (host := "") (Or.inl (hw _ (wd 8 rfl))) Via.refl e166 (S_PIPELINE_COMPLETED.ext O_167.2) (g := (mkF m 19 #[iv q1, .unset, .unset, .unset] [(.int 2), (.ref b152), (.ref b152)])) rfl (hb hby at_19)
  have k_171 : Go p.tables e below (s₁.setTop (entryFrame m #[(.int q1)] maxLocals)) (T170.setTop (mkF m 22 #[iv q1, .unset, .unset, .unset] [(.ref a_PIPELINE_COMPLETED), (.int 2), (.ref b152), (.ref b152)])) := fun t q => by
    refine k_169 t ?_
    refine st170 _ ?_
    show Steps _ _ _ (T170.setTop (mkF m 22 #[iv q1, .unset, .unset, .unset] [(.ref a_PIPELINE_COMPLETED), (.int 2), (.ref b152), (.ref b152)])) _
    exact q
  obtain ⟨cl172, Ar172, q172, S172, M172, H172, G172⟩ := B166
  have hin172 : ¬ ((2 : Int32) < 0 ∨ cl172.slots.size ≤ ((2 : Int32)).toNatClampNeg) := inb_of S172 ⟨by decide, by decide⟩
  obtain ⟨T173, h173, X173, e173, W173, st173⟩ := stR X170 hx hZ e170 Ar172 (j := (2 : Int32)) hin172 rfl (Sto.ofV Ar172 q172 V152 (Ins.self (Exa.ext O_167.2 E_PIPELINE_COMPLETED))) (g := (mkF m 22 #[iv q1, .unset, .unset, .unset] [(.ref a_PIPELINE_COMPLETED), (.int 2), (.ref b152), (.ref b152)])) rfl rfl (hb hby at_22)
  have B173 : Arv Z h173 b152 c152 (.object "com/example/theseus/theseus/engine/EventType") (18 : Int32) [(.ref a_PIPELINE_STARTED), (.ref a_PIPELINE_RESUMED), (.ref a_PIPELINE_COMPLETED), .null, .null, .null, .null, .null, .null, .null, .null, .null, .null, .null, .null, .null, .null, .null] .null := Arv.set Ar172 q172 S172 M172 H172 G172 rfl W173 2 rfl (Nat.le_of_ble_eq_true rfl)
  have N173 := Fr.snoc X173 N166 g_b152
  have O_174 := O_167.wr W173 g_b152
  have K_175 := K_168.wr W173 (Or.inr sz_b152)
  have k_176 : Go p.tables e below (s₁.setTop (entryFrame m #[(.int q1)] maxLocals)) (T173.setTop (mkF m 25 #[iv q1, .unset, .unset, .unset] [(.int 3), (.ref b152), (.ref b152)])) := fun t q => by
    refine k_171 t ?_
    refine st173 _ ?_
    show Steps _ _ _ (T173.setTop (mkF m 23 #[iv q1, .unset, .unset, .unset] [(.ref b152)])) _
    refine XS.dup X173.here hx rfl (hb hby at_23) rfl rfl ?_
    show Steps _ _ _ (T173.setTop (mkF m 24 #[iv q1, .unset, .unset, .unset] [(.ref b152), (.ref b152)])) _
    refine XS.iconst X173.here hx rfl (hb hby at_24) ?_
    show Steps _ _ _ (T173.setTop (mkF m 25 #[iv q1, .unset, .unset, .unset] [(.int 3), (.ref b152), (.ref b152)])) _
    exact q
  obtain ⟨T177, X177, e177, st177⟩ := getS2 X173 hx hZ hown (host := "") (Or.inl (hw _ (wd 10 rfl))) Via.refl e173 (S_PIPELINE_FAILED.ext O_174.2) (g := (mkF m 25 #[iv q1, .unset, .unset, .unset] [(.int 3), (.ref b152), (.ref b152)])) rfl (hb hby at_25)
  have k_178 : Go p.tables e below (s₁.setTop (entryFrame m #[(.int q1)] maxLocals)) (T177.setTop (mkF m 28 #[iv q1, .unset, .unset, .unset] [(.ref a_PIPELINE_FAILED), (.int 3), (.ref b152), (.ref b152)])) := fun t q => by
    refine k_176 t ?_
    refine st177 _ ?_
    show Steps _ _ _ (T177.setTop (mkF m 28 #[iv q1, .unset, .unset, .unset] [(.ref a_PIPELINE_FAILED), (.int 3), (.ref b152), (.ref b152)])) _
    exact q
  obtain ⟨cl179, Ar179, q179, S179, M179, H179, G179⟩ := B173
  have hin179 : ¬ ((3 : Int32) < 0 ∨ cl179.slots.size ≤ ((3 : Int32)).toNatClampNeg) := inb_of S179 ⟨by decide, by decide⟩
  obtain ⟨T180, h180, X180, e180, W180, st180⟩ := stR X177 hx hZ e177 Ar179 (j := (3 : Int32)) hin179 rfl (Sto.ofV Ar179 q179 V152 (Ins.self (Exa.ext O_174.2 E_PIPELINE_FAILED))) (g := (mkF m 28 #[iv q1, .unset, .unset, .unset] [(.ref a_PIPELINE_FAILED), (.int 3), (.ref b152), (.ref b152)])) rfl rfl (hb hby at_28)
  have B180 : Arv Z h180 b152 c152 (.object "com/example/theseus/theseus/engine/EventType") (18 : Int32) [(.ref a_PIPELINE_STARTED), (.ref a_PIPELINE_RESUMED), (.ref a_PIPELINE_COMPLETED), (.ref a_PIPELINE_FAILED), .null, .null, .null, .null, .null, .null, .null, .null, .null, .null, .null, .null, .null, .null] .null := Arv.set Ar179 q179 S179 M179 H179 G179 rfl W180 3 rfl (Nat.le_of_ble_eq_true rfl)
  have N180 := Fr.snoc X180 N173 g_b152
  have O_181 := O_174.wr W180 g_b152
  have K_182 := K_175.wr W180 (Or.inr sz_b152)
  have k_183 : Go p.tables e below (s₁.setTop (entryFrame m #[(.int q1)] maxLocals)) (T180.setTop (mkF m 31 #[iv q1, .unset, .unset, .unset] [(.int 4), (.ref b152), (.ref b152)])) := fun t q => by
    refine k_178 t ?_
    refine st180 _ ?_
    show Steps _ _ _ (T180.setTop (mkF m 29 #[iv q1, .unset, .unset, .unset] [(.ref b152)])) _
    refine XS.dup X180.here hx rfl (hb hby at_29) rfl rfl ?_
    show Steps _ _ _ (T180.setTop (mkF m 30 #[iv q1, .unset, .unset, .unset] [(.ref b152), (.ref b152)])) _
    refine XS.iconst X180.here hx rfl (hb hby at_30) ?_
    show Steps _ _ _ (T180.setTop (mkF m 31 #[iv q1, .unset, .unset, .unset] [(.int 4), (.ref b152), (.ref b152)])) _
    exact q
  obtain ⟨T184, X184, e184, st184⟩ := getS2 X180 hx hZ hown (host := "") (Or.inl (hw _ (wd 12 rfl))) Via.refl e180 (S_PIPELINE_STOPPED.ext O_181.2) (g := (mkF m 31 #[iv q1, .unset, .unset, .unset] [(.int 4), (.ref b152), (.ref b152)])) rfl (hb hby at_31)
  have k_185 : Go p.tables e below (s₁.setTop (entryFrame m #[(.int q1)] maxLocals)) (T184.setTop (mkF m 34 #[iv q1, .unset, .unset, .unset] [(.ref a_PIPELINE_STOPPED), (.int 4), (.ref b152), (.ref b152)])) := fun t q => by
    refine k_183 t ?_
    refine st184 _ ?_
    show Steps _ _ _ (T184.setTop (mkF m 34 #[iv q1, .unset, .unset, .unset] [(.ref a_PIPELINE_STOPPED), (.int 4), (.ref b152), (.ref b152)])) _
    exact q
  obtain ⟨cl186, Ar186, q186, S186, M186, H186, G186⟩ := B180
  have hin186 : ¬ ((4 : Int32) < 0 ∨ cl186.slots.size ≤ ((4 : Int32)).toNatClampNeg) := inb_of S186 ⟨by decide, by decide⟩
  obtain ⟨T187, h187, X187, e187, W187, st187⟩ := stR X184 hx hZ e184 Ar186 (j := (4 : Int32)) hin186 rfl (Sto.ofV Ar186 q186 V152 (Ins.self (Exa.ext O_181.2 E_PIPELINE_STOPPED))) (g := (mkF m 34 #[iv q1, .unset, .unset, .unset] [(.ref a_PIPELINE_STOPPED), (.int 4), (.ref b152), (.ref b152)])) rfl rfl (hb hby at_34)
  have B187 : Arv Z h187 b152 c152 (.object "com/example/theseus/theseus/engine/EventType") (18 : Int32) [(.ref a_PIPELINE_STARTED), (.ref a_PIPELINE_RESUMED), (.ref a_PIPELINE_COMPLETED), (.ref a_PIPELINE_FAILED), (.ref a_PIPELINE_STOPPED), .null, .null, .null, .null, .null, .null, .null, .null, .null, .null, .null, .null, .null] .null := Arv.set Ar186 q186 S186 M186 H186 G186 rfl W187 4 rfl (Nat.le_of_ble_eq_true rfl)
  have N187 := Fr.snoc X187 N180 g_b152
  have O_188 := O_181.wr W187 g_b152
  have K_189 := K_182.wr W187 (Or.inr sz_b152)
  have k_190 : Go p.tables e below (s₁.setTop (entryFrame m #[(.int q1)] maxLocals)) (T187.setTop (mkF m 37 #[iv q1, .unset, .unset, .unset] [(.int 5), (.ref b152), (.ref b152)])) := fun t q => by
    refine k_185 t ?_
    refine st187 _ ?_
    show Steps _ _ _ (T187.setTop (mkF m 35 #[iv q1, .unset, .unset, .unset] [(.ref b152)])) _
    refine XS.dup X187.here hx rfl (hb hby at_35) rfl rfl ?_
    show Steps _ _ _ (T187.setTop (mkF m 36 #[iv q1, .unset, .unset, .unset] [(.ref b152), (.ref b152)])) _
    refine XS.iconst X187.here hx rfl (hb hby at_36) ?_
    show Steps _ _ _ (T187.setTop (mkF m 37 #[iv q1, .unset, .unset, .unset] [(.int 5), (.ref b152), (.ref b152)])) _
    exact q
  obtain ⟨T191, X191, e191, st191⟩ := getS2 X187 hx hZ hown (host := "") (Or.inl (hw _ (wd 14 rfl))) Via.refl e187 (S_PIPELINE_CANCELLED.ext O_188.2) (g := (mkF m 37 #[iv q1, .unset, .unset, .unset] [(.int 5), (.ref b152), (.ref b152)])) rfl (hb hby at_37)
  have k_192 : Go p.tables e below (s₁.setTop (entryFrame m #[(.int q1)] maxLocals)) (T191.setTop (mkF m 40 #[iv q1, .unset, .unset, .unset] [(.ref a_PIPELINE_CANCELLED), (.int 5), (.ref b152), (.ref b152)])) := fun t q => by
    refine k_190 t ?_
    refine st191 _ ?_
    show Steps _ _ _ (T191.setTop (mkF m 40 #[iv q1, .unset, .unset, .unset] [(.ref a_PIPELINE_CANCELLED), (.int 5), (.ref b152), (.ref b152)])) _
    exact q
  obtain ⟨cl193, Ar193, q193, S193, M193, H193, G193⟩ := B187
  have hin193 : ¬ ((5 : Int32) < 0 ∨ cl193.slots.size ≤ ((5 : Int32)).toNatClampNeg) := inb_of S193 ⟨by decide, by decide⟩
  obtain ⟨T194, h194, X194, e194, W194, st194⟩ := stR X191 hx hZ e191 Ar193 (j := (5 : Int32)) hin193 rfl (Sto.ofV Ar193 q193 V152 (Ins.self (Exa.ext O_188.2 E_PIPELINE_CANCELLED))) (g := (mkF m 40 #[iv q1, .unset, .unset, .unset] [(.ref a_PIPELINE_CANCELLED), (.int 5), (.ref b152), (.ref b152)])) rfl rfl (hb hby at_40)
  have B194 : Arv Z h194 b152 c152 (.object "com/example/theseus/theseus/engine/EventType") (18 : Int32) [(.ref a_PIPELINE_STARTED), (.ref a_PIPELINE_RESUMED), (.ref a_PIPELINE_COMPLETED), (.ref a_PIPELINE_FAILED), (.ref a_PIPELINE_STOPPED), (.ref a_PIPELINE_CANCELLED), .null, .null, .null, .null, .null, .null, .null, .null, .null, .null, .null, .null] .null := Arv.set Ar193 q193 S193 M193 H193 G193 rfl W194 5 rfl (Nat.le_of_ble_eq_true rfl)
  have N194 := Fr.snoc X194 N187 g_b152
  have O_195 := O_188.wr W194 g_b152
  have K_196 := K_189.wr W194 (Or.inr sz_b152)
  have k_197 : Go p.tables e below (s₁.setTop (entryFrame m #[(.int q1)] maxLocals)) (T194.setTop (mkF m 44 #[iv q1, .unset, .unset, .unset] [(.int 6), (.ref b152), (.ref b152)])) := fun t q => by
    refine k_192 t ?_
    refine st194 _ ?_
    show Steps _ _ _ (T194.setTop (mkF m 41 #[iv q1, .unset, .unset, .unset] [(.ref b152)])) _
    refine XS.dup X194.here hx rfl (hb hby at_41) rfl rfl ?_
    show Steps _ _ _ (T194.setTop (mkF m 42 #[iv q1, .unset, .unset, .unset] [(.ref b152), (.ref b152)])) _
    refine XS.bipush X194.here hx rfl (hb hby at_42) ?_
    show Steps _ _ _ (T194.setTop (mkF m 44 #[iv q1, .unset, .unset, .unset] [(.int 6), (.ref b152), (.ref b152)])) _
    exact q
  obtain ⟨T198, X198, e198, st198⟩ := getS2 X194 hx hZ hown (host := "") (Or.inl (hw _ (wd 16 rfl))) Via.refl e194 (S_STAGE_STARTED.ext O_195.2) (g := (mkF m 44 #[iv q1, .unset, .unset, .unset] [(.int 6), (.ref b152), (.ref b152)])) rfl (hb hby at_44)
  have k_199 : Go p.tables e below (s₁.setTop (entryFrame m #[(.int q1)] maxLocals)) (T198.setTop (mkF m 47 #[iv q1, .unset, .unset, .unset] [(.ref a_STAGE_STARTED), (.int 6), (.ref b152), (.ref b152)])) := fun t q => by
    refine k_197 t ?_
    refine st198 _ ?_
    show Steps _ _ _ (T198.setTop (mkF m 47 #[iv q1, .unset, .unset, .unset] [(.ref a_STAGE_STARTED), (.int 6), (.ref b152), (.ref b152)])) _
    exact q
  obtain ⟨cl200, Ar200, q200, S200, M200, H200, G200⟩ := B194
  have hin200 : ¬ ((6 : Int32) < 0 ∨ cl200.slots.size ≤ ((6 : Int32)).toNatClampNeg) := inb_of S200 ⟨by decide, by decide⟩
  obtain ⟨T201, h201, X201, e201, W201, st201⟩ := stR X198 hx hZ e198 Ar200 (j := (6 : Int32)) hin200 rfl (Sto.ofV Ar200 q200 V152 (Ins.self (Exa.ext O_195.2 E_STAGE_STARTED))) (g := (mkF m 47 #[iv q1, .unset, .unset, .unset] [(.ref a_STAGE_STARTED), (.int 6), (.ref b152), (.ref b152)])) rfl rfl (hb hby at_47)
  have B201 : Arv Z h201 b152 c152 (.object "com/example/theseus/theseus/engine/EventType") (18 : Int32) [(.ref a_PIPELINE_STARTED), (.ref a_PIPELINE_RESUMED), (.ref a_PIPELINE_COMPLETED), (.ref a_PIPELINE_FAILED), (.ref a_PIPELINE_STOPPED), (.ref a_PIPELINE_CANCELLED), (.ref a_STAGE_STARTED), .null, .null, .null, .null, .null, .null, .null, .null, .null, .null, .null] .null := Arv.set Ar200 q200 S200 M200 H200 G200 rfl W201 6 rfl (Nat.le_of_ble_eq_true rfl)
  have N201 := Fr.snoc X201 N194 g_b152
  have O_202 := O_195.wr W201 g_b152
  have K_203 := K_196.wr W201 (Or.inr sz_b152)
  have k_204 : Go p.tables e below (s₁.setTop (entryFrame m #[(.int q1)] maxLocals)) (T201.setTop (mkF m 51 #[iv q1, .unset, .unset, .unset] [(.int 7), (.ref b152), (.ref b152)])) := fun t q => by
    refine k_199 t ?_
    refine st201 _ ?_
    show Steps _ _ _ (T201.setTop (mkF m 48 #[iv q1, .unset, .unset, .unset] [(.ref b152)])) _
    refine XS.dup X201.here hx rfl (hb hby at_48) rfl rfl ?_
    show Steps _ _ _ (T201.setTop (mkF m 49 #[iv q1, .unset, .unset, .unset] [(.ref b152), (.ref b152)])) _
    refine XS.bipush X201.here hx rfl (hb hby at_49) ?_
    show Steps _ _ _ (T201.setTop (mkF m 51 #[iv q1, .unset, .unset, .unset] [(.int 7), (.ref b152), (.ref b152)])) _
    exact q
  obtain ⟨T205, X205, e205, st205⟩ := getS2 X201 hx hZ hown (host := "") (Or.inl (hw _ (wd 18 rfl))) Via.refl e201 (S_STAGE_COMPLETED.ext O_202.2) (g := (mkF m 51 #[iv q1, .unset, .unset, .unset] [(.int 7), (.ref b152), (.ref b152)])) rfl (hb hby at_51)
  have k_206 : Go p.tables e below (s₁.setTop (entryFrame m #[(.int q1)] maxLocals)) (T205.setTop (mkF m 54 #[iv q1, .unset, .unset, .unset] [(.ref a_STAGE_COMPLETED), (.int 7), (.ref b152), (.ref b152)])) := fun t q => by
    refine k_204 t ?_
    refine st205 _ ?_
    show Steps _ _ _ (T205.setTop (mkF m 54 #[iv q1, .unset, .unset, .unset] [(.ref a_STAGE_COMPLETED), (.int 7), (.ref b152), (.ref b152)])) _
    exact q
  obtain ⟨cl207, Ar207, q207, S207, M207, H207, G207⟩ := B201
  have hin207 : ¬ ((7 : Int32) < 0 ∨ cl207.slots.size ≤ ((7 : Int32)).toNatClampNeg) := inb_of S207 ⟨by decide, by decide⟩
  obtain ⟨T208, h208, X208, e208, W208, st208⟩ := stR X205 hx hZ e205 Ar207 (j := (7 : Int32)) hin207 rfl (Sto.ofV Ar207 q207 V152 (Ins.self (Exa.ext O_202.2 E_STAGE_COMPLETED))) (g := (mkF m 54 #[iv q1, .unset, .unset, .unset] [(.ref a_STAGE_COMPLETED), (.int 7), (.ref b152), (.ref b152)])) rfl rfl (hb hby at_54)
  have B208 : Arv Z h208 b152 c152 (.object "com/example/theseus/theseus/engine/EventType") (18 : Int32) [(.ref a_PIPELINE_STARTED), (.ref a_PIPELINE_RESUMED), (.ref a_PIPELINE_COMPLETED), (.ref a_PIPELINE_FAILED), (.ref a_PIPELINE_STOPPED), (.ref a_PIPELINE_CANCELLED), (.ref a_STAGE_STARTED), (.ref a_STAGE_COMPLETED), .null, .null, .null, .null, .null, .null, .null, .null, .null, .null] .null := Arv.set Ar207 q207 S207 M207 H207 G207 rfl W208 7 rfl (Nat.le_of_ble_eq_true rfl)
  have N208 := Fr.snoc X208 N201 g_b152
  have O_209 := O_202.wr W208 g_b152
  have K_210 := K_203.wr W208 (Or.inr sz_b152)
  have k_211 : Go p.tables e below (s₁.setTop (entryFrame m #[(.int q1)] maxLocals)) (T208.setTop (mkF m 58 #[iv q1, .unset, .unset, .unset] [(.int 8), (.ref b152), (.ref b152)])) := fun t q => by
    refine k_206 t ?_
    refine st208 _ ?_
    show Steps _ _ _ (T208.setTop (mkF m 55 #[iv q1, .unset, .unset, .unset] [(.ref b152)])) _
    refine XS.dup X208.here hx rfl (hb hby at_55) rfl rfl ?_
    show Steps _ _ _ (T208.setTop (mkF m 56 #[iv q1, .unset, .unset, .unset] [(.ref b152), (.ref b152)])) _
    refine XS.bipush X208.here hx rfl (hb hby at_56) ?_
    show Steps _ _ _ (T208.setTop (mkF m 58 #[iv q1, .unset, .unset, .unset] [(.int 8), (.ref b152), (.ref b152)])) _
    exact q
  obtain ⟨T212, X212, e212, st212⟩ := getS2 X208 hx hZ hown (host := "") (Or.inl (hw _ (wd 20 rfl))) Via.refl e208 (S_STAGE_FAILED.ext O_209.2) (g := (mkF m 58 #[iv q1, .unset, .unset, .unset] [(.int 8), (.ref b152), (.ref b152)])) rfl (hb hby at_58)
  have k_213 : Go p.tables e below (s₁.setTop (entryFrame m #[(.int q1)] maxLocals)) (T212.setTop (mkF m 61 #[iv q1, .unset, .unset, .unset] [(.ref a_STAGE_FAILED), (.int 8), (.ref b152), (.ref b152)])) := fun t q => by
    refine k_211 t ?_
    refine st212 _ ?_
    show Steps _ _ _ (T212.setTop (mkF m 61 #[iv q1, .unset, .unset, .unset] [(.ref a_STAGE_FAILED), (.int 8), (.ref b152), (.ref b152)])) _
    exact q
  obtain ⟨cl214, Ar214, q214, S214, M214, H214, G214⟩ := B208
  have hin214 : ¬ ((8 : Int32) < 0 ∨ cl214.slots.size ≤ ((8 : Int32)).toNatClampNeg) := inb_of S214 ⟨by decide, by decide⟩
  obtain ⟨T215, h215, X215, e215, W215, st215⟩ := stR X212 hx hZ e212 Ar214 (j := (8 : Int32)) hin214 rfl (Sto.ofV Ar214 q214 V152 (Ins.self (Exa.ext O_209.2 E_STAGE_FAILED))) (g := (mkF m 61 #[iv q1, .unset, .unset, .unset] [(.ref a_STAGE_FAILED), (.int 8), (.ref b152), (.ref b152)])) rfl rfl (hb hby at_61)
  have B215 : Arv Z h215 b152 c152 (.object "com/example/theseus/theseus/engine/EventType") (18 : Int32) [(.ref a_PIPELINE_STARTED), (.ref a_PIPELINE_RESUMED), (.ref a_PIPELINE_COMPLETED), (.ref a_PIPELINE_FAILED), (.ref a_PIPELINE_STOPPED), (.ref a_PIPELINE_CANCELLED), (.ref a_STAGE_STARTED), (.ref a_STAGE_COMPLETED), (.ref a_STAGE_FAILED), .null, .null, .null, .null, .null, .null, .null, .null, .null] .null := Arv.set Ar214 q214 S214 M214 H214 G214 rfl W215 8 rfl (Nat.le_of_ble_eq_true rfl)
  have N215 := Fr.snoc X215 N208 g_b152
  have O_216 := O_209.wr W215 g_b152
  have K_217 := K_210.wr W215 (Or.inr sz_b152)
  have k_218 : Go p.tables e below (s₁.setTop (entryFrame m #[(.int q1)] maxLocals)) (T215.setTop (mkF m 65 #[iv q1, .unset, .unset, .unset] [(.int 9), (.ref b152), (.ref b152)])) := fun t q => by
    refine k_213 t ?_
    refine st215 _ ?_
    show Steps _ _ _ (T215.setTop (mkF m 62 #[iv q1, .unset, .unset, .unset] [(.ref b152)])) _
    refine XS.dup X215.here hx rfl (hb hby at_62) rfl rfl ?_
    show Steps _ _ _ (T215.setTop (mkF m 63 #[iv q1, .unset, .unset, .unset] [(.ref b152), (.ref b152)])) _
    refine XS.bipush X215.here hx rfl (hb hby at_63) ?_
    show Steps _ _ _ (T215.setTop (mkF m 65 #[iv q1, .unset, .unset, .unset] [(.int 9), (.ref b152), (.ref b152)])) _
    exact q
  obtain ⟨T219, X219, e219, st219⟩ := getS2 X215 hx hZ hown (host := "") (Or.inl (hw _ (wd 22 rfl))) Via.refl e215 (S_STAGE_RETRYING.ext O_216.2) (g := (mkF m 65 #[iv q1, .unset, .unset, .unset] [(.int 9), (.ref b152), (.ref b152)])) rfl (hb hby at_65)
  have k_220 : Go p.tables e below (s₁.setTop (entryFrame m #[(.int q1)] maxLocals)) (T219.setTop (mkF m 68 #[iv q1, .unset, .unset, .unset] [(.ref a_STAGE_RETRYING), (.int 9), (.ref b152), (.ref b152)])) := fun t q => by
    refine k_218 t ?_
    refine st219 _ ?_
    show Steps _ _ _ (T219.setTop (mkF m 68 #[iv q1, .unset, .unset, .unset] [(.ref a_STAGE_RETRYING), (.int 9), (.ref b152), (.ref b152)])) _
    exact q
  obtain ⟨cl221, Ar221, q221, S221, M221, H221, G221⟩ := B215
  have hin221 : ¬ ((9 : Int32) < 0 ∨ cl221.slots.size ≤ ((9 : Int32)).toNatClampNeg) := inb_of S221 ⟨by decide, by decide⟩
  obtain ⟨T222, h222, X222, e222, W222, st222⟩ := stR X219 hx hZ e219 Ar221 (j := (9 : Int32)) hin221 rfl (Sto.ofV Ar221 q221 V152 (Ins.self (Exa.ext O_216.2 E_STAGE_RETRYING))) (g := (mkF m 68 #[iv q1, .unset, .unset, .unset] [(.ref a_STAGE_RETRYING), (.int 9), (.ref b152), (.ref b152)])) rfl rfl (hb hby at_68)
  have B222 : Arv Z h222 b152 c152 (.object "com/example/theseus/theseus/engine/EventType") (18 : Int32) [(.ref a_PIPELINE_STARTED), (.ref a_PIPELINE_RESUMED), (.ref a_PIPELINE_COMPLETED), (.ref a_PIPELINE_FAILED), (.ref a_PIPELINE_STOPPED), (.ref a_PIPELINE_CANCELLED), (.ref a_STAGE_STARTED), (.ref a_STAGE_COMPLETED), (.ref a_STAGE_FAILED), (.ref a_STAGE_RETRYING), .null, .null, .null, .null, .null, .null, .null, .null] .null := Arv.set Ar221 q221 S221 M221 H221 G221 rfl W222 9 rfl (Nat.le_of_ble_eq_true rfl)
  have N222 := Fr.snoc X222 N215 g_b152
  have O_223 := O_216.wr W222 g_b152
  have K_224 := K_217.wr W222 (Or.inr sz_b152)
  have k_225 : Go p.tables e below (s₁.setTop (entryFrame m #[(.int q1)] maxLocals)) (T222.setTop (mkF m 72 #[iv q1, .unset, .unset, .unset] [(.int 10), (.ref b152), (.ref b152)])) := fun t q => by
    refine k_220 t ?_
    refine st222 _ ?_
    show Steps _ _ _ (T222.setTop (mkF m 69 #[iv q1, .unset, .unset, .unset] [(.ref b152)])) _
    refine XS.dup X222.here hx rfl (hb hby at_69) rfl rfl ?_
    show Steps _ _ _ (T222.setTop (mkF m 70 #[iv q1, .unset, .unset, .unset] [(.ref b152), (.ref b152)])) _
    refine XS.bipush X222.here hx rfl (hb hby at_70) ?_
    show Steps _ _ _ (T222.setTop (mkF m 72 #[iv q1, .unset, .unset, .unset] [(.int 10), (.ref b152), (.ref b152)])) _
    exact q
  obtain ⟨T226, X226, e226, st226⟩ := getS2 X222 hx hZ hown (host := "") (Or.inl (hw _ (wd 24 rfl))) Via.refl e222 (S_PARALLEL_STARTED.ext O_223.2) (g := (mkF m 72 #[iv q1, .unset, .unset, .unset] [(.int 10), (.ref b152), (.ref b152)])) rfl (hb hby at_72)
  have k_227 : Go p.tables e below (s₁.setTop (entryFrame m #[(.int q1)] maxLocals)) (T226.setTop (mkF m 75 #[iv q1, .unset, .unset, .unset] [(.ref a_PARALLEL_STARTED), (.int 10), (.ref b152), (.ref b152)])) := fun t q => by
    refine k_225 t ?_
    refine st226 _ ?_
    show Steps _ _ _ (T226.setTop (mkF m 75 #[iv q1, .unset, .unset, .unset] [(.ref a_PARALLEL_STARTED), (.int 10), (.ref b152), (.ref b152)])) _
    exact q
  obtain ⟨cl228, Ar228, q228, S228, M228, H228, G228⟩ := B222
  have hin228 : ¬ ((10 : Int32) < 0 ∨ cl228.slots.size ≤ ((10 : Int32)).toNatClampNeg) := inb_of S228 ⟨by decide, by decide⟩
  obtain ⟨T229, h229, X229, e229, W229, st229⟩ := stR X226 hx hZ e226 Ar228 (j := (10 : Int32)) hin228 rfl (Sto.ofV Ar228 q228 V152 (Ins.self (Exa.ext O_223.2 E_PARALLEL_STARTED))) (g := (mkF m 75 #[iv q1, .unset, .unset, .unset] [(.ref a_PARALLEL_STARTED), (.int 10), (.ref b152), (.ref b152)])) rfl rfl (hb hby at_75)
  have B229 : Arv Z h229 b152 c152 (.object "com/example/theseus/theseus/engine/EventType") (18 : Int32) [(.ref a_PIPELINE_STARTED), (.ref a_PIPELINE_RESUMED), (.ref a_PIPELINE_COMPLETED), (.ref a_PIPELINE_FAILED), (.ref a_PIPELINE_STOPPED), (.ref a_PIPELINE_CANCELLED), (.ref a_STAGE_STARTED), (.ref a_STAGE_COMPLETED), (.ref a_STAGE_FAILED), (.ref a_STAGE_RETRYING), (.ref a_PARALLEL_STARTED), .null, .null, .null, .null, .null, .null, .null] .null := Arv.set Ar228 q228 S228 M228 H228 G228 rfl W229 10 rfl (Nat.le_of_ble_eq_true rfl)
  have N229 := Fr.snoc X229 N222 g_b152
  have O_230 := O_223.wr W229 g_b152
  have K_231 := K_224.wr W229 (Or.inr sz_b152)
  have k_232 : Go p.tables e below (s₁.setTop (entryFrame m #[(.int q1)] maxLocals)) (T229.setTop (mkF m 79 #[iv q1, .unset, .unset, .unset] [(.int 11), (.ref b152), (.ref b152)])) := fun t q => by
    refine k_227 t ?_
    refine st229 _ ?_
    show Steps _ _ _ (T229.setTop (mkF m 76 #[iv q1, .unset, .unset, .unset] [(.ref b152)])) _
    refine XS.dup X229.here hx rfl (hb hby at_76) rfl rfl ?_
    show Steps _ _ _ (T229.setTop (mkF m 77 #[iv q1, .unset, .unset, .unset] [(.ref b152), (.ref b152)])) _
    refine XS.bipush X229.here hx rfl (hb hby at_77) ?_
    show Steps _ _ _ (T229.setTop (mkF m 79 #[iv q1, .unset, .unset, .unset] [(.int 11), (.ref b152), (.ref b152)])) _
    exact q
  obtain ⟨T233, X233, e233, st233⟩ := getS2 X229 hx hZ hown (host := "") (Or.inl (hw _ (wd 26 rfl))) Via.refl e229 (S_PARALLEL_BRANCH_STARTED.ext O_230.2) (g := (mkF m 79 #[iv q1, .unset, .unset, .unset] [(.int 11), (.ref b152), (.ref b152)])) rfl (hb hby at_79)
  have k_234 : Go p.tables e below (s₁.setTop (entryFrame m #[(.int q1)] maxLocals)) (T233.setTop (mkF m 82 #[iv q1, .unset, .unset, .unset] [(.ref a_PARALLEL_BRANCH_STARTED), (.int 11), (.ref b152), (.ref b152)])) := fun t q => by
    refine k_232 t ?_
    refine st233 _ ?_
    show Steps _ _ _ (T233.setTop (mkF m 82 #[iv q1, .unset, .unset, .unset] [(.ref a_PARALLEL_BRANCH_STARTED), (.int 11), (.ref b152), (.ref b152)])) _
    exact q
  obtain ⟨cl235, Ar235, q235, S235, M235, H235, G235⟩ := B229
  have hin235 : ¬ ((11 : Int32) < 0 ∨ cl235.slots.size ≤ ((11 : Int32)).toNatClampNeg) := inb_of S235 ⟨by decide, by decide⟩
  obtain ⟨T236, h236, X236, e236, W236, st236⟩ := stR X233 hx hZ e233 Ar235 (j := (11 : Int32)) hin235 rfl (Sto.ofV Ar235 q235 V152 (Ins.self (Exa.ext O_230.2 E_PARALLEL_BRANCH_STARTED))) (g := (mkF m 82 #[iv q1, .unset, .unset, .unset] [(.ref a_PARALLEL_BRANCH_STARTED), (.int 11), (.ref b152), (.ref b152)])) rfl rfl (hb hby at_82)
  have B236 : Arv Z h236 b152 c152 (.object "com/example/theseus/theseus/engine/EventType") (18 : Int32) [(.ref a_PIPELINE_STARTED), (.ref a_PIPELINE_RESUMED), (.ref a_PIPELINE_COMPLETED), (.ref a_PIPELINE_FAILED), (.ref a_PIPELINE_STOPPED), (.ref a_PIPELINE_CANCELLED), (.ref a_STAGE_STARTED), (.ref a_STAGE_COMPLETED), (.ref a_STAGE_FAILED), (.ref a_STAGE_RETRYING), (.ref a_PARALLEL_STARTED), (.ref a_PARALLEL_BRANCH_STARTED), .null, .null, .null, .null, .null, .null] .null := Arv.set Ar235 q235 S235 M235 H235 G235 rfl W236 11 rfl (Nat.le_of_ble_eq_true rfl)
  have N236 := Fr.snoc X236 N229 g_b152
  have O_237 := O_230.wr W236 g_b152
  have K_238 := K_231.wr W236 (Or.inr sz_b152)
  have k_239 : Go p.tables e below (s₁.setTop (entryFrame m #[(.int q1)] maxLocals)) (T236.setTop (mkF m 86 #[iv q1, .unset, .unset, .unset] [(.int 12), (.ref b152), (.ref b152)])) := fun t q => by
    refine k_234 t ?_
    refine st236 _ ?_
    show Steps _ _ _ (T236.setTop (mkF m 83 #[iv q1, .unset, .unset, .unset] [(.ref b152)])) _
    refine XS.dup X236.here hx rfl (hb hby at_83) rfl rfl ?_
    show Steps _ _ _ (T236.setTop (mkF m 84 #[iv q1, .unset, .unset, .unset] [(.ref b152), (.ref b152)])) _
    refine XS.bipush X236.here hx rfl (hb hby at_84) ?_
    show Steps _ _ _ (T236.setTop (mkF m 86 #[iv q1, .unset, .unset, .unset] [(.int 12), (.ref b152), (.ref b152)])) _
    exact q
  obtain ⟨T240, X240, e240, st240⟩ := getS2 X236 hx hZ hown (host := "") (Or.inl (hw _ (wd 28 rfl))) Via.refl e236 (S_PARALLEL_BRANCH_COMPLETED.ext O_237.2) (g := (mkF m 86 #[iv q1, .unset, .unset, .unset] [(.int 12), (.ref b152), (.ref b152)])) rfl (hb hby at_86)
  have k_241 : Go p.tables e below (s₁.setTop (entryFrame m #[(.int q1)] maxLocals)) (T240.setTop (mkF m 89 #[iv q1, .unset, .unset, .unset] [(.ref a_PARALLEL_BRANCH_COMPLETED), (.int 12), (.ref b152), (.ref b152)])) := fun t q => by
    refine k_239 t ?_
    refine st240 _ ?_
    show Steps _ _ _ (T240.setTop (mkF m 89 #[iv q1, .unset, .unset, .unset] [(.ref a_PARALLEL_BRANCH_COMPLETED), (.int 12), (.ref b152), (.ref b152)])) _
    exact q
  obtain ⟨cl242, Ar242, q242, S242, M242, H242, G242⟩ := B236
  have hin242 : ¬ ((12 : Int32) < 0 ∨ cl242.slots.size ≤ ((12 : Int32)).toNatClampNeg) := inb_of S242 ⟨by decide, by decide⟩
  obtain ⟨T243, h243, X243, e243, W243, st243⟩ := stR X240 hx hZ e240 Ar242 (j := (12 : Int32)) hin242 rfl (Sto.ofV Ar242 q242 V152 (Ins.self (Exa.ext O_237.2 E_PARALLEL_BRANCH_COMPLETED))) (g := (mkF m 89 #[iv q1, .unset, .unset, .unset] [(.ref a_PARALLEL_BRANCH_COMPLETED), (.int 12), (.ref b152), (.ref b152)])) rfl rfl (hb hby at_89)
  have B243 : Arv Z h243 b152 c152 (.object "com/example/theseus/theseus/engine/EventType") (18 : Int32) [(.ref a_PIPELINE_STARTED), (.ref a_PIPELINE_RESUMED), (.ref a_PIPELINE_COMPLETED), (.ref a_PIPELINE_FAILED), (.ref a_PIPELINE_STOPPED), (.ref a_PIPELINE_CANCELLED), (.ref a_STAGE_STARTED), (.ref a_STAGE_COMPLETED), (.ref a_STAGE_FAILED), (.ref a_STAGE_RETRYING), (.ref a_PARALLEL_STARTED), (.ref a_PARALLEL_BRANCH_STARTED), (.ref a_PARALLEL_BRANCH_COMPLETED), .null, .null, .null, .null, .null] .null := Arv.set Ar242 q242 S242 M242 H242 G242 rfl W243 12 rfl (Nat.le_of_ble_eq_true rfl)
  have N243 := Fr.snoc X243 N236 g_b152
  have O_244 := O_237.wr W243 g_b152
  have K_245 := K_238.wr W243 (Or.inr sz_b152)
  have k_246 : Go p.tables e below (s₁.setTop (entryFrame m #[(.int q1)] maxLocals)) (T243.setTop (mkF m 93 #[iv q1, .unset, .unset, .unset] [(.int 13), (.ref b152), (.ref b152)])) := fun t q => by
    refine k_241 t ?_
    refine st243 _ ?_
    show Steps _ _ _ (T243.setTop (mkF m 90 #[iv q1, .unset, .unset, .unset] [(.ref b152)])) _
    refine XS.dup X243.here hx rfl (hb hby at_90) rfl rfl ?_
    show Steps _ _ _ (T243.setTop (mkF m 91 #[iv q1, .unset, .unset, .unset] [(.ref b152), (.ref b152)])) _
    refine XS.bipush X243.here hx rfl (hb hby at_91) ?_
    show Steps _ _ _ (T243.setTop (mkF m 93 #[iv q1, .unset, .unset, .unset] [(.int 13), (.ref b152), (.ref b152)])) _
    exact q
  obtain ⟨T247, X247, e247, st247⟩ := getS2 X243 hx hZ hown (host := "") (Or.inl (hw _ (wd 30 rfl))) Via.refl e243 (S_PARALLEL_COMPLETED.ext O_244.2) (g := (mkF m 93 #[iv q1, .unset, .unset, .unset] [(.int 13), (.ref b152), (.ref b152)])) rfl (hb hby at_93)
  have k_248 : Go p.tables e below (s₁.setTop (entryFrame m #[(.int q1)] maxLocals)) (T247.setTop (mkF m 96 #[iv q1, .unset, .unset, .unset] [(.ref a_PARALLEL_COMPLETED), (.int 13), (.ref b152), (.ref b152)])) := fun t q => by
    refine k_246 t ?_
    refine st247 _ ?_
    show Steps _ _ _ (T247.setTop (mkF m 96 #[iv q1, .unset, .unset, .unset] [(.ref a_PARALLEL_COMPLETED), (.int 13), (.ref b152), (.ref b152)])) _
    exact q
  obtain ⟨cl249, Ar249, q249, S249, M249, H249, G249⟩ := B243
  have hin249 : ¬ ((13 : Int32) < 0 ∨ cl249.slots.size ≤ ((13 : Int32)).toNatClampNeg) := inb_of S249 ⟨by decide, by decide⟩
  obtain ⟨T250, h250, X250, e250, W250, st250⟩ := stR X247 hx hZ e247 Ar249 (j := (13 : Int32)) hin249 rfl (Sto.ofV Ar249 q249 V152 (Ins.self (Exa.ext O_244.2 E_PARALLEL_COMPLETED))) (g := (mkF m 96 #[iv q1, .unset, .unset, .unset] [(.ref a_PARALLEL_COMPLETED), (.int 13), (.ref b152), (.ref b152)])) rfl rfl (hb hby at_96)
  have B250 : Arv Z h250 b152 c152 (.object "com/example/theseus/theseus/engine/EventType") (18 : Int32) [(.ref a_PIPELINE_STARTED), (.ref a_PIPELINE_RESUMED), (.ref a_PIPELINE_COMPLETED), (.ref a_PIPELINE_FAILED), (.ref a_PIPELINE_STOPPED), (.ref a_PIPELINE_CANCELLED), (.ref a_STAGE_STARTED), (.ref a_STAGE_COMPLETED), (.ref a_STAGE_FAILED), (.ref a_STAGE_RETRYING), (.ref a_PARALLEL_STARTED), (.ref a_PARALLEL_BRANCH_STARTED), (.ref a_PARALLEL_BRANCH_COMPLETED), (.ref a_PARALLEL_COMPLETED), .null, .null, .null, .null] .null := Arv.set Ar249 q249 S249 M249 H249 G249 rfl W250 13 rfl (Nat.le_of_ble_eq_true rfl)
  have N250 := Fr.snoc X250 N243 g_b152
  have O_251 := O_244.wr W250 g_b152
  have K_252 := K_245.wr W250 (Or.inr sz_b152)
  have k_253 : Go p.tables e below (s₁.setTop (entryFrame m #[(.int q1)] maxLocals)) (T250.setTop (mkF m 100 #[iv q1, .unset, .unset, .unset] [(.int 14), (.ref b152), (.ref b152)])) := fun t q => by
    refine k_248 t ?_
    refine st250 _ ?_
    show Steps _ _ _ (T250.setTop (mkF m 97 #[iv q1, .unset, .unset, .unset] [(.ref b152)])) _
    refine XS.dup X250.here hx rfl (hb hby at_97) rfl rfl ?_
    show Steps _ _ _ (T250.setTop (mkF m 98 #[iv q1, .unset, .unset, .unset] [(.ref b152), (.ref b152)])) _
    refine XS.bipush X250.here hx rfl (hb hby at_98) ?_
    show Steps _ _ _ (T250.setTop (mkF m 100 #[iv q1, .unset, .unset, .unset] [(.int 14), (.ref b152), (.ref b152)])) _
    exact q
  obtain ⟨T254, X254, e254, st254⟩ := getS2 X250 hx hZ hown (host := "") (Or.inl (hw _ (wd 32 rfl))) Via.refl e250 (S_INTERVIEW_STARTED.ext O_251.2) (g := (mkF m 100 #[iv q1, .unset, .unset, .unset] [(.int 14), (.ref b152), (.ref b152)])) rfl (hb hby at_100)
  have k_255 : Go p.tables e below (s₁.setTop (entryFrame m #[(.int q1)] maxLocals)) (T254.setTop (mkF m 103 #[iv q1, .unset, .unset, .unset] [(.ref a_INTERVIEW_STARTED), (.int 14), (.ref b152), (.ref b152)])) := fun t q => by
    refine k_253 t ?_
    refine st254 _ ?_
    show Steps _ _ _ (T254.setTop (mkF m 103 #[iv q1, .unset, .unset, .unset] [(.ref a_INTERVIEW_STARTED), (.int 14), (.ref b152), (.ref b152)])) _
    exact q
  obtain ⟨cl256, Ar256, q256, S256, M256, H256, G256⟩ := B250
  have hin256 : ¬ ((14 : Int32) < 0 ∨ cl256.slots.size ≤ ((14 : Int32)).toNatClampNeg) := inb_of S256 ⟨by decide, by decide⟩
  obtain ⟨T257, h257, X257, e257, W257, st257⟩ := stR X254 hx hZ e254 Ar256 (j := (14 : Int32)) hin256 rfl (Sto.ofV Ar256 q256 V152 (Ins.self (Exa.ext O_251.2 E_INTERVIEW_STARTED))) (g := (mkF m 103 #[iv q1, .unset, .unset, .unset] [(.ref a_INTERVIEW_STARTED), (.int 14), (.ref b152), (.ref b152)])) rfl rfl (hb hby at_103)
  have B257 : Arv Z h257 b152 c152 (.object "com/example/theseus/theseus/engine/EventType") (18 : Int32) [(.ref a_PIPELINE_STARTED), (.ref a_PIPELINE_RESUMED), (.ref a_PIPELINE_COMPLETED), (.ref a_PIPELINE_FAILED), (.ref a_PIPELINE_STOPPED), (.ref a_PIPELINE_CANCELLED), (.ref a_STAGE_STARTED), (.ref a_STAGE_COMPLETED), (.ref a_STAGE_FAILED), (.ref a_STAGE_RETRYING), (.ref a_PARALLEL_STARTED), (.ref a_PARALLEL_BRANCH_STARTED), (.ref a_PARALLEL_BRANCH_COMPLETED), (.ref a_PARALLEL_COMPLETED), (.ref a_INTERVIEW_STARTED), .null, .null, .null] .null := Arv.set Ar256 q256 S256 M256 H256 G256 rfl W257 14 rfl (Nat.le_of_ble_eq_true rfl)
  have N257 := Fr.snoc X257 N250 g_b152
  have O_258 := O_251.wr W257 g_b152
  have K_259 := K_252.wr W257 (Or.inr sz_b152)
  have k_260 : Go p.tables e below (s₁.setTop (entryFrame m #[(.int q1)] maxLocals)) (T257.setTop (mkF m 107 #[iv q1, .unset, .unset, .unset] [(.int 15), (.ref b152), (.ref b152)])) := fun t q => by
    refine k_255 t ?_
    refine st257 _ ?_
    show Steps _ _ _ (T257.setTop (mkF m 104 #[iv q1, .unset, .unset, .unset] [(.ref b152)])) _
    refine XS.dup X257.here hx rfl (hb hby at_104) rfl rfl ?_
    show Steps _ _ _ (T257.setTop (mkF m 105 #[iv q1, .unset, .unset, .unset] [(.ref b152), (.ref b152)])) _
    refine XS.bipush X257.here hx rfl (hb hby at_105) ?_
    show Steps _ _ _ (T257.setTop (mkF m 107 #[iv q1, .unset, .unset, .unset] [(.int 15), (.ref b152), (.ref b152)])) _
    exact q
  obtain ⟨T261, X261, e261, st261⟩ := getS2 X257 hx hZ hown (host := "") (Or.inl (hw _ (wd 34 rfl))) Via.refl e257 (S_INTERVIEW_COMPLETED.ext O_258.2) (g := (mkF m 107 #[iv q1, .unset, .unset, .unset] [(.int 15), (.ref b152), (.ref b152)])) rfl (hb hby at_107)
  have k_262 : Go p.tables e below (s₁.setTop (entryFrame m #[(.int q1)] maxLocals)) (T261.setTop (mkF m 110 #[iv q1, .unset, .unset, .unset] [(.ref a_INTERVIEW_COMPLETED), (.int 15), (.ref b152), (.ref b152)])) := fun t q => by
    refine k_260 t ?_
    refine st261 _ ?_
    show Steps _ _ _ (T261.setTop (mkF m 110 #[iv q1, .unset, .unset, .unset] [(.ref a_INTERVIEW_COMPLETED), (.int 15), (.ref b152), (.ref b152)])) _
    exact q
  obtain ⟨cl263, Ar263, q263, S263, M263, H263, G263⟩ := B257
  have hin263 : ¬ ((15 : Int32) < 0 ∨ cl263.slots.size ≤ ((15 : Int32)).toNatClampNeg) := inb_of S263 ⟨by decide, by decide⟩
  obtain ⟨T264, h264, X264, e264, W264, st264⟩ := stR X261 hx hZ e261 Ar263 (j := (15 : Int32)) hin263 rfl (Sto.ofV Ar263 q263 V152 (Ins.self (Exa.ext O_258.2 E_INTERVIEW_COMPLETED))) (g := (mkF m 110 #[iv q1, .unset, .unset, .unset] [(.ref a_INTERVIEW_COMPLETED), (.int 15), (.ref b152), (.ref b152)])) rfl rfl (hb hby at_110)
  have B264 : Arv Z h264 b152 c152 (.object "com/example/theseus/theseus/engine/EventType") (18 : Int32) [(.ref a_PIPELINE_STARTED), (.ref a_PIPELINE_RESUMED), (.ref a_PIPELINE_COMPLETED), (.ref a_PIPELINE_FAILED), (.ref a_PIPELINE_STOPPED), (.ref a_PIPELINE_CANCELLED), (.ref a_STAGE_STARTED), (.ref a_STAGE_COMPLETED), (.ref a_STAGE_FAILED), (.ref a_STAGE_RETRYING), (.ref a_PARALLEL_STARTED), (.ref a_PARALLEL_BRANCH_STARTED), (.ref a_PARALLEL_BRANCH_COMPLETED), (.ref a_PARALLEL_COMPLETED), (.ref a_INTERVIEW_STARTED), (.ref a_INTERVIEW_COMPLETED), .null, .null] .null := Arv.set Ar263 q263 S263 M263 H263 G263 rfl W264 15 rfl (Nat.le_of_ble_eq_true rfl)
  have N264 := Fr.snoc X264 N257 g_b152
  have O_265 := O_258.wr W264 g_b152
  have K_266 := K_259.wr W264 (Or.inr sz_b152)
  have k_267 : Go p.tables e below (s₁.setTop (entryFrame m #[(.int q1)] maxLocals)) (T264.setTop (mkF m 114 #[iv q1, .unset, .unset, .unset] [(.int 16), (.ref b152), (.ref b152)])) := fun t q => by
    refine k_262 t ?_
    refine st264 _ ?_
    show Steps _ _ _ (T264.setTop (mkF m 111 #[iv q1, .unset, .unset, .unset] [(.ref b152)])) _
    refine XS.dup X264.here hx rfl (hb hby at_111) rfl rfl ?_
    show Steps _ _ _ (T264.setTop (mkF m 112 #[iv q1, .unset, .unset, .unset] [(.ref b152), (.ref b152)])) _
    refine XS.bipush X264.here hx rfl (hb hby at_112) ?_
    show Steps _ _ _ (T264.setTop (mkF m 114 #[iv q1, .unset, .unset, .unset] [(.int 16), (.ref b152), (.ref b152)])) _
    exact q
  obtain ⟨T268, X268, e268, st268⟩ := getS2 X264 hx hZ hown (host := "") (Or.inl (hw _ (wd 36 rfl))) Via.refl e264 (S_INTERVIEW_TIMEOUT.ext O_265.2) (g := (mkF m 114 #[iv q1, .unset, .unset, .unset] [(.int 16), (.ref b152), (.ref b152)])) rfl (hb hby at_114)
  have k_269 : Go p.tables e below (s₁.setTop (entryFrame m #[(.int q1)] maxLocals)) (T268.setTop (mkF m 117 #[iv q1, .unset, .unset, .unset] [(.ref a_INTERVIEW_TIMEOUT), (.int 16), (.ref b152), (.ref b152)])) := fun t q => by
    refine k_267 t ?_
    refine st268 _ ?_
    show Steps _ _ _ (T268.setTop (mkF m 117 #[iv q1, .unset, .unset, .unset] [(.ref a_INTERVIEW_TIMEOUT), (.int 16), (.ref b152), (.ref b152)])) _
    exact q
  obtain ⟨cl270, Ar270, q270, S270, M270, H270, G270⟩ := B264
  have hin270 : ¬ ((16 : Int32) < 0 ∨ cl270.slots.size ≤ ((16 : Int32)).toNatClampNeg) := inb_of S270 ⟨by decide, by decide⟩
  obtain ⟨T271, h271, X271, e271, W271, st271⟩ := stR X268 hx hZ e268 Ar270 (j := (16 : Int32)) hin270 rfl (Sto.ofV Ar270 q270 V152 (Ins.self (Exa.ext O_265.2 E_INTERVIEW_TIMEOUT))) (g := (mkF m 117 #[iv q1, .unset, .unset, .unset] [(.ref a_INTERVIEW_TIMEOUT), (.int 16), (.ref b152), (.ref b152)])) rfl rfl (hb hby at_117)
  have B271 : Arv Z h271 b152 c152 (.object "com/example/theseus/theseus/engine/EventType") (18 : Int32) [(.ref a_PIPELINE_STARTED), (.ref a_PIPELINE_RESUMED), (.ref a_PIPELINE_COMPLETED), (.ref a_PIPELINE_FAILED), (.ref a_PIPELINE_STOPPED), (.ref a_PIPELINE_CANCELLED), (.ref a_STAGE_STARTED), (.ref a_STAGE_COMPLETED), (.ref a_STAGE_FAILED), (.ref a_STAGE_RETRYING), (.ref a_PARALLEL_STARTED), (.ref a_PARALLEL_BRANCH_STARTED), (.ref a_PARALLEL_BRANCH_COMPLETED), (.ref a_PARALLEL_COMPLETED), (.ref a_INTERVIEW_STARTED), (.ref a_INTERVIEW_COMPLETED), (.ref a_INTERVIEW_TIMEOUT), .null] .null := Arv.set Ar270 q270 S270 M270 H270 G270 rfl W271 16 rfl (Nat.le_of_ble_eq_true rfl)
  have N271 := Fr.snoc X271 N264 g_b152
  have O_272 := O_265.wr W271 g_b152
  have K_273 := K_266.wr W271 (Or.inr sz_b152)
  have k_274 : Go p.tables e below (s₁.setTop (entryFrame m #[(.int q1)] maxLocals)) (T271.setTop (mkF m 121 #[iv q1, .unset, .unset, .unset] [(.int 17), (.ref b152), (.ref b152)])) := fun t q => by
    refine k_269 t ?_
    refine st271 _ ?_
    show Steps _ _ _ (T271.setTop (mkF m 118 #[iv q1, .unset, .unset, .unset] [(.ref b152)])) _
    refine XS.dup X271.here hx rfl (hb hby at_118) rfl rfl ?_
    show Steps _ _ _ (T271.setTop (mkF m 119 #[iv q1, .unset, .unset, .unset] [(.ref b152), (.ref b152)])) _
    refine XS.bipush X271.here hx rfl (hb hby at_119) ?_
    show Steps _ _ _ (T271.setTop (mkF m 121 #[iv q1, .unset, .unset, .unset] [(.int 17), (.ref b152), (.ref b152)])) _
    exact q
  obtain ⟨T275, X275, e275, st275⟩ := getS2 X271 hx hZ hown (host := "") (Or.inl (hw _ (wd 38 rfl))) Via.refl e271 (S_CHECKPOINT_SAVED.ext O_272.2) (g := (mkF m 121 #[iv q1, .unset, .unset, .unset] [(.int 17), (.ref b152), (.ref b152)])) rfl (hb hby at_121)
  have k_276 : Go p.tables e below (s₁.setTop (entryFrame m #[(.int q1)] maxLocals)) (T275.setTop (mkF m 124 #[iv q1, .unset, .unset, .unset] [(.ref a_CHECKPOINT_SAVED), (.int 17), (.ref b152), (.ref b152)])) := fun t q => by
    refine k_274 t ?_
    refine st275 _ ?_
    show Steps _ _ _ (T275.setTop (mkF m 124 #[iv q1, .unset, .unset, .unset] [(.ref a_CHECKPOINT_SAVED), (.int 17), (.ref b152), (.ref b152)])) _
    exact q
  obtain ⟨cl277, Ar277, q277, S277, M277, H277, G277⟩ := B271
  have hin277 : ¬ ((17 : Int32) < 0 ∨ cl277.slots.size ≤ ((17 : Int32)).toNatClampNeg) := inb_of S277 ⟨by decide, by decide⟩
  obtain ⟨T278, h278, X278, e278, W278, st278⟩ := stR X275 hx hZ e275 Ar277 (j := (17 : Int32)) hin277 rfl (Sto.ofV Ar277 q277 V152 (Ins.self (Exa.ext O_272.2 E_CHECKPOINT_SAVED))) (g := (mkF m 124 #[iv q1, .unset, .unset, .unset] [(.ref a_CHECKPOINT_SAVED), (.int 17), (.ref b152), (.ref b152)])) rfl rfl (hb hby at_124)
  have B278 : Arv Z h278 b152 c152 (.object "com/example/theseus/theseus/engine/EventType") (18 : Int32) [(.ref a_PIPELINE_STARTED), (.ref a_PIPELINE_RESUMED), (.ref a_PIPELINE_COMPLETED), (.ref a_PIPELINE_FAILED), (.ref a_PIPELINE_STOPPED), (.ref a_PIPELINE_CANCELLED), (.ref a_STAGE_STARTED), (.ref a_STAGE_COMPLETED), (.ref a_STAGE_FAILED), (.ref a_STAGE_RETRYING), (.ref a_PARALLEL_STARTED), (.ref a_PARALLEL_BRANCH_STARTED), (.ref a_PARALLEL_BRANCH_COMPLETED), (.ref a_PARALLEL_COMPLETED), (.ref a_INTERVIEW_STARTED), (.ref a_INTERVIEW_COMPLETED), (.ref a_INTERVIEW_TIMEOUT), (.ref a_CHECKPOINT_SAVED)] .null := Arv.set Ar277 q277 S277 M277 H277 G277 rfl W278 17 rfl (Nat.le_of_ble_eq_true rfl)
  have N278 := Fr.snoc X278 N271 g_b152
  have O_279 := O_272.wr W278 g_b152
  have K_280 := K_273.wr W278 (Or.inr sz_b152)
  have k_281 : Go p.tables e below (s₁.setTop (entryFrame m #[(.int q1)] maxLocals)) (T278.setTop (mkF m 125 #[iv q1, .unset, .unset, .unset] [(.ref b152)])) := fun t q => by
    refine k_276 t ?_
    refine st278 _ ?_
    show Steps _ _ _ (T278.setTop (mkF m 125 #[iv q1, .unset, .unset, .unset] [(.ref b152)])) _
    exact q
  rcases own_rem_18 q1 with hi | hi | hi | hi | hi | hi | hi | hi | hi | hi | hi | hi | hi | hi | hi | hi | hi | hi
  · skip
    have k_282 : Go p.tables e below (s₁.setTop (entryFrame m #[(.int q1)] maxLocals)) (T278.setTop (mkF m 152 #[iv q1, rv b152, iv 0, iv 0] [(.int 0), (.ref b152)])) := fun t q => by
      refine k_281 t ?_
      refine XS.astoreN X278.here hx rfl (hb hby at_125) rfl rfl (l' := #[iv q1, rv b152, .unset, .unset]) rfl ?_
      show Steps _ _ _ (T278.setTop (mkF m 126 #[iv q1, rv b152, .unset, .unset] [])) _
      refine XS.iloadN X278.here hx rfl (hb hby at_126) rfl ?_
      show Steps _ _ _ (T278.setTop (mkF m 127 #[iv q1, rv b152, .unset, .unset] [(.int q1)])) _
      refine X278.ldcInt hx hown (mvT hZ (hw _ (wd 40 rfl))) (g := (mkF m 127 #[iv q1, rv b152, .unset, .unset] [(.int q1)])) rfl (hb hby at_127) _ ?_
      show Steps _ _ _ (T278.setTop (mkF m 129 #[iv q1, rv b152, .unset, .unset] [(.int 2147483647), (.int q1)])) _
      refine XS.iand X278.here hx rfl (hb hby at_129) rfl ?_
      show Steps _ _ _ (T278.setTop (mkF m 130 #[iv q1, rv b152, .unset, .unset] [(.int (q1 &&& (2147483647 : Int32)))])) _
      refine XS.bipush X278.here hx rfl (hb hby at_130) ?_
      show Steps _ _ _ (T278.setTop (mkF m 132 #[iv q1, rv b152, .unset, .unset] [(.int 18), (.int (q1 &&& (2147483647 : Int32)))])) _
      refine iremM (g := (mkF m 132 #[iv q1, rv b152, .unset, .unset] [(.int 18), (.int (q1 &&& (2147483647 : Int32)))])) X278 hx rfl (hb hby at_132) rfl (by decide) ?_
      show Steps _ _ _ (T278.setTop (mkF m 133 #[iv q1, rv b152, .unset, .unset] [(.int ((q1 &&& (2147483647 : Int32)) % (18 : Int32)))])) _
      rw [hi]
      show Steps _ _ _ (T278.setTop (mkF m 133 #[iv q1, rv b152, .unset, .unset] [(.int 0)])) _
      refine XS.istoreN X278.here hx rfl (hb hby at_133) rfl (l' := #[iv q1, rv b152, iv 0, .unset]) rfl ?_
      show Steps _ _ _ (T278.setTop (mkF m 134 #[iv q1, rv b152, iv 0, .unset] [])) _
      refine XS.iloadN X278.here hx rfl (hb hby at_134) rfl ?_
      show Steps _ _ _ (T278.setTop (mkF m 135 #[iv q1, rv b152, iv 0, .unset] [(.int 0)])) _
      refine XS.iconst X278.here hx rfl (hb hby at_135) ?_
      show Steps _ _ _ (T278.setTop (mkF m 136 #[iv q1, rv b152, iv 0, .unset] [(.int 2), (.int 0)])) _
      refine XS.icmpYes X278.here hx rfl (pc0 := 136) (pc' := 148) rfl (hb hby at_136) rfl (by decide) (by decide) (by decide) ?_
      show Steps _ _ _ (T278.setTop (mkF m 148 #[iv q1, rv b152, iv 0, .unset] [])) _
      refine XS.iconst X278.here hx rfl (hb hby at_148) ?_
      show Steps _ _ _ (T278.setTop (mkF m 149 #[iv q1, rv b152, iv 0, .unset] [(.int 0)])) _
      refine XS.istoreN X278.here hx rfl (hb hby at_149) rfl (l' := #[iv q1, rv b152, iv 0, iv 0]) rfl ?_
      show Steps _ _ _ (T278.setTop (mkF m 150 #[iv q1, rv b152, iv 0, iv 0] [])) _
      refine XS.aloadN X278.here hx rfl (hb hby at_150) rfl rfl ?_
      show Steps _ _ _ (T278.setTop (mkF m 151 #[iv q1, rv b152, iv 0, iv 0] [(.ref b152)])) _
      refine XS.iloadN X278.here hx rfl (hb hby at_151) rfl ?_
      show Steps _ _ _ (T278.setTop (mkF m 152 #[iv q1, rv b152, iv 0, iv 0] [(.int 0), (.ref b152)])) _
      exact q
    obtain ⟨cl283, Ar283, q283, S283, M283, H283, G283⟩ := B278
    have hin283 : ¬ ((0 : Int32) < 0 ∨ cl283.slots.size ≤ ((0 : Int32)).toNatClampNeg) := inb_of S283 ⟨by decide, by decide⟩
    have hat283 : cl283.slots[((0 : Int32)).toNatClampNeg]? = some (.ref a_PIPELINE_STARTED) := Has.at H283 hin283 rfl
    have k_284 : Go p.tables e below (s₁.setTop (entryFrame m #[(.int q1)] maxLocals)) (T278.setTop (mkF m 153 #[iv q1, rv b152, iv 0, iv 0] [(.ref a_PIPELINE_STARTED)])) := fun t q => by
      refine k_282 t ?_
      refine X278.aaload hx (j := (0 : Int32)) (v := (.ref a_PIPELINE_STARTED)) (by rw [e278]; exact Ar283.1) (State.isArrayOf_alike hZ.alike Ar283.2.1) rfl Ar283.2.2 hin283 hat283 (g := (mkF m 152 #[iv q1, rv b152, iv 0, iv 0] [(.int 0), (.ref b152)])) rfl rfl (hb hby at_152) _ ?_
      show Steps _ _ _ (T278.setTop (mkF m 153 #[iv q1, rv b152, iv 0, iv 0] [(.ref a_PIPELINE_STARTED)])) _
      exact q
    obtain ⟨cq285, kq285, q285a, q285b, q285c⟩ := isOf hZ e278 (Exa.ext O_279.2 E_PIPELINE_STARTED)
    obtain ⟨_, _, ⟨T285, L285, k285, n285⟩, -, X285, ⟨Lc285, hQ285, l285, y285, z285⟩, st285⟩ := X278.virtualBack hx (y := y_0) (z := y_0) hown (mvT hZ (hw _ (wd 41 rfl))) (mvT hZ (hw _ (wd 42 rfl))) (notFace_of_selects (args := #[]) (mvT hZ (hw _ (wd 44 rfl)))) (mvT hZ (hw _ (wd 44 rfl))) (mvT hZ (hw _ (wd 43 rfl))) (by decide) (backOf (W := 0) (ew_0 l Z a0 hw [] a_PIPELINE_STARTED a_PIPELINE_RESUMED a_PIPELINE_COMPLETED a_PIPELINE_FAILED a_PIPELINE_STOPPED a_PIPELINE_CANCELLED a_STAGE_STARTED a_STAGE_COMPLETED a_STAGE_FAILED a_STAGE_RETRYING a_PARALLEL_STARTED a_PARALLEL_BRANCH_STARTED a_PARALLEL_BRANCH_COMPLETED a_PARALLEL_COMPLETED a_INTERVIEW_STARTED a_INTERVIEW_COMPLETED a_INTERVIEW_TIMEOUT a_CHECKPOINT_SAVED G  h278 n0 O_279 ) hZ (hw _ (wd 45 rfl)) (hw _ (wd 3 rfl)) (by decide) (by decide)) q285a q285c (g := (mkF m 153 #[iv q1, rv b152, iv 0, iv 0] [(.ref a_PIPELINE_STARTED)])) rfl (by rw [hml]; rfl) (Steps.refl _) (argsL := []) (rest := []) (lenOf pd_0 rfl) rfl (by show 2 * 0 + _ ≤ _; exact Nat.le_of_eq rfl) (hb hby at_153) (fun _ _ => ⟨rfl, e278, (by decide : 1 + 0 ≤ _), (by decide : 18 + 0 ≤ _)⟩)
    dsimp only [Pt.U, Pt.locs, Pt.cells, Pt.slots] at X285 l285 y285 z285 st285 hQ285
    subst l285 y285 z285
    obtain ⟨rfl, N285q, e285⟩ := hQ285
    have N285 := Fr.app N278 N285q
    have k_286 : Go p.tables e below (s₁.setTop (entryFrame m #[(.int q1)] maxLocals)) (T285.setTop (mkF m 165 #[iv q1, rv b152, iv 0, iv 0] [(.int 1)])) := fun t q => by
      refine k_284 t ?_
      refine st285.trans ?_
      show Steps _ _ _ (T285.setTop (mkF m 156 #[iv q1, rv b152, iv 0, iv 0] [(.int 0)])) _
      refine XS.iloadN X285.here hx rfl (hb hby at_156) rfl ?_
      show Steps _ _ _ (T285.setTop (mkF m 157 #[iv q1, rv b152, iv 0, iv 0] [(.int 0), (.int 0)])) _
      refine XS.icmpNo X285.here hx rfl (hb hby at_157) rfl (by decide) ?_
      show Steps _ _ _ (T285.setTop (mkF m 160 #[iv q1, rv b152, iv 0, iv 0] [])) _
      refine XS.iconst X285.here hx rfl (hb hby at_160) ?_
      show Steps _ _ _ (T285.setTop (mkF m 161 #[iv q1, rv b152, iv 0, iv 0] [(.int 1)])) _
      refine XS.goto X285.here hx rfl (pc0 := 161) (pc' := 165) rfl (hb hby at_161) (by decide) (by decide) ?_
      show Steps _ _ _ (T285.setTop (mkF m 165 #[iv q1, rv b152, iv 0, iv 0] [(.int 1)])) _
      exact q
    obtain ⟨fs, hr, hrun, hended, hW, hsame⟩ := X285.leave (v := some (.int 1)) (fun h => by rw [Bd.returns] at h; cases h)
    refine ⟨_, _, k_286 _ ?_, hrun, hended, _, _, rfl, ?_, ⟨_, rfl⟩, hW, hsame.mono (by decide) (by decide)⟩
    · exact retN X285 hx (t := .boolean) Bd.returns (by simp) (hb hby at_165) hr
    · show Q0 n0 _ T285.heap _
      rw [e285]
      exact ⟨rfl, N285⟩
  · skip
    have k_287 : Go p.tables e below (s₁.setTop (entryFrame m #[(.int q1)] maxLocals)) (T278.setTop (mkF m 152 #[iv q1, rv b152, iv 1, iv 0] [(.int 1), (.ref b152)])) := fun t q => by
      refine k_281 t ?_
      refine XS.astoreN X278.here hx rfl (hb hby at_125) rfl rfl (l' := #[iv q1, rv b152, .unset, .unset]) rfl ?_
      show Steps _ _ _ (T278.setTop (mkF m 126 #[iv q1, rv b152, .unset, .unset] [])) _
      refine XS.iloadN X278.here hx rfl (hb hby at_126) rfl ?_
      show Steps _ _ _ (T278.setTop (mkF m 127 #[iv q1, rv b152, .unset, .unset] [(.int q1)])) _
      refine X278.ldcInt hx hown (mvT hZ (hw _ (wd 40 rfl))) (g := (mkF m 127 #[iv q1, rv b152, .unset, .unset] [(.int q1)])) rfl (hb hby at_127) _ ?_
      show Steps _ _ _ (T278.setTop (mkF m 129 #[iv q1, rv b152, .unset, .unset] [(.int 2147483647), (.int q1)])) _
      refine XS.iand X278.here hx rfl (hb hby at_129) rfl ?_
      show Steps _ _ _ (T278.setTop (mkF m 130 #[iv q1, rv b152, .unset, .unset] [(.int (q1 &&& (2147483647 : Int32)))])) _
      refine XS.bipush X278.here hx rfl (hb hby at_130) ?_
      show Steps _ _ _ (T278.setTop (mkF m 132 #[iv q1, rv b152, .unset, .unset] [(.int 18), (.int (q1 &&& (2147483647 : Int32)))])) _
      refine iremM (g := (mkF m 132 #[iv q1, rv b152, .unset, .unset] [(.int 18), (.int (q1 &&& (2147483647 : Int32)))])) X278 hx rfl (hb hby at_132) rfl (by decide) ?_
      show Steps _ _ _ (T278.setTop (mkF m 133 #[iv q1, rv b152, .unset, .unset] [(.int ((q1 &&& (2147483647 : Int32)) % (18 : Int32)))])) _
      rw [hi]
      show Steps _ _ _ (T278.setTop (mkF m 133 #[iv q1, rv b152, .unset, .unset] [(.int 1)])) _
      refine XS.istoreN X278.here hx rfl (hb hby at_133) rfl (l' := #[iv q1, rv b152, iv 1, .unset]) rfl ?_
      show Steps _ _ _ (T278.setTop (mkF m 134 #[iv q1, rv b152, iv 1, .unset] [])) _
      refine XS.iloadN X278.here hx rfl (hb hby at_134) rfl ?_
      show Steps _ _ _ (T278.setTop (mkF m 135 #[iv q1, rv b152, iv 1, .unset] [(.int 1)])) _
      refine XS.iconst X278.here hx rfl (hb hby at_135) ?_
      show Steps _ _ _ (T278.setTop (mkF m 136 #[iv q1, rv b152, iv 1, .unset] [(.int 2), (.int 1)])) _
      refine XS.icmpYes X278.here hx rfl (pc0 := 136) (pc' := 148) rfl (hb hby at_136) rfl (by decide) (by decide) (by decide) ?_
      show Steps _ _ _ (T278.setTop (mkF m 148 #[iv q1, rv b152, iv 1, .unset] [])) _
      refine XS.iconst X278.here hx rfl (hb hby at_148) ?_
      show Steps _ _ _ (T278.setTop (mkF m 149 #[iv q1, rv b152, iv 1, .unset] [(.int 0)])) _
      refine XS.istoreN X278.here hx rfl (hb hby at_149) rfl (l' := #[iv q1, rv b152, iv 1, iv 0]) rfl ?_
      show Steps _ _ _ (T278.setTop (mkF m 150 #[iv q1, rv b152, iv 1, iv 0] [])) _
      refine XS.aloadN X278.here hx rfl (hb hby at_150) rfl rfl ?_
      show Steps _ _ _ (T278.setTop (mkF m 151 #[iv q1, rv b152, iv 1, iv 0] [(.ref b152)])) _
      refine XS.iloadN X278.here hx rfl (hb hby at_151) rfl ?_
      show Steps _ _ _ (T278.setTop (mkF m 152 #[iv q1, rv b152, iv 1, iv 0] [(.int 1), (.ref b152)])) _
      exact q
    obtain ⟨cl288, Ar288, q288, S288, M288, H288, G288⟩ := B278
    have hin288 : ¬ ((1 : Int32) < 0 ∨ cl288.slots.size ≤ ((1 : Int32)).toNatClampNeg) := inb_of S288 ⟨by decide, by decide⟩
    have hat288 : cl288.slots[((1 : Int32)).toNatClampNeg]? = some (.ref a_PIPELINE_RESUMED) := Has.at H288 hin288 rfl
    have k_289 : Go p.tables e below (s₁.setTop (entryFrame m #[(.int q1)] maxLocals)) (T278.setTop (mkF m 153 #[iv q1, rv b152, iv 1, iv 0] [(.ref a_PIPELINE_RESUMED)])) := fun t q => by
      refine k_287 t ?_
      refine X278.aaload hx (j := (1 : Int32)) (v := (.ref a_PIPELINE_RESUMED)) (by rw [e278]; exact Ar288.1) (State.isArrayOf_alike hZ.alike Ar288.2.1) rfl Ar288.2.2 hin288 hat288 (g := (mkF m 152 #[iv q1, rv b152, iv 1, iv 0] [(.int 1), (.ref b152)])) rfl rfl (hb hby at_152) _ ?_
      show Steps _ _ _ (T278.setTop (mkF m 153 #[iv q1, rv b152, iv 1, iv 0] [(.ref a_PIPELINE_RESUMED)])) _
      exact q
    obtain ⟨cq290, kq290, q290a, q290b, q290c⟩ := isOf hZ e278 (Exa.ext O_279.2 E_PIPELINE_RESUMED)
    obtain ⟨_, _, ⟨T290, L290, k290, n290⟩, -, X290, ⟨Lc290, hQ290, l290, y290, z290⟩, st290⟩ := X278.virtualBack hx (y := y_0) (z := y_0) hown (mvT hZ (hw _ (wd 41 rfl))) (mvT hZ (hw _ (wd 42 rfl))) (notFace_of_selects (args := #[]) (mvT hZ (hw _ (wd 44 rfl)))) (mvT hZ (hw _ (wd 44 rfl))) (mvT hZ (hw _ (wd 43 rfl))) (by decide) (backOf (W := 0) (ew_1 l Z a0 hw [] a_PIPELINE_STARTED a_PIPELINE_RESUMED a_PIPELINE_COMPLETED a_PIPELINE_FAILED a_PIPELINE_STOPPED a_PIPELINE_CANCELLED a_STAGE_STARTED a_STAGE_COMPLETED a_STAGE_FAILED a_STAGE_RETRYING a_PARALLEL_STARTED a_PARALLEL_BRANCH_STARTED a_PARALLEL_BRANCH_COMPLETED a_PARALLEL_COMPLETED a_INTERVIEW_STARTED a_INTERVIEW_COMPLETED a_INTERVIEW_TIMEOUT a_CHECKPOINT_SAVED G  h278 n0 O_279 ) hZ (hw _ (wd 45 rfl)) (hw _ (wd 3 rfl)) (by decide) (by decide)) q290a q290c (g := (mkF m 153 #[iv q1, rv b152, iv 1, iv 0] [(.ref a_PIPELINE_RESUMED)])) rfl (by rw [hml]; rfl) (Steps.refl _) (argsL := []) (rest := []) (lenOf pd_0 rfl) rfl (by show 2 * 0 + _ ≤ _; exact Nat.le_of_eq rfl) (hb hby at_153) (fun _ _ => ⟨rfl, e278, (by decide : 1 + 0 ≤ _), (by decide : 18 + 0 ≤ _)⟩)
    dsimp only [Pt.U, Pt.locs, Pt.cells, Pt.slots] at X290 l290 y290 z290 st290 hQ290
    subst l290 y290 z290
    obtain ⟨rfl, N290q, e290⟩ := hQ290
    have N290 := Fr.app N278 N290q
    have k_291 : Go p.tables e below (s₁.setTop (entryFrame m #[(.int q1)] maxLocals)) (T290.setTop (mkF m 165 #[iv q1, rv b152, iv 1, iv 0] [(.int 1)])) := fun t q => by
      refine k_289 t ?_
      refine st290.trans ?_
      show Steps _ _ _ (T290.setTop (mkF m 156 #[iv q1, rv b152, iv 1, iv 0] [(.int 0)])) _
      refine XS.iloadN X290.here hx rfl (hb hby at_156) rfl ?_
      show Steps _ _ _ (T290.setTop (mkF m 157 #[iv q1, rv b152, iv 1, iv 0] [(.int 0), (.int 0)])) _
      refine XS.icmpNo X290.here hx rfl (hb hby at_157) rfl (by decide) ?_
      show Steps _ _ _ (T290.setTop (mkF m 160 #[iv q1, rv b152, iv 1, iv 0] [])) _
      refine XS.iconst X290.here hx rfl (hb hby at_160) ?_
      show Steps _ _ _ (T290.setTop (mkF m 161 #[iv q1, rv b152, iv 1, iv 0] [(.int 1)])) _
      refine XS.goto X290.here hx rfl (pc0 := 161) (pc' := 165) rfl (hb hby at_161) (by decide) (by decide) ?_
      show Steps _ _ _ (T290.setTop (mkF m 165 #[iv q1, rv b152, iv 1, iv 0] [(.int 1)])) _
      exact q
    obtain ⟨fs, hr, hrun, hended, hW, hsame⟩ := X290.leave (v := some (.int 1)) (fun h => by rw [Bd.returns] at h; cases h)
    refine ⟨_, _, k_291 _ ?_, hrun, hended, _, _, rfl, ?_, ⟨_, rfl⟩, hW, hsame.mono (by decide) (by decide)⟩
    · exact retN X290 hx (t := .boolean) Bd.returns (by simp) (hb hby at_165) hr
    · show Q0 n0 _ T290.heap _
      rw [e290]
      exact ⟨rfl, N290⟩
  · skip
    have k_292 : Go p.tables e below (s₁.setTop (entryFrame m #[(.int q1)] maxLocals)) (T278.setTop (mkF m 152 #[iv q1, rv b152, iv 2, iv 1] [(.int 2), (.ref b152)])) := fun t q => by
      refine k_281 t ?_
      refine XS.astoreN X278.here hx rfl (hb hby at_125) rfl rfl (l' := #[iv q1, rv b152, .unset, .unset]) rfl ?_
      show Steps _ _ _ (T278.setTop (mkF m 126 #[iv q1, rv b152, .unset, .unset] [])) _
      refine XS.iloadN X278.here hx rfl (hb hby at_126) rfl ?_
      show Steps _ _ _ (T278.setTop (mkF m 127 #[iv q1, rv b152, .unset, .unset] [(.int q1)])) _
      refine X278.ldcInt hx hown (mvT hZ (hw _ (wd 40 rfl))) (g := (mkF m 127 #[iv q1, rv b152, .unset, .unset] [(.int q1)])) rfl (hb hby at_127) _ ?_
      show Steps _ _ _ (T278.setTop (mkF m 129 #[iv q1, rv b152, .unset, .unset] [(.int 2147483647), (.int q1)])) _
      refine XS.iand X278.here hx rfl (hb hby at_129) rfl ?_
      show Steps _ _ _ (T278.setTop (mkF m 130 #[iv q1, rv b152, .unset, .unset] [(.int (q1 &&& (2147483647 : Int32)))])) _
      refine XS.bipush X278.here hx rfl (hb hby at_130) ?_
      show Steps _ _ _ (T278.setTop (mkF m 132 #[iv q1, rv b152, .unset, .unset] [(.int 18), (.int (q1 &&& (2147483647 : Int32)))])) _
      refine iremM (g := (mkF m 132 #[iv q1, rv b152, .unset, .unset] [(.int 18), (.int (q1 &&& (2147483647 : Int32)))])) X278 hx rfl (hb hby at_132) rfl (by decide) ?_
      show Steps _ _ _ (T278.setTop (mkF m 133 #[iv q1, rv b152, .unset, .unset] [(.int ((q1 &&& (2147483647 : Int32)) % (18 : Int32)))])) _
      rw [hi]
      show Steps _ _ _ (T278.setTop (mkF m 133 #[iv q1, rv b152, .unset, .unset] [(.int 2)])) _
      refine XS.istoreN X278.here hx rfl (hb hby at_133) rfl (l' := #[iv q1, rv b152, iv 2, .unset]) rfl ?_
      show Steps _ _ _ (T278.setTop (mkF m 134 #[iv q1, rv b152, iv 2, .unset] [])) _
      refine XS.iloadN X278.here hx rfl (hb hby at_134) rfl ?_
      show Steps _ _ _ (T278.setTop (mkF m 135 #[iv q1, rv b152, iv 2, .unset] [(.int 2)])) _
      refine XS.iconst X278.here hx rfl (hb hby at_135) ?_
      show Steps _ _ _ (T278.setTop (mkF m 136 #[iv q1, rv b152, iv 2, .unset] [(.int 2), (.int 2)])) _
      refine XS.icmpNo X278.here hx rfl (hb hby at_136) rfl (by decide) ?_
      show Steps _ _ _ (T278.setTop (mkF m 139 #[iv q1, rv b152, iv 2, .unset] [])) _
      refine XS.iloadN X278.here hx rfl (hb hby at_139) rfl ?_
      show Steps _ _ _ (T278.setTop (mkF m 140 #[iv q1, rv b152, iv 2, .unset] [(.int 2)])) _
      refine XS.iconst X278.here hx rfl (hb hby at_140) ?_
      show Steps _ _ _ (T278.setTop (mkF m 141 #[iv q1, rv b152, iv 2, .unset] [(.int 5), (.int 2)])) _
      refine XS.icmpNo X278.here hx rfl (hb hby at_141) rfl (by decide) ?_
      show Steps _ _ _ (T278.setTop (mkF m 144 #[iv q1, rv b152, iv 2, .unset] [])) _
      refine XS.iconst X278.here hx rfl (hb hby at_144) ?_
      show Steps _ _ _ (T278.setTop (mkF m 145 #[iv q1, rv b152, iv 2, .unset] [(.int 1)])) _
      refine XS.goto X278.here hx rfl (pc0 := 145) (pc' := 149) rfl (hb hby at_145) (by decide) (by decide) ?_
      show Steps _ _ _ (T278.setTop (mkF m 149 #[iv q1, rv b152, iv 2, .unset] [(.int 1)])) _
      refine XS.istoreN X278.here hx rfl (hb hby at_149) rfl (l' := #[iv q1, rv b152, iv 2, iv 1]) rfl ?_
      show Steps _ _ _ (T278.setTop (mkF m 150 #[iv q1, rv b152, iv 2, iv 1] [])) _
      refine XS.aloadN X278.here hx rfl (hb hby at_150) rfl rfl ?_
      show Steps _ _ _ (T278.setTop (mkF m 151 #[iv q1, rv b152, iv 2, iv 1] [(.ref b152)])) _
      refine XS.iloadN X278.here hx rfl (hb hby at_151) rfl ?_
      show Steps _ _ _ (T278.setTop (mkF m 152 #[iv q1, rv b152, iv 2, iv 1] [(.int 2), (.ref b152)])) _
      exact q
    obtain ⟨cl293, Ar293, q293, S293, M293, H293, G293⟩ := B278
    have hin293 : ¬ ((2 : Int32) < 0 ∨ cl293.slots.size ≤ ((2 : Int32)).toNatClampNeg) := inb_of S293 ⟨by decide, by decide⟩
    have hat293 : cl293.slots[((2 : Int32)).toNatClampNeg]? = some (.ref a_PIPELINE_COMPLETED) := Has.at H293 hin293 rfl
    have k_294 : Go p.tables e below (s₁.setTop (entryFrame m #[(.int q1)] maxLocals)) (T278.setTop (mkF m 153 #[iv q1, rv b152, iv 2, iv 1] [(.ref a_PIPELINE_COMPLETED)])) := fun t q => by
      refine k_292 t ?_
      refine X278.aaload hx (j := (2 : Int32)) (v := (.ref a_PIPELINE_COMPLETED)) (by rw [e278]; exact Ar293.1) (State.isArrayOf_alike hZ.alike Ar293.2.1) rfl Ar293.2.2 hin293 hat293 (g := (mkF m 152 #[iv q1, rv b152, iv 2, iv 1] [(.int 2), (.ref b152)])) rfl rfl (hb hby at_152) _ ?_
      show Steps _ _ _ (T278.setTop (mkF m 153 #[iv q1, rv b152, iv 2, iv 1] [(.ref a_PIPELINE_COMPLETED)])) _
      exact q
    obtain ⟨cq295, kq295, q295a, q295b, q295c⟩ := isOf hZ e278 (Exa.ext O_279.2 E_PIPELINE_COMPLETED)
    obtain ⟨_, _, ⟨T295, L295, k295, n295⟩, -, X295, ⟨Lc295, hQ295, l295, y295, z295⟩, st295⟩ := X278.virtualBack hx (y := y_0) (z := y_0) hown (mvT hZ (hw _ (wd 41 rfl))) (mvT hZ (hw _ (wd 42 rfl))) (notFace_of_selects (args := #[]) (mvT hZ (hw _ (wd 44 rfl)))) (mvT hZ (hw _ (wd 44 rfl))) (mvT hZ (hw _ (wd 43 rfl))) (by decide) (backOf (W := 0) (ew_2 l Z a0 hw [] a_PIPELINE_STARTED a_PIPELINE_RESUMED a_PIPELINE_COMPLETED a_PIPELINE_FAILED a_PIPELINE_STOPPED a_PIPELINE_CANCELLED a_STAGE_STARTED a_STAGE_COMPLETED a_STAGE_FAILED a_STAGE_RETRYING a_PARALLEL_STARTED a_PARALLEL_BRANCH_STARTED a_PARALLEL_BRANCH_COMPLETED a_PARALLEL_COMPLETED a_INTERVIEW_STARTED a_INTERVIEW_COMPLETED a_INTERVIEW_TIMEOUT a_CHECKPOINT_SAVED G  h278 n0 O_279 ) hZ (hw _ (wd 45 rfl)) (hw _ (wd 3 rfl)) (by decide) (by decide)) q295a q295c (g := (mkF m 153 #[iv q1, rv b152, iv 2, iv 1] [(.ref a_PIPELINE_COMPLETED)])) rfl (by rw [hml]; rfl) (Steps.refl _) (argsL := []) (rest := []) (lenOf pd_0 rfl) rfl (by show 2 * 0 + _ ≤ _; exact Nat.le_of_eq rfl) (hb hby at_153) (fun _ _ => ⟨rfl, e278, (by decide : 1 + 0 ≤ _), (by decide : 18 + 0 ≤ _)⟩)
    dsimp only [Pt.U, Pt.locs, Pt.cells, Pt.slots] at X295 l295 y295 z295 st295 hQ295
    subst l295 y295 z295
    obtain ⟨rfl, N295q, e295⟩ := hQ295
    have N295 := Fr.app N278 N295q
    have k_296 : Go p.tables e below (s₁.setTop (entryFrame m #[(.int q1)] maxLocals)) (T295.setTop (mkF m 165 #[iv q1, rv b152, iv 2, iv 1] [(.int 1)])) := fun t q => by
      refine k_294 t ?_
      refine st295.trans ?_
      show Steps _ _ _ (T295.setTop (mkF m 156 #[iv q1, rv b152, iv 2, iv 1] [(.int 1)])) _
      refine XS.iloadN X295.here hx rfl (hb hby at_156) rfl ?_
      show Steps _ _ _ (T295.setTop (mkF m 157 #[iv q1, rv b152, iv 2, iv 1] [(.int 1), (.int 1)])) _
      refine XS.icmpNo X295.here hx rfl (hb hby at_157) rfl (by decide) ?_
      show Steps _ _ _ (T295.setTop (mkF m 160 #[iv q1, rv b152, iv 2, iv 1] [])) _
      refine XS.iconst X295.here hx rfl (hb hby at_160) ?_
      show Steps _ _ _ (T295.setTop (mkF m 161 #[iv q1, rv b152, iv 2, iv 1] [(.int 1)])) _
      refine XS.goto X295.here hx rfl (pc0 := 161) (pc' := 165) rfl (hb hby at_161) (by decide) (by decide) ?_
      show Steps _ _ _ (T295.setTop (mkF m 165 #[iv q1, rv b152, iv 2, iv 1] [(.int 1)])) _
      exact q
    obtain ⟨fs, hr, hrun, hended, hW, hsame⟩ := X295.leave (v := some (.int 1)) (fun h => by rw [Bd.returns] at h; cases h)
    refine ⟨_, _, k_296 _ ?_, hrun, hended, _, _, rfl, ?_, ⟨_, rfl⟩, hW, hsame.mono (by decide) (by decide)⟩
    · exact retN X295 hx (t := .boolean) Bd.returns (by simp) (hb hby at_165) hr
    · show Q0 n0 _ T295.heap _
      rw [e295]
      exact ⟨rfl, N295⟩
  · skip
    have k_297 : Go p.tables e below (s₁.setTop (entryFrame m #[(.int q1)] maxLocals)) (T278.setTop (mkF m 152 #[iv q1, rv b152, iv 3, iv 1] [(.int 3), (.ref b152)])) := fun t q => by
      refine k_281 t ?_
      refine XS.astoreN X278.here hx rfl (hb hby at_125) rfl rfl (l' := #[iv q1, rv b152, .unset, .unset]) rfl ?_
      show Steps _ _ _ (T278.setTop (mkF m 126 #[iv q1, rv b152, .unset, .unset] [])) _
      refine XS.iloadN X278.here hx rfl (hb hby at_126) rfl ?_
      show Steps _ _ _ (T278.setTop (mkF m 127 #[iv q1, rv b152, .unset, .unset] [(.int q1)])) _
      refine X278.ldcInt hx hown (mvT hZ (hw _ (wd 40 rfl))) (g := (mkF m 127 #[iv q1, rv b152, .unset, .unset] [(.int q1)])) rfl (hb hby at_127) _ ?_
      show Steps _ _ _ (T278.setTop (mkF m 129 #[iv q1, rv b152, .unset, .unset] [(.int 2147483647), (.int q1)])) _
      refine XS.iand X278.here hx rfl (hb hby at_129) rfl ?_
      show Steps _ _ _ (T278.setTop (mkF m 130 #[iv q1, rv b152, .unset, .unset] [(.int (q1 &&& (2147483647 : Int32)))])) _
      refine XS.bipush X278.here hx rfl (hb hby at_130) ?_
      show Steps _ _ _ (T278.setTop (mkF m 132 #[iv q1, rv b152, .unset, .unset] [(.int 18), (.int (q1 &&& (2147483647 : Int32)))])) _
      refine iremM (g := (mkF m 132 #[iv q1, rv b152, .unset, .unset] [(.int 18), (.int (q1 &&& (2147483647 : Int32)))])) X278 hx rfl (hb hby at_132) rfl (by decide) ?_
      show Steps _ _ _ (T278.setTop (mkF m 133 #[iv q1, rv b152, .unset, .unset] [(.int ((q1 &&& (2147483647 : Int32)) % (18 : Int32)))])) _
      rw [hi]
      show Steps _ _ _ (T278.setTop (mkF m 133 #[iv q1, rv b152, .unset, .unset] [(.int 3)])) _
      refine XS.istoreN X278.here hx rfl (hb hby at_133) rfl (l' := #[iv q1, rv b152, iv 3, .unset]) rfl ?_
      show Steps _ _ _ (T278.setTop (mkF m 134 #[iv q1, rv b152, iv 3, .unset] [])) _
      refine XS.iloadN X278.here hx rfl (hb hby at_134) rfl ?_
      show Steps _ _ _ (T278.setTop (mkF m 135 #[iv q1, rv b152, iv 3, .unset] [(.int 3)])) _
      refine XS.iconst X278.here hx rfl (hb hby at_135) ?_
      show Steps _ _ _ (T278.setTop (mkF m 136 #[iv q1, rv b152, iv 3, .unset] [(.int 2), (.int 3)])) _
      refine XS.icmpNo X278.here hx rfl (hb hby at_136) rfl (by decide) ?_
      show Steps _ _ _ (T278.setTop (mkF m 139 #[iv q1, rv b152, iv 3, .unset] [])) _
      refine XS.iloadN X278.here hx rfl (hb hby at_139) rfl ?_
      show Steps _ _ _ (T278.setTop (mkF m 140 #[iv q1, rv b152, iv 3, .unset] [(.int 3)])) _
      refine XS.iconst X278.here hx rfl (hb hby at_140) ?_
      show Steps _ _ _ (T278.setTop (mkF m 141 #[iv q1, rv b152, iv 3, .unset] [(.int 5), (.int 3)])) _
      refine XS.icmpNo X278.here hx rfl (hb hby at_141) rfl (by decide) ?_
      show Steps _ _ _ (T278.setTop (mkF m 144 #[iv q1, rv b152, iv 3, .unset] [])) _
      refine XS.iconst X278.here hx rfl (hb hby at_144) ?_
      show Steps _ _ _ (T278.setTop (mkF m 145 #[iv q1, rv b152, iv 3, .unset] [(.int 1)])) _
      refine XS.goto X278.here hx rfl (pc0 := 145) (pc' := 149) rfl (hb hby at_145) (by decide) (by decide) ?_
      show Steps _ _ _ (T278.setTop (mkF m 149 #[iv q1, rv b152, iv 3, .unset] [(.int 1)])) _
      refine XS.istoreN X278.here hx rfl (hb hby at_149) rfl (l' := #[iv q1, rv b152, iv 3, iv 1]) rfl ?_
      show Steps _ _ _ (T278.setTop (mkF m 150 #[iv q1, rv b152, iv 3, iv 1] [])) _
      refine XS.aloadN X278.here hx rfl (hb hby at_150) rfl rfl ?_
      show Steps _ _ _ (T278.setTop (mkF m 151 #[iv q1, rv b152, iv 3, iv 1] [(.ref b152)])) _
      refine XS.iloadN X278.here hx rfl (hb hby at_151) rfl ?_
      show Steps _ _ _ (T278.setTop (mkF m 152 #[iv q1, rv b152, iv 3, iv 1] [(.int 3), (.ref b152)])) _
      exact q
    obtain ⟨cl298, Ar298, q298, S298, M298, H298, G298⟩ := B278
    have hin298 : ¬ ((3 : Int32) < 0 ∨ cl298.slots.size ≤ ((3 : Int32)).toNatClampNeg) := inb_of S298 ⟨by decide, by decide⟩
    have hat298 : cl298.slots[((3 : Int32)).toNatClampNeg]? = some (.ref a_PIPELINE_FAILED) := Has.at H298 hin298 rfl
    have k_299 : Go p.tables e below (s₁.setTop (entryFrame m #[(.int q1)] maxLocals)) (T278.setTop (mkF m 153 #[iv q1, rv b152, iv 3, iv 1] [(.ref a_PIPELINE_FAILED)])) := fun t q => by
      refine k_297 t ?_
      refine X278.aaload hx (j := (3 : Int32)) (v := (.ref a_PIPELINE_FAILED)) (by rw [e278]; exact Ar298.1) (State.isArrayOf_alike hZ.alike Ar298.2.1) rfl Ar298.2.2 hin298 hat298 (g := (mkF m 152 #[iv q1, rv b152, iv 3, iv 1] [(.int 3), (.ref b152)])) rfl rfl (hb hby at_152) _ ?_
      show Steps _ _ _ (T278.setTop (mkF m 153 #[iv q1, rv b152, iv 3, iv 1] [(.ref a_PIPELINE_FAILED)])) _
      exact q
    obtain ⟨cq300, kq300, q300a, q300b, q300c⟩ := isOf hZ e278 (Exa.ext O_279.2 E_PIPELINE_FAILED)
    obtain ⟨_, _, ⟨T300, L300, k300, n300⟩, -, X300, ⟨Lc300, hQ300, l300, y300, z300⟩, st300⟩ := X278.virtualBack hx (y := y_0) (z := y_0) hown (mvT hZ (hw _ (wd 41 rfl))) (mvT hZ (hw _ (wd 42 rfl))) (notFace_of_selects (args := #[]) (mvT hZ (hw _ (wd 44 rfl)))) (mvT hZ (hw _ (wd 44 rfl))) (mvT hZ (hw _ (wd 43 rfl))) (by decide) (backOf (W := 0) (ew_3 l Z a0 hw [] a_PIPELINE_STARTED a_PIPELINE_RESUMED a_PIPELINE_COMPLETED a_PIPELINE_FAILED a_PIPELINE_STOPPED a_PIPELINE_CANCELLED a_STAGE_STARTED a_STAGE_COMPLETED a_STAGE_FAILED a_STAGE_RETRYING a_PARALLEL_STARTED a_PARALLEL_BRANCH_STARTED a_PARALLEL_BRANCH_COMPLETED a_PARALLEL_COMPLETED a_INTERVIEW_STARTED a_INTERVIEW_COMPLETED a_INTERVIEW_TIMEOUT a_CHECKPOINT_SAVED G  h278 n0 O_279 ) hZ (hw _ (wd 45 rfl)) (hw _ (wd 3 rfl)) (by decide) (by decide)) q300a q300c (g := (mkF m 153 #[iv q1, rv b152, iv 3, iv 1] [(.ref a_PIPELINE_FAILED)])) rfl (by rw [hml]; rfl) (Steps.refl _) (argsL := []) (rest := []) (lenOf pd_0 rfl) rfl (by show 2 * 0 + _ ≤ _; exact Nat.le_of_eq rfl) (hb hby at_153) (fun _ _ => ⟨rfl, e278, (by decide : 1 + 0 ≤ _), (by decide : 18 + 0 ≤ _)⟩)
    dsimp only [Pt.U, Pt.locs, Pt.cells, Pt.slots] at X300 l300 y300 z300 st300 hQ300
    subst l300 y300 z300
    obtain ⟨rfl, N300q, e300⟩ := hQ300
    have N300 := Fr.app N278 N300q
    have k_301 : Go p.tables e below (s₁.setTop (entryFrame m #[(.int q1)] maxLocals)) (T300.setTop (mkF m 165 #[iv q1, rv b152, iv 3, iv 1] [(.int 1)])) := fun t q => by
      refine k_299 t ?_
      refine st300.trans ?_
      show Steps _ _ _ (T300.setTop (mkF m 156 #[iv q1, rv b152, iv 3, iv 1] [(.int 1)])) _
      refine XS.iloadN X300.here hx rfl (hb hby at_156) rfl ?_
      show Steps _ _ _ (T300.setTop (mkF m 157 #[iv q1, rv b152, iv 3, iv 1] [(.int 1), (.int 1)])) _
      refine XS.icmpNo X300.here hx rfl (hb hby at_157) rfl (by decide) ?_
      show Steps _ _ _ (T300.setTop (mkF m 160 #[iv q1, rv b152, iv 3, iv 1] [])) _
      refine XS.iconst X300.here hx rfl (hb hby at_160) ?_
      show Steps _ _ _ (T300.setTop (mkF m 161 #[iv q1, rv b152, iv 3, iv 1] [(.int 1)])) _
      refine XS.goto X300.here hx rfl (pc0 := 161) (pc' := 165) rfl (hb hby at_161) (by decide) (by decide) ?_
      show Steps _ _ _ (T300.setTop (mkF m 165 #[iv q1, rv b152, iv 3, iv 1] [(.int 1)])) _
      exact q
    obtain ⟨fs, hr, hrun, hended, hW, hsame⟩ := X300.leave (v := some (.int 1)) (fun h => by rw [Bd.returns] at h; cases h)
    refine ⟨_, _, k_301 _ ?_, hrun, hended, _, _, rfl, ?_, ⟨_, rfl⟩, hW, hsame.mono (by decide) (by decide)⟩
    · exact retN X300 hx (t := .boolean) Bd.returns (by simp) (hb hby at_165) hr
    · show Q0 n0 _ T300.heap _
      rw [e300]
      exact ⟨rfl, N300⟩
  · skip
    have k_302 : Go p.tables e below (s₁.setTop (entryFrame m #[(.int q1)] maxLocals)) (T278.setTop (mkF m 152 #[iv q1, rv b152, iv 4, iv 1] [(.int 4), (.ref b152)])) := fun t q => by
      refine k_281 t ?_
      refine XS.astoreN X278.here hx rfl (hb hby at_125) rfl rfl (l' := #[iv q1, rv b152, .unset, .unset]) rfl ?_
      show Steps _ _ _ (T278.setTop (mkF m 126 #[iv q1, rv b152, .unset, .unset] [])) _
      refine XS.iloadN X278.here hx rfl (hb hby at_126) rfl ?_
      show Steps _ _ _ (T278.setTop (mkF m 127 #[iv q1, rv b152, .unset, .unset] [(.int q1)])) _
      refine X278.ldcInt hx hown (mvT hZ (hw _ (wd 40 rfl))) (g := (mkF m 127 #[iv q1, rv b152, .unset, .unset] [(.int q1)])) rfl (hb hby at_127) _ ?_
      show Steps _ _ _ (T278.setTop (mkF m 129 #[iv q1, rv b152, .unset, .unset] [(.int 2147483647), (.int q1)])) _
      refine XS.iand X278.here hx rfl (hb hby at_129) rfl ?_
      show Steps _ _ _ (T278.setTop (mkF m 130 #[iv q1, rv b152, .unset, .unset] [(.int (q1 &&& (2147483647 : Int32)))])) _
      refine XS.bipush X278.here hx rfl (hb hby at_130) ?_
      show Steps _ _ _ (T278.setTop (mkF m 132 #[iv q1, rv b152, .unset, .unset] [(.int 18), (.int (q1 &&& (2147483647 : Int32)))])) _
      refine iremM (g := (mkF m 132 #[iv q1, rv b152, .unset, .unset] [(.int 18), (.int (q1 &&& (2147483647 : Int32)))])) X278 hx rfl (hb hby at_132) rfl (by decide) ?_
      show Steps _ _ _ (T278.setTop (mkF m 133 #[iv q1, rv b152, .unset, .unset] [(.int ((q1 &&& (2147483647 : Int32)) % (18 : Int32)))])) _
      rw [hi]
      show Steps _ _ _ (T278.setTop (mkF m 133 #[iv q1, rv b152, .unset, .unset] [(.int 4)])) _
      refine XS.istoreN X278.here hx rfl (hb hby at_133) rfl (l' := #[iv q1, rv b152, iv 4, .unset]) rfl ?_
      show Steps _ _ _ (T278.setTop (mkF m 134 #[iv q1, rv b152, iv 4, .unset] [])) _
      refine XS.iloadN X278.here hx rfl (hb hby at_134) rfl ?_
      show Steps _ _ _ (T278.setTop (mkF m 135 #[iv q1, rv b152, iv 4, .unset] [(.int 4)])) _
      refine XS.iconst X278.here hx rfl (hb hby at_135) ?_
      show Steps _ _ _ (T278.setTop (mkF m 136 #[iv q1, rv b152, iv 4, .unset] [(.int 2), (.int 4)])) _
      refine XS.icmpNo X278.here hx rfl (hb hby at_136) rfl (by decide) ?_
      show Steps _ _ _ (T278.setTop (mkF m 139 #[iv q1, rv b152, iv 4, .unset] [])) _
      refine XS.iloadN X278.here hx rfl (hb hby at_139) rfl ?_
      show Steps _ _ _ (T278.setTop (mkF m 140 #[iv q1, rv b152, iv 4, .unset] [(.int 4)])) _
      refine XS.iconst X278.here hx rfl (hb hby at_140) ?_
      show Steps _ _ _ (T278.setTop (mkF m 141 #[iv q1, rv b152, iv 4, .unset] [(.int 5), (.int 4)])) _
      refine XS.icmpNo X278.here hx rfl (hb hby at_141) rfl (by decide) ?_
      show Steps _ _ _ (T278.setTop (mkF m 144 #[iv q1, rv b152, iv 4, .unset] [])) _
      refine XS.iconst X278.here hx rfl (hb hby at_144) ?_
      show Steps _ _ _ (T278.setTop (mkF m 145 #[iv q1, rv b152, iv 4, .unset] [(.int 1)])) _
      refine XS.goto X278.here hx rfl (pc0 := 145) (pc' := 149) rfl (hb hby at_145) (by decide) (by decide) ?_
      show Steps _ _ _ (T278.setTop (mkF m 149 #[iv q1, rv b152, iv 4, .unset] [(.int 1)])) _
      refine XS.istoreN X278.here hx rfl (hb hby at_149) rfl (l' := #[iv q1, rv b152, iv 4, iv 1]) rfl ?_
      show Steps _ _ _ (T278.setTop (mkF m 150 #[iv q1, rv b152, iv 4, iv 1] [])) _
      refine XS.aloadN X278.here hx rfl (hb hby at_150) rfl rfl ?_
      show Steps _ _ _ (T278.setTop (mkF m 151 #[iv q1, rv b152, iv 4, iv 1] [(.ref b152)])) _
      refine XS.iloadN X278.here hx rfl (hb hby at_151) rfl ?_
      show Steps _ _ _ (T278.setTop (mkF m 152 #[iv q1, rv b152, iv 4, iv 1] [(.int 4), (.ref b152)])) _
      exact q
    obtain ⟨cl303, Ar303, q303, S303, M303, H303, G303⟩ := B278
    have hin303 : ¬ ((4 : Int32) < 0 ∨ cl303.slots.size ≤ ((4 : Int32)).toNatClampNeg) := inb_of S303 ⟨by decide, by decide⟩
    have hat303 : cl303.slots[((4 : Int32)).toNatClampNeg]? = some (.ref a_PIPELINE_STOPPED) := Has.at H303 hin303 rfl
    have k_304 : Go p.tables e below (s₁.setTop (entryFrame m #[(.int q1)] maxLocals)) (T278.setTop (mkF m 153 #[iv q1, rv b152, iv 4, iv 1] [(.ref a_PIPELINE_STOPPED)])) := fun t q => by
      refine k_302 t ?_
      refine X278.aaload hx (j := (4 : Int32)) (v := (.ref a_PIPELINE_STOPPED)) (by rw [e278]; exact Ar303.1) (State.isArrayOf_alike hZ.alike Ar303.2.1) rfl Ar303.2.2 hin303 hat303 (g := (mkF m 152 #[iv q1, rv b152, iv 4, iv 1] [(.int 4), (.ref b152)])) rfl rfl (hb hby at_152) _ ?_
      show Steps _ _ _ (T278.setTop (mkF m 153 #[iv q1, rv b152, iv 4, iv 1] [(.ref a_PIPELINE_STOPPED)])) _
      exact q
    obtain ⟨cq305, kq305, q305a, q305b, q305c⟩ := isOf hZ e278 (Exa.ext O_279.2 E_PIPELINE_STOPPED)
    obtain ⟨_, _, ⟨T305, L305, k305, n305⟩, -, X305, ⟨Lc305, hQ305, l305, y305, z305⟩, st305⟩ := X278.virtualBack hx (y := y_0) (z := y_0) hown (mvT hZ (hw _ (wd 41 rfl))) (mvT hZ (hw _ (wd 42 rfl))) (notFace_of_selects (args := #[]) (mvT hZ (hw _ (wd 44 rfl)))) (mvT hZ (hw _ (wd 44 rfl))) (mvT hZ (hw _ (wd 43 rfl))) (by decide) (backOf (W := 0) (ew_4 l Z a0 hw [] a_PIPELINE_STARTED a_PIPELINE_RESUMED a_PIPELINE_COMPLETED a_PIPELINE_FAILED a_PIPELINE_STOPPED a_PIPELINE_CANCELLED a_STAGE_STARTED a_STAGE_COMPLETED a_STAGE_FAILED a_STAGE_RETRYING a_PARALLEL_STARTED a_PARALLEL_BRANCH_STARTED a_PARALLEL_BRANCH_COMPLETED a_PARALLEL_COMPLETED a_INTERVIEW_STARTED a_INTERVIEW_COMPLETED a_INTERVIEW_TIMEOUT a_CHECKPOINT_SAVED G  h278 n0 O_279 ) hZ (hw _ (wd 45 rfl)) (hw _ (wd 3 rfl)) (by decide) (by decide)) q305a q305c (g := (mkF m 153 #[iv q1, rv b152, iv 4, iv 1] [(.ref a_PIPELINE_STOPPED)])) rfl (by rw [hml]; rfl) (Steps.refl _) (argsL := []) (rest := []) (lenOf pd_0 rfl) rfl (by show 2 * 0 + _ ≤ _; exact Nat.le_of_eq rfl) (hb hby at_153) (fun _ _ => ⟨rfl, e278, (by decide : 1 + 0 ≤ _), (by decide : 18 + 0 ≤ _)⟩)
    dsimp only [Pt.U, Pt.locs, Pt.cells, Pt.slots] at X305 l305 y305 z305 st305 hQ305
    subst l305 y305 z305
    obtain ⟨rfl, N305q, e305⟩ := hQ305
    have N305 := Fr.app N278 N305q
    have k_306 : Go p.tables e below (s₁.setTop (entryFrame m #[(.int q1)] maxLocals)) (T305.setTop (mkF m 165 #[iv q1, rv b152, iv 4, iv 1] [(.int 1)])) := fun t q => by
      refine k_304 t ?_
      refine st305.trans ?_
      show Steps _ _ _ (T305.setTop (mkF m 156 #[iv q1, rv b152, iv 4, iv 1] [(.int 1)])) _
      refine XS.iloadN X305.here hx rfl (hb hby at_156) rfl ?_
      show Steps _ _ _ (T305.setTop (mkF m 157 #[iv q1, rv b152, iv 4, iv 1] [(.int 1), (.int 1)])) _
      refine XS.icmpNo X305.here hx rfl (hb hby at_157) rfl (by decide) ?_
      show Steps _ _ _ (T305.setTop (mkF m 160 #[iv q1, rv b152, iv 4, iv 1] [])) _
      refine XS.iconst X305.here hx rfl (hb hby at_160) ?_
      show Steps _ _ _ (T305.setTop (mkF m 161 #[iv q1, rv b152, iv 4, iv 1] [(.int 1)])) _
      refine XS.goto X305.here hx rfl (pc0 := 161) (pc' := 165) rfl (hb hby at_161) (by decide) (by decide) ?_
      show Steps _ _ _ (T305.setTop (mkF m 165 #[iv q1, rv b152, iv 4, iv 1] [(.int 1)])) _
      exact q
    obtain ⟨fs, hr, hrun, hended, hW, hsame⟩ := X305.leave (v := some (.int 1)) (fun h => by rw [Bd.returns] at h; cases h)
    refine ⟨_, _, k_306 _ ?_, hrun, hended, _, _, rfl, ?_, ⟨_, rfl⟩, hW, hsame.mono (by decide) (by decide)⟩
    · exact retN X305 hx (t := .boolean) Bd.returns (by simp) (hb hby at_165) hr
    · show Q0 n0 _ T305.heap _
      rw [e305]
      exact ⟨rfl, N305⟩
  · skip
    have k_307 : Go p.tables e below (s₁.setTop (entryFrame m #[(.int q1)] maxLocals)) (T278.setTop (mkF m 152 #[iv q1, rv b152, iv 5, iv 1] [(.int 5), (.ref b152)])) := fun t q => by
      refine k_281 t ?_
      refine XS.astoreN X278.here hx rfl (hb hby at_125) rfl rfl (l' := #[iv q1, rv b152, .unset, .unset]) rfl ?_
      show Steps _ _ _ (T278.setTop (mkF m 126 #[iv q1, rv b152, .unset, .unset] [])) _
      refine XS.iloadN X278.here hx rfl (hb hby at_126) rfl ?_
      show Steps _ _ _ (T278.setTop (mkF m 127 #[iv q1, rv b152, .unset, .unset] [(.int q1)])) _
      refine X278.ldcInt hx hown (mvT hZ (hw _ (wd 40 rfl))) (g := (mkF m 127 #[iv q1, rv b152, .unset, .unset] [(.int q1)])) rfl (hb hby at_127) _ ?_
      show Steps _ _ _ (T278.setTop (mkF m 129 #[iv q1, rv b152, .unset, .unset] [(.int 2147483647), (.int q1)])) _
      refine XS.iand X278.here hx rfl (hb hby at_129) rfl ?_
      show Steps _ _ _ (T278.setTop (mkF m 130 #[iv q1, rv b152, .unset, .unset] [(.int (q1 &&& (2147483647 : Int32)))])) _
      refine XS.bipush X278.here hx rfl (hb hby at_130) ?_
      show Steps _ _ _ (T278.setTop (mkF m 132 #[iv q1, rv b152, .unset, .unset] [(.int 18), (.int (q1 &&& (2147483647 : Int32)))])) _
      refine iremM (g := (mkF m 132 #[iv q1, rv b152, .unset, .unset] [(.int 18), (.int (q1 &&& (2147483647 : Int32)))])) X278 hx rfl (hb hby at_132) rfl (by decide) ?_
      show Steps _ _ _ (T278.setTop (mkF m 133 #[iv q1, rv b152, .unset, .unset] [(.int ((q1 &&& (2147483647 : Int32)) % (18 : Int32)))])) _
      rw [hi]
      show Steps _ _ _ (T278.setTop (mkF m 133 #[iv q1, rv b152, .unset, .unset] [(.int 5)])) _
      refine XS.istoreN X278.here hx rfl (hb hby at_133) rfl (l' := #[iv q1, rv b152, iv 5, .unset]) rfl ?_
      show Steps _ _ _ (T278.setTop (mkF m 134 #[iv q1, rv b152, iv 5, .unset] [])) _
      refine XS.iloadN X278.here hx rfl (hb hby at_134) rfl ?_
      show Steps _ _ _ (T278.setTop (mkF m 135 #[iv q1, rv b152, iv 5, .unset] [(.int 5)])) _
      refine XS.iconst X278.here hx rfl (hb hby at_135) ?_
      show Steps _ _ _ (T278.setTop (mkF m 136 #[iv q1, rv b152, iv 5, .unset] [(.int 2), (.int 5)])) _
      refine XS.icmpNo X278.here hx rfl (hb hby at_136) rfl (by decide) ?_
      show Steps _ _ _ (T278.setTop (mkF m 139 #[iv q1, rv b152, iv 5, .unset] [])) _
      refine XS.iloadN X278.here hx rfl (hb hby at_139) rfl ?_
      show Steps _ _ _ (T278.setTop (mkF m 140 #[iv q1, rv b152, iv 5, .unset] [(.int 5)])) _
      refine XS.iconst X278.here hx rfl (hb hby at_140) ?_
      show Steps _ _ _ (T278.setTop (mkF m 141 #[iv q1, rv b152, iv 5, .unset] [(.int 5), (.int 5)])) _
      refine XS.icmpNo X278.here hx rfl (hb hby at_141) rfl (by decide) ?_
      show Steps _ _ _ (T278.setTop (mkF m 144 #[iv q1, rv b152, iv 5, .unset] [])) _
      refine XS.iconst X278.here hx rfl (hb hby at_144) ?_
      show Steps _ _ _ (T278.setTop (mkF m 145 #[iv q1, rv b152, iv 5, .unset] [(.int 1)])) _
      refine XS.goto X278.here hx rfl (pc0 := 145) (pc' := 149) rfl (hb hby at_145) (by decide) (by decide) ?_
      show Steps _ _ _ (T278.setTop (mkF m 149 #[iv q1, rv b152, iv 5, .unset] [(.int 1)])) _
      refine XS.istoreN X278.here hx rfl (hb hby at_149) rfl (l' := #[iv q1, rv b152, iv 5, iv 1]) rfl ?_
      show Steps _ _ _ (T278.setTop (mkF m 150 #[iv q1, rv b152, iv 5, iv 1] [])) _
      refine XS.aloadN X278.here hx rfl (hb hby at_150) rfl rfl ?_
      show Steps _ _ _ (T278.setTop (mkF m 151 #[iv q1, rv b152, iv 5, iv 1] [(.ref b152)])) _
      refine XS.iloadN X278.here hx rfl (hb hby at_151) rfl ?_
      show Steps _ _ _ (T278.setTop (mkF m 152 #[iv q1, rv b152, iv 5, iv 1] [(.int 5), (.ref b152)])) _
      exact q
    obtain ⟨cl308, Ar308, q308, S308, M308, H308, G308⟩ := B278
    have hin308 : ¬ ((5 : Int32) < 0 ∨ cl308.slots.size ≤ ((5 : Int32)).toNatClampNeg) := inb_of S308 ⟨by decide, by decide⟩
    have hat308 : cl308.slots[((5 : Int32)).toNatClampNeg]? = some (.ref a_PIPELINE_CANCELLED) := Has.at H308 hin308 rfl
    have k_309 : Go p.tables e below (s₁.setTop (entryFrame m #[(.int q1)] maxLocals)) (T278.setTop (mkF m 153 #[iv q1, rv b152, iv 5, iv 1] [(.ref a_PIPELINE_CANCELLED)])) := fun t q => by
      refine k_307 t ?_
      refine X278.aaload hx (j := (5 : Int32)) (v := (.ref a_PIPELINE_CANCELLED)) (by rw [e278]; exact Ar308.1) (State.isArrayOf_alike hZ.alike Ar308.2.1) rfl Ar308.2.2 hin308 hat308 (g := (mkF m 152 #[iv q1, rv b152, iv 5, iv 1] [(.int 5), (.ref b152)])) rfl rfl (hb hby at_152) _ ?_
      show Steps _ _ _ (T278.setTop (mkF m 153 #[iv q1, rv b152, iv 5, iv 1] [(.ref a_PIPELINE_CANCELLED)])) _
      exact q
    obtain ⟨cq310, kq310, q310a, q310b, q310c⟩ := isOf hZ e278 (Exa.ext O_279.2 E_PIPELINE_CANCELLED)
    obtain ⟨_, _, ⟨T310, L310, k310, n310⟩, -, X310, ⟨Lc310, hQ310, l310, y310, z310⟩, st310⟩ := X278.virtualBack hx (y := y_0) (z := y_0) hown (mvT hZ (hw _ (wd 41 rfl))) (mvT hZ (hw _ (wd 42 rfl))) (notFace_of_selects (args := #[]) (mvT hZ (hw _ (wd 44 rfl)))) (mvT hZ (hw _ (wd 44 rfl))) (mvT hZ (hw _ (wd 43 rfl))) (by decide) (backOf (W := 0) (ew_5 l Z a0 hw [] a_PIPELINE_STARTED a_PIPELINE_RESUMED a_PIPELINE_COMPLETED a_PIPELINE_FAILED a_PIPELINE_STOPPED a_PIPELINE_CANCELLED a_STAGE_STARTED a_STAGE_COMPLETED a_STAGE_FAILED a_STAGE_RETRYING a_PARALLEL_STARTED a_PARALLEL_BRANCH_STARTED a_PARALLEL_BRANCH_COMPLETED a_PARALLEL_COMPLETED a_INTERVIEW_STARTED a_INTERVIEW_COMPLETED a_INTERVIEW_TIMEOUT a_CHECKPOINT_SAVED G  h278 n0 O_279 ) hZ (hw _ (wd 45 rfl)) (hw _ (wd 3 rfl)) (by decide) (by decide)) q310a q310c (g := (mkF m 153 #[iv q1, rv b152, iv 5, iv 1] [(.ref a_PIPELINE_CANCELLED)])) rfl (by rw [hml]; rfl) (Steps.refl _) (argsL := []) (rest := []) (lenOf pd_0 rfl) rfl (by show 2 * 0 + _ ≤ _; exact Nat.le_of_eq rfl) (hb hby at_153) (fun _ _ => ⟨rfl, e278, (by decide : 1 + 0 ≤ _), (by decide : 18 + 0 ≤ _)⟩)
    dsimp only [Pt.U, Pt.locs, Pt.cells, Pt.slots] at X310 l310 y310 z310 st310 hQ310
    subst l310 y310 z310
    obtain ⟨rfl, N310q, e310⟩ := hQ310
    have N310 := Fr.app N278 N310q
    have k_311 : Go p.tables e below (s₁.setTop (entryFrame m #[(.int q1)] maxLocals)) (T310.setTop (mkF m 165 #[iv q1, rv b152, iv 5, iv 1] [(.int 1)])) := fun t q => by
      refine k_309 t ?_
      refine st310.trans ?_
      show Steps _ _ _ (T310.setTop (mkF m 156 #[iv q1, rv b152, iv 5, iv 1] [(.int 1)])) _
      refine XS.iloadN X310.here hx rfl (hb hby at_156) rfl ?_
      show Steps _ _ _ (T310.setTop (mkF m 157 #[iv q1, rv b152, iv 5, iv 1] [(.int 1), (.int 1)])) _
      refine XS.icmpNo X310.here hx rfl (hb hby at_157) rfl (by decide) ?_
      show Steps _ _ _ (T310.setTop (mkF m 160 #[iv q1, rv b152, iv 5, iv 1] [])) _
      refine XS.iconst X310.here hx rfl (hb hby at_160) ?_
      show Steps _ _ _ (T310.setTop (mkF m 161 #[iv q1, rv b152, iv 5, iv 1] [(.int 1)])) _
      refine XS.goto X310.here hx rfl (pc0 := 161) (pc' := 165) rfl (hb hby at_161) (by decide) (by decide) ?_
      show Steps _ _ _ (T310.setTop (mkF m 165 #[iv q1, rv b152, iv 5, iv 1] [(.int 1)])) _
      exact q
    obtain ⟨fs, hr, hrun, hended, hW, hsame⟩ := X310.leave (v := some (.int 1)) (fun h => by rw [Bd.returns] at h; cases h)
    refine ⟨_, _, k_311 _ ?_, hrun, hended, _, _, rfl, ?_, ⟨_, rfl⟩, hW, hsame.mono (by decide) (by decide)⟩
    · exact retN X310 hx (t := .boolean) Bd.returns (by simp) (hb hby at_165) hr
    · show Q0 n0 _ T310.heap _
      rw [e310]
      exact ⟨rfl, N310⟩
  · skip
    have k_312 : Go p.tables e below (s₁.setTop (entryFrame m #[(.int q1)] maxLocals)) (T278.setTop (mkF m 152 #[iv q1, rv b152, iv 6, iv 0] [(.int 6), (.ref b152)])) := fun t q => by
      refine k_281 t ?_
      refine XS.astoreN X278.here hx rfl (hb hby at_125) rfl rfl (l' := #[iv q1, rv b152, .unset, .unset]) rfl ?_
      show Steps _ _ _ (T278.setTop (mkF m 126 #[iv q1, rv b152, .unset, .unset] [])) _
      refine XS.iloadN X278.here hx rfl (hb hby at_126) rfl ?_
      show Steps _ _ _ (T278.setTop (mkF m 127 #[iv q1, rv b152, .unset, .unset] [(.int q1)])) _
      refine X278.ldcInt hx hown (mvT hZ (hw _ (wd 40 rfl))) (g := (mkF m 127 #[iv q1, rv b152, .unset, .unset] [(.int q1)])) rfl (hb hby at_127) _ ?_
      show Steps _ _ _ (T278.setTop (mkF m 129 #[iv q1, rv b152, .unset, .unset] [(.int 2147483647), (.int q1)])) _
      refine XS.iand X278.here hx rfl (hb hby at_129) rfl ?_
      show Steps _ _ _ (T278.setTop (mkF m 130 #[iv q1, rv b152, .unset, .unset] [(.int (q1 &&& (2147483647 : Int32)))])) _
      refine XS.bipush X278.here hx rfl (hb hby at_130) ?_
      show Steps _ _ _ (T278.setTop (mkF m 132 #[iv q1, rv b152, .unset, .unset] [(.int 18), (.int (q1 &&& (2147483647 : Int32)))])) _
      refine iremM (g := (mkF m 132 #[iv q1, rv b152, .unset, .unset] [(.int 18), (.int (q1 &&& (2147483647 : Int32)))])) X278 hx rfl (hb hby at_132) rfl (by decide) ?_
      show Steps _ _ _ (T278.setTop (mkF m 133 #[iv q1, rv b152, .unset, .unset] [(.int ((q1 &&& (2147483647 : Int32)) % (18 : Int32)))])) _
      rw [hi]
      show Steps _ _ _ (T278.setTop (mkF m 133 #[iv q1, rv b152, .unset, .unset] [(.int 6)])) _
      refine XS.istoreN X278.here hx rfl (hb hby at_133) rfl (l' := #[iv q1, rv b152, iv 6, .unset]) rfl ?_
      show Steps _ _ _ (T278.setTop (mkF m 134 #[iv q1, rv b152, iv 6, .unset] [])) _
      refine XS.iloadN X278.here hx rfl (hb hby at_134) rfl ?_
      show Steps _ _ _ (T278.setTop (mkF m 135 #[iv q1, rv b152, iv 6, .unset] [(.int 6)])) _
      refine XS.iconst X278.here hx rfl (hb hby at_135) ?_
      show Steps _ _ _ (T278.setTop (mkF m 136 #[iv q1, rv b152, iv 6, .unset] [(.int 2), (.int 6)])) _
      refine XS.icmpNo X278.here hx rfl (hb hby at_136) rfl (by decide) ?_
      show Steps _ _ _ (T278.setTop (mkF m 139 #[iv q1, rv b152, iv 6, .unset] [])) _
      refine XS.iloadN X278.here hx rfl (hb hby at_139) rfl ?_
      show Steps _ _ _ (T278.setTop (mkF m 140 #[iv q1, rv b152, iv 6, .unset] [(.int 6)])) _
      refine XS.iconst X278.here hx rfl (hb hby at_140) ?_
      show Steps _ _ _ (T278.setTop (mkF m 141 #[iv q1, rv b152, iv 6, .unset] [(.int 5), (.int 6)])) _
      refine XS.icmpYes X278.here hx rfl (pc0 := 141) (pc' := 148) rfl (hb hby at_141) rfl (by decide) (by decide) (by decide) ?_
      show Steps _ _ _ (T278.setTop (mkF m 148 #[iv q1, rv b152, iv 6, .unset] [])) _
      refine XS.iconst X278.here hx rfl (hb hby at_148) ?_
      show Steps _ _ _ (T278.setTop (mkF m 149 #[iv q1, rv b152, iv 6, .unset] [(.int 0)])) _
      refine XS.istoreN X278.here hx rfl (hb hby at_149) rfl (l' := #[iv q1, rv b152, iv 6, iv 0]) rfl ?_
      show Steps _ _ _ (T278.setTop (mkF m 150 #[iv q1, rv b152, iv 6, iv 0] [])) _
      refine XS.aloadN X278.here hx rfl (hb hby at_150) rfl rfl ?_
      show Steps _ _ _ (T278.setTop (mkF m 151 #[iv q1, rv b152, iv 6, iv 0] [(.ref b152)])) _
      refine XS.iloadN X278.here hx rfl (hb hby at_151) rfl ?_
      show Steps _ _ _ (T278.setTop (mkF m 152 #[iv q1, rv b152, iv 6, iv 0] [(.int 6), (.ref b152)])) _
      exact q
    obtain ⟨cl313, Ar313, q313, S313, M313, H313, G313⟩ := B278
    have hin313 : ¬ ((6 : Int32) < 0 ∨ cl313.slots.size ≤ ((6 : Int32)).toNatClampNeg) := inb_of S313 ⟨by decide, by decide⟩
    have hat313 : cl313.slots[((6 : Int32)).toNatClampNeg]? = some (.ref a_STAGE_STARTED) := Has.at H313 hin313 rfl
    have k_314 : Go p.tables e below (s₁.setTop (entryFrame m #[(.int q1)] maxLocals)) (T278.setTop (mkF m 153 #[iv q1, rv b152, iv 6, iv 0] [(.ref a_STAGE_STARTED)])) := fun t q => by
      refine k_312 t ?_
      refine X278.aaload hx (j := (6 : Int32)) (v := (.ref a_STAGE_STARTED)) (by rw [e278]; exact Ar313.1) (State.isArrayOf_alike hZ.alike Ar313.2.1) rfl Ar313.2.2 hin313 hat313 (g := (mkF m 152 #[iv q1, rv b152, iv 6, iv 0] [(.int 6), (.ref b152)])) rfl rfl (hb hby at_152) _ ?_
      show Steps _ _ _ (T278.setTop (mkF m 153 #[iv q1, rv b152, iv 6, iv 0] [(.ref a_STAGE_STARTED)])) _
      exact q
    obtain ⟨cq315, kq315, q315a, q315b, q315c⟩ := isOf hZ e278 (Exa.ext O_279.2 E_STAGE_STARTED)
    obtain ⟨_, _, ⟨T315, L315, k315, n315⟩, -, X315, ⟨Lc315, hQ315, l315, y315, z315⟩, st315⟩ := X278.virtualBack hx (y := y_0) (z := y_0) hown (mvT hZ (hw _ (wd 41 rfl))) (mvT hZ (hw _ (wd 42 rfl))) (notFace_of_selects (args := #[]) (mvT hZ (hw _ (wd 44 rfl)))) (mvT hZ (hw _ (wd 44 rfl))) (mvT hZ (hw _ (wd 43 rfl))) (by decide) (backOf (W := 0) (ew_6 l Z a0 hw [] a_PIPELINE_STARTED a_PIPELINE_RESUMED a_PIPELINE_COMPLETED a_PIPELINE_FAILED a_PIPELINE_STOPPED a_PIPELINE_CANCELLED a_STAGE_STARTED a_STAGE_COMPLETED a_STAGE_FAILED a_STAGE_RETRYING a_PARALLEL_STARTED a_PARALLEL_BRANCH_STARTED a_PARALLEL_BRANCH_COMPLETED a_PARALLEL_COMPLETED a_INTERVIEW_STARTED a_INTERVIEW_COMPLETED a_INTERVIEW_TIMEOUT a_CHECKPOINT_SAVED G  h278 n0 O_279 ) hZ (hw _ (wd 45 rfl)) (hw _ (wd 3 rfl)) (by decide) (by decide)) q315a q315c (g := (mkF m 153 #[iv q1, rv b152, iv 6, iv 0] [(.ref a_STAGE_STARTED)])) rfl (by rw [hml]; rfl) (Steps.refl _) (argsL := []) (rest := []) (lenOf pd_0 rfl) rfl (by show 2 * 0 + _ ≤ _; exact Nat.le_of_eq rfl) (hb hby at_153) (fun _ _ => ⟨rfl, e278, (by decide : 1 + 0 ≤ _), (by decide : 18 + 0 ≤ _)⟩)
    dsimp only [Pt.U, Pt.locs, Pt.cells, Pt.slots] at X315 l315 y315 z315 st315 hQ315
    subst l315 y315 z315
    obtain ⟨rfl, N315q, e315⟩ := hQ315
    have N315 := Fr.app N278 N315q
    have k_316 : Go p.tables e below (s₁.setTop (entryFrame m #[(.int q1)] maxLocals)) (T315.setTop (mkF m 165 #[iv q1, rv b152, iv 6, iv 0] [(.int 1)])) := fun t q => by
      refine k_314 t ?_
      refine st315.trans ?_
      show Steps _ _ _ (T315.setTop (mkF m 156 #[iv q1, rv b152, iv 6, iv 0] [(.int 0)])) _
      refine XS.iloadN X315.here hx rfl (hb hby at_156) rfl ?_
      show Steps _ _ _ (T315.setTop (mkF m 157 #[iv q1, rv b152, iv 6, iv 0] [(.int 0), (.int 0)])) _
      refine XS.icmpNo X315.here hx rfl (hb hby at_157) rfl (by decide) ?_
      show Steps _ _ _ (T315.setTop (mkF m 160 #[iv q1, rv b152, iv 6, iv 0] [])) _
      refine XS.iconst X315.here hx rfl (hb hby at_160) ?_
      show Steps _ _ _ (T315.setTop (mkF m 161 #[iv q1, rv b152, iv 6, iv 0] [(.int 1)])) _
      refine XS.goto X315.here hx rfl (pc0 := 161) (pc' := 165) rfl (hb hby at_161) (by decide) (by decide) ?_
      show Steps _ _ _ (T315.setTop (mkF m 165 #[iv q1, rv b152, iv 6, iv 0] [(.int 1)])) _
      exact q
    obtain ⟨fs, hr, hrun, hended, hW, hsame⟩ := X315.leave (v := some (.int 1)) (fun h => by rw [Bd.returns] at h; cases h)
    refine ⟨_, _, k_316 _ ?_, hrun, hended, _, _, rfl, ?_, ⟨_, rfl⟩, hW, hsame.mono (by decide) (by decide)⟩
    · exact retN X315 hx (t := .boolean) Bd.returns (by simp) (hb hby at_165) hr
    · show Q0 n0 _ T315.heap _
      rw [e315]
      exact ⟨rfl, N315⟩
  · skip
    have k_317 : Go p.tables e below (s₁.setTop (entryFrame m #[(.int q1)] maxLocals)) (T278.setTop (mkF m 152 #[iv q1, rv b152, iv 7, iv 0] [(.int 7), (.ref b152)])) := fun t q => by
      refine k_281 t ?_
      refine XS.astoreN X278.here hx rfl (hb hby at_125) rfl rfl (l' := #[iv q1, rv b152, .unset, .unset]) rfl ?_
      show Steps _ _ _ (T278.setTop (mkF m 126 #[iv q1, rv b152, .unset, .unset] [])) _
      refine XS.iloadN X278.here hx rfl (hb hby at_126) rfl ?_
      show Steps _ _ _ (T278.setTop (mkF m 127 #[iv q1, rv b152, .unset, .unset] [(.int q1)])) _
      refine X278.ldcInt hx hown (mvT hZ (hw _ (wd 40 rfl))) (g := (mkF m 127 #[iv q1, rv b152, .unset, .unset] [(.int q1)])) rfl (hb hby at_127) _ ?_
      show Steps _ _ _ (T278.setTop (mkF m 129 #[iv q1, rv b152, .unset, .unset] [(.int 2147483647), (.int q1)])) _
      refine XS.iand X278.here hx rfl (hb hby at_129) rfl ?_
      show Steps _ _ _ (T278.setTop (mkF m 130 #[iv q1, rv b152, .unset, .unset] [(.int (q1 &&& (2147483647 : Int32)))])) _
      refine XS.bipush X278.here hx rfl (hb hby at_130) ?_
      show Steps _ _ _ (T278.setTop (mkF m 132 #[iv q1, rv b152, .unset, .unset] [(.int 18), (.int (q1 &&& (2147483647 : Int32)))])) _
      refine iremM (g := (mkF m 132 #[iv q1, rv b152, .unset, .unset] [(.int 18), (.int (q1 &&& (2147483647 : Int32)))])) X278 hx rfl (hb hby at_132) rfl (by decide) ?_
      show Steps _ _ _ (T278.setTop (mkF m 133 #[iv q1, rv b152, .unset, .unset] [(.int ((q1 &&& (2147483647 : Int32)) % (18 : Int32)))])) _
      rw [hi]
      show Steps _ _ _ (T278.setTop (mkF m 133 #[iv q1, rv b152, .unset, .unset] [(.int 7)])) _
      refine XS.istoreN X278.here hx rfl (hb hby at_133) rfl (l' := #[iv q1, rv b152, iv 7, .unset]) rfl ?_
      show Steps _ _ _ (T278.setTop (mkF m 134 #[iv q1, rv b152, iv 7, .unset] [])) _
      refine XS.iloadN X278.here hx rfl (hb hby at_134) rfl ?_
      show Steps _ _ _ (T278.setTop (mkF m 135 #[iv q1, rv b152, iv 7, .unset] [(.int 7)])) _
      refine XS.iconst X278.here hx rfl (hb hby at_135) ?_
      show Steps _ _ _ (T278.setTop (mkF m 136 #[iv q1, rv b152, iv 7, .unset] [(.int 2), (.int 7)])) _
      refine XS.icmpNo X278.here hx rfl (hb hby at_136) rfl (by decide) ?_
      show Steps _ _ _ (T278.setTop (mkF m 139 #[iv q1, rv b152, iv 7, .unset] [])) _
      refine XS.iloadN X278.here hx rfl (hb hby at_139) rfl ?_
      show Steps _ _ _ (T278.setTop (mkF m 140 #[iv q1, rv b152, iv 7, .unset] [(.int 7)])) _
      refine XS.iconst X278.here hx rfl (hb hby at_140) ?_
      show Steps _ _ _ (T278.setTop (mkF m 141 #[iv q1, rv b152, iv 7, .unset] [(.int 5), (.int 7)])) _
      refine XS.icmpYes X278.here hx rfl (pc0 := 141) (pc' := 148) rfl (hb hby at_141) rfl (by decide) (by decide) (by decide) ?_
      show Steps _ _ _ (T278.setTop (mkF m 148 #[iv q1, rv b152, iv 7, .unset] [])) _
      refine XS.iconst X278.here hx rfl (hb hby at_148) ?_
      show Steps _ _ _ (T278.setTop (mkF m 149 #[iv q1, rv b152, iv 7, .unset] [(.int 0)])) _
      refine XS.istoreN X278.here hx rfl (hb hby at_149) rfl (l' := #[iv q1, rv b152, iv 7, iv 0]) rfl ?_
      show Steps _ _ _ (T278.setTop (mkF m 150 #[iv q1, rv b152, iv 7, iv 0] [])) _
      refine XS.aloadN X278.here hx rfl (hb hby at_150) rfl rfl ?_
      show Steps _ _ _ (T278.setTop (mkF m 151 #[iv q1, rv b152, iv 7, iv 0] [(.ref b152)])) _
      refine XS.iloadN X278.here hx rfl (hb hby at_151) rfl ?_
      show Steps _ _ _ (T278.setTop (mkF m 152 #[iv q1, rv b152, iv 7, iv 0] [(.int 7), (.ref b152)])) _
      exact q
    obtain ⟨cl318, Ar318, q318, S318, M318, H318, G318⟩ := B278
    have hin318 : ¬ ((7 : Int32) < 0 ∨ cl318.slots.size ≤ ((7 : Int32)).toNatClampNeg) := inb_of S318 ⟨by decide, by decide⟩
    have hat318 : cl318.slots[((7 : Int32)).toNatClampNeg]? = some (.ref a_STAGE_COMPLETED) := Has.at H318 hin318 rfl
    have k_319 : Go p.tables e below (s₁.setTop (entryFrame m #[(.int q1)] maxLocals)) (T278.setTop (mkF m 153 #[iv q1, rv b152, iv 7, iv 0] [(.ref a_STAGE_COMPLETED)])) := fun t q => by
      refine k_317 t ?_
      refine X278.aaload hx (j := (7 : Int32)) (v := (.ref a_STAGE_COMPLETED)) (by rw [e278]; exact Ar318.1) (State.isArrayOf_alike hZ.alike Ar318.2.1) rfl Ar318.2.2 hin318 hat318 (g := (mkF m 152 #[iv q1, rv b152, iv 7, iv 0] [(.int 7), (.ref b152)])) rfl rfl (hb hby at_152) _ ?_
      show Steps _ _ _ (T278.setTop (mkF m 153 #[iv q1, rv b152, iv 7, iv 0] [(.ref a_STAGE_COMPLETED)])) _
      exact q
    obtain ⟨cq320, kq320, q320a, q320b, q320c⟩ := isOf hZ e278 (Exa.ext O_279.2 E_STAGE_COMPLETED)
    obtain ⟨_, _, ⟨T320, L320, k320, n320⟩, -, X320, ⟨Lc320, hQ320, l320, y320, z320⟩, st320⟩ := X278.virtualBack hx (y := y_0) (z := y_0) hown (mvT hZ (hw _ (wd 41 rfl))) (mvT hZ (hw _ (wd 42 rfl))) (notFace_of_selects (args := #[]) (mvT hZ (hw _ (wd 44 rfl)))) (mvT hZ (hw _ (wd 44 rfl))) (mvT hZ (hw _ (wd 43 rfl))) (by decide) (backOf (W := 0) (ew_7 l Z a0 hw [] a_PIPELINE_STARTED a_PIPELINE_RESUMED a_PIPELINE_COMPLETED a_PIPELINE_FAILED a_PIPELINE_STOPPED a_PIPELINE_CANCELLED a_STAGE_STARTED a_STAGE_COMPLETED a_STAGE_FAILED a_STAGE_RETRYING a_PARALLEL_STARTED a_PARALLEL_BRANCH_STARTED a_PARALLEL_BRANCH_COMPLETED a_PARALLEL_COMPLETED a_INTERVIEW_STARTED a_INTERVIEW_COMPLETED a_INTERVIEW_TIMEOUT a_CHECKPOINT_SAVED G  h278 n0 O_279 ) hZ (hw _ (wd 45 rfl)) (hw _ (wd 3 rfl)) (by decide) (by decide)) q320a q320c (g := (mkF m 153 #[iv q1, rv b152, iv 7, iv 0] [(.ref a_STAGE_COMPLETED)])) rfl (by rw [hml]; rfl) (Steps.refl _) (argsL := []) (rest := []) (lenOf pd_0 rfl) rfl (by show 2 * 0 + _ ≤ _; exact Nat.le_of_eq rfl) (hb hby at_153) (fun _ _ => ⟨rfl, e278, (by decide : 1 + 0 ≤ _), (by decide : 18 + 0 ≤ _)⟩)
    dsimp only [Pt.U, Pt.locs, Pt.cells, Pt.slots] at X320 l320 y320 z320 st320 hQ320
    subst l320 y320 z320
    obtain ⟨rfl, N320q, e320⟩ := hQ320
    have N320 := Fr.app N278 N320q
    have k_321 : Go p.tables e below (s₁.setTop (entryFrame m #[(.int q1)] maxLocals)) (T320.setTop (mkF m 165 #[iv q1, rv b152, iv 7, iv 0] [(.int 1)])) := fun t q => by
      refine k_319 t ?_
      refine st320.trans ?_
      show Steps _ _ _ (T320.setTop (mkF m 156 #[iv q1, rv b152, iv 7, iv 0] [(.int 0)])) _
      refine XS.iloadN X320.here hx rfl (hb hby at_156) rfl ?_
      show Steps _ _ _ (T320.setTop (mkF m 157 #[iv q1, rv b152, iv 7, iv 0] [(.int 0), (.int 0)])) _
      refine XS.icmpNo X320.here hx rfl (hb hby at_157) rfl (by decide) ?_
      show Steps _ _ _ (T320.setTop (mkF m 160 #[iv q1, rv b152, iv 7, iv 0] [])) _
      refine XS.iconst X320.here hx rfl (hb hby at_160) ?_
      show Steps _ _ _ (T320.setTop (mkF m 161 #[iv q1, rv b152, iv 7, iv 0] [(.int 1)])) _
      refine XS.goto X320.here hx rfl (pc0 := 161) (pc' := 165) rfl (hb hby at_161) (by decide) (by decide) ?_
      show Steps _ _ _ (T320.setTop (mkF m 165 #[iv q1, rv b152, iv 7, iv 0] [(.int 1)])) _
      exact q
    obtain ⟨fs, hr, hrun, hended, hW, hsame⟩ := X320.leave (v := some (.int 1)) (fun h => by rw [Bd.returns] at h; cases h)
    refine ⟨_, _, k_321 _ ?_, hrun, hended, _, _, rfl, ?_, ⟨_, rfl⟩, hW, hsame.mono (by decide) (by decide)⟩
    · exact retN X320 hx (t := .boolean) Bd.returns (by simp) (hb hby at_165) hr
    · show Q0 n0 _ T320.heap _
      rw [e320]
      exact ⟨rfl, N320⟩
  · skip
    have k_322 : Go p.tables e below (s₁.setTop (entryFrame m #[(.int q1)] maxLocals)) (T278.setTop (mkF m 152 #[iv q1, rv b152, iv 8, iv 0] [(.int 8), (.ref b152)])) := fun t q => by
      refine k_281 t ?_
      refine XS.astoreN X278.here hx rfl (hb hby at_125) rfl rfl (l' := #[iv q1, rv b152, .unset, .unset]) rfl ?_
      show Steps _ _ _ (T278.setTop (mkF m 126 #[iv q1, rv b152, .unset, .unset] [])) _
      refine XS.iloadN X278.here hx rfl (hb hby at_126) rfl ?_
      show Steps _ _ _ (T278.setTop (mkF m 127 #[iv q1, rv b152, .unset, .unset] [(.int q1)])) _
      refine X278.ldcInt hx hown (mvT hZ (hw _ (wd 40 rfl))) (g := (mkF m 127 #[iv q1, rv b152, .unset, .unset] [(.int q1)])) rfl (hb hby at_127) _ ?_
      show Steps _ _ _ (T278.setTop (mkF m 129 #[iv q1, rv b152, .unset, .unset] [(.int 2147483647), (.int q1)])) _
      refine XS.iand X278.here hx rfl (hb hby at_129) rfl ?_
      show Steps _ _ _ (T278.setTop (mkF m 130 #[iv q1, rv b152, .unset, .unset] [(.int (q1 &&& (2147483647 : Int32)))])) _
      refine XS.bipush X278.here hx rfl (hb hby at_130) ?_
      show Steps _ _ _ (T278.setTop (mkF m 132 #[iv q1, rv b152, .unset, .unset] [(.int 18), (.int (q1 &&& (2147483647 : Int32)))])) _
      refine iremM (g := (mkF m 132 #[iv q1, rv b152, .unset, .unset] [(.int 18), (.int (q1 &&& (2147483647 : Int32)))])) X278 hx rfl (hb hby at_132) rfl (by decide) ?_
      show Steps _ _ _ (T278.setTop (mkF m 133 #[iv q1, rv b152, .unset, .unset] [(.int ((q1 &&& (2147483647 : Int32)) % (18 : Int32)))])) _
      rw [hi]
      show Steps _ _ _ (T278.setTop (mkF m 133 #[iv q1, rv b152, .unset, .unset] [(.int 8)])) _
      refine XS.istoreN X278.here hx rfl (hb hby at_133) rfl (l' := #[iv q1, rv b152, iv 8, .unset]) rfl ?_
      show Steps _ _ _ (T278.setTop (mkF m 134 #[iv q1, rv b152, iv 8, .unset] [])) _
      refine XS.iloadN X278.here hx rfl (hb hby at_134) rfl ?_
      show Steps _ _ _ (T278.setTop (mkF m 135 #[iv q1, rv b152, iv 8, .unset] [(.int 8)])) _
      refine XS.iconst X278.here hx rfl (hb hby at_135) ?_
      show Steps _ _ _ (T278.setTop (mkF m 136 #[iv q1, rv b152, iv 8, .unset] [(.int 2), (.int 8)])) _
      refine XS.icmpNo X278.here hx rfl (hb hby at_136) rfl (by decide) ?_
      show Steps _ _ _ (T278.setTop (mkF m 139 #[iv q1, rv b152, iv 8, .unset] [])) _
      refine XS.iloadN X278.here hx rfl (hb hby at_139) rfl ?_
      show Steps _ _ _ (T278.setTop (mkF m 140 #[iv q1, rv b152, iv 8, .unset] [(.int 8)])) _
      refine XS.iconst X278.here hx rfl (hb hby at_140) ?_
      show Steps _ _ _ (T278.setTop (mkF m 141 #[iv q1, rv b152, iv 8, .unset] [(.int 5), (.int 8)])) _
      refine XS.icmpYes X278.here hx rfl (pc0 := 141) (pc' := 148) rfl (hb hby at_141) rfl (by decide) (by decide) (by decide) ?_
      show Steps _ _ _ (T278.setTop (mkF m 148 #[iv q1, rv b152, iv 8, .unset] [])) _
      refine XS.iconst X278.here hx rfl (hb hby at_148) ?_
      show Steps _ _ _ (T278.setTop (mkF m 149 #[iv q1, rv b152, iv 8, .unset] [(.int 0)])) _
      refine XS.istoreN X278.here hx rfl (hb hby at_149) rfl (l' := #[iv q1, rv b152, iv 8, iv 0]) rfl ?_
      show Steps _ _ _ (T278.setTop (mkF m 150 #[iv q1, rv b152, iv 8, iv 0] [])) _
      refine XS.aloadN X278.here hx rfl (hb hby at_150) rfl rfl ?_
      show Steps _ _ _ (T278.setTop (mkF m 151 #[iv q1, rv b152, iv 8, iv 0] [(.ref b152)])) _
      refine XS.iloadN X278.here hx rfl (hb hby at_151) rfl ?_
      show Steps _ _ _ (T278.setTop (mkF m 152 #[iv q1, rv b152, iv 8, iv 0] [(.int 8), (.ref b152)])) _
      exact q
    obtain ⟨cl323, Ar323, q323, S323, M323, H323, G323⟩ := B278
    have hin323 : ¬ ((8 : Int32) < 0 ∨ cl323.slots.size ≤ ((8 : Int32)).toNatClampNeg) := inb_of S323 ⟨by decide, by decide⟩
    have hat323 : cl323.slots[((8 : Int32)).toNatClampNeg]? = some (.ref a_STAGE_FAILED) := Has.at H323 hin323 rfl
    have k_324 : Go p.tables e below (s₁.setTop (entryFrame m #[(.int q1)] maxLocals)) (T278.setTop (mkF m 153 #[iv q1, rv b152, iv 8, iv 0] [(.ref a_STAGE_FAILED)])) := fun t q => by
      refine k_322 t ?_
      refine X278.aaload hx (j := (8 : Int32)) (v := (.ref a_STAGE_FAILED)) (by rw [e278]; exact Ar323.1) (State.isArrayOf_alike hZ.alike Ar323.2.1) rfl Ar323.2.2 hin323 hat323 (g := (mkF m 152 #[iv q1, rv b152, iv 8, iv 0] [(.int 8), (.ref b152)])) rfl rfl (hb hby at_152) _ ?_
      show Steps _ _ _ (T278.setTop (mkF m 153 #[iv q1, rv b152, iv 8, iv 0] [(.ref a_STAGE_FAILED)])) _
      exact q
    obtain ⟨cq325, kq325, q325a, q325b, q325c⟩ := isOf hZ e278 (Exa.ext O_279.2 E_STAGE_FAILED)
    obtain ⟨_, _, ⟨T325, L325, k325, n325⟩, -, X325, ⟨Lc325, hQ325, l325, y325, z325⟩, st325⟩ := X278.virtualBack hx (y := y_0) (z := y_0) hown (mvT hZ (hw _ (wd 41 rfl))) (mvT hZ (hw _ (wd 42 rfl))) (notFace_of_selects (args := #[]) (mvT hZ (hw _ (wd 44 rfl)))) (mvT hZ (hw _ (wd 44 rfl))) (mvT hZ (hw _ (wd 43 rfl))) (by decide) (backOf (W := 0) (ew_8 l Z a0 hw [] a_PIPELINE_STARTED a_PIPELINE_RESUMED a_PIPELINE_COMPLETED a_PIPELINE_FAILED a_PIPELINE_STOPPED a_PIPELINE_CANCELLED a_STAGE_STARTED a_STAGE_COMPLETED a_STAGE_FAILED a_STAGE_RETRYING a_PARALLEL_STARTED a_PARALLEL_BRANCH_STARTED a_PARALLEL_BRANCH_COMPLETED a_PARALLEL_COMPLETED a_INTERVIEW_STARTED a_INTERVIEW_COMPLETED a_INTERVIEW_TIMEOUT a_CHECKPOINT_SAVED G  h278 n0 O_279 ) hZ (hw _ (wd 45 rfl)) (hw _ (wd 3 rfl)) (by decide) (by decide)) q325a q325c (g := (mkF m 153 #[iv q1, rv b152, iv 8, iv 0] [(.ref a_STAGE_FAILED)])) rfl (by rw [hml]; rfl) (Steps.refl _) (argsL := []) (rest := []) (lenOf pd_0 rfl) rfl (by show 2 * 0 + _ ≤ _; exact Nat.le_of_eq rfl) (hb hby at_153) (fun _ _ => ⟨rfl, e278, (by decide : 1 + 0 ≤ _), (by decide : 18 + 0 ≤ _)⟩)
    dsimp only [Pt.U, Pt.locs, Pt.cells, Pt.slots] at X325 l325 y325 z325 st325 hQ325
    subst l325 y325 z325
    obtain ⟨rfl, N325q, e325⟩ := hQ325
    have N325 := Fr.app N278 N325q
    have k_326 : Go p.tables e below (s₁.setTop (entryFrame m #[(.int q1)] maxLocals)) (T325.setTop (mkF m 165 #[iv q1, rv b152, iv 8, iv 0] [(.int 1)])) := fun t q => by
      refine k_324 t ?_
      refine st325.trans ?_
      show Steps _ _ _ (T325.setTop (mkF m 156 #[iv q1, rv b152, iv 8, iv 0] [(.int 0)])) _
      refine XS.iloadN X325.here hx rfl (hb hby at_156) rfl ?_
      show Steps _ _ _ (T325.setTop (mkF m 157 #[iv q1, rv b152, iv 8, iv 0] [(.int 0), (.int 0)])) _
      refine XS.icmpNo X325.here hx rfl (hb hby at_157) rfl (by decide) ?_
      show Steps _ _ _ (T325.setTop (mkF m 160 #[iv q1, rv b152, iv 8, iv 0] [])) _
      refine XS.iconst X325.here hx rfl (hb hby at_160) ?_
      show Steps _ _ _ (T325.setTop (mkF m 161 #[iv q1, rv b152, iv 8, iv 0] [(.int 1)])) _
      refine XS.goto X325.here hx rfl (pc0 := 161) (pc' := 165) rfl (hb hby at_161) (by decide) (by decide) ?_
      show Steps _ _ _ (T325.setTop (mkF m 165 #[iv q1, rv b152, iv 8, iv 0] [(.int 1)])) _
      exact q
    obtain ⟨fs, hr, hrun, hended, hW, hsame⟩ := X325.leave (v := some (.int 1)) (fun h => by rw [Bd.returns] at h; cases h)
    refine ⟨_, _, k_326 _ ?_, hrun, hended, _, _, rfl, ?_, ⟨_, rfl⟩, hW, hsame.mono (by decide) (by decide)⟩
    · exact retN X325 hx (t := .boolean) Bd.returns (by simp) (hb hby at_165) hr
    · show Q0 n0 _ T325.heap _
      rw [e325]
      exact ⟨rfl, N325⟩
  · skip
    have k_327 : Go p.tables e below (s₁.setTop (entryFrame m #[(.int q1)] maxLocals)) (T278.setTop (mkF m 152 #[iv q1, rv b152, iv 9, iv 0] [(.int 9), (.ref b152)])) := fun t q => by
      refine k_281 t ?_
      refine XS.astoreN X278.here hx rfl (hb hby at_125) rfl rfl (l' := #[iv q1, rv b152, .unset, .unset]) rfl ?_
      show Steps _ _ _ (T278.setTop (mkF m 126 #[iv q1, rv b152, .unset, .unset] [])) _
      refine XS.iloadN X278.here hx rfl (hb hby at_126) rfl ?_
      show Steps _ _ _ (T278.setTop (mkF m 127 #[iv q1, rv b152, .unset, .unset] [(.int q1)])) _
      refine X278.ldcInt hx hown (mvT hZ (hw _ (wd 40 rfl))) (g := (mkF m 127 #[iv q1, rv b152, .unset, .unset] [(.int q1)])) rfl (hb hby at_127) _ ?_
      show Steps _ _ _ (T278.setTop (mkF m 129 #[iv q1, rv b152, .unset, .unset] [(.int 2147483647), (.int q1)])) _
      refine XS.iand X278.here hx rfl (hb hby at_129) rfl ?_
      show Steps _ _ _ (T278.setTop (mkF m 130 #[iv q1, rv b152, .unset, .unset] [(.int (q1 &&& (2147483647 : Int32)))])) _
      refine XS.bipush X278.here hx rfl (hb hby at_130) ?_
      show Steps _ _ _ (T278.setTop (mkF m 132 #[iv q1, rv b152, .unset, .unset] [(.int 18), (.int (q1 &&& (2147483647 : Int32)))])) _
      refine iremM (g := (mkF m 132 #[iv q1, rv b152, .unset, .unset] [(.int 18), (.int (q1 &&& (2147483647 : Int32)))])) X278 hx rfl (hb hby at_132) rfl (by decide) ?_
      show Steps _ _ _ (T278.setTop (mkF m 133 #[iv q1, rv b152, .unset, .unset] [(.int ((q1 &&& (2147483647 : Int32)) % (18 : Int32)))])) _
      rw [hi]
      show Steps _ _ _ (T278.setTop (mkF m 133 #[iv q1, rv b152, .unset, .unset] [(.int 9)])) _
      refine XS.istoreN X278.here hx rfl (hb hby at_133) rfl (l' := #[iv q1, rv b152, iv 9, .unset]) rfl ?_
      show Steps _ _ _ (T278.setTop (mkF m 134 #[iv q1, rv b152, iv 9, .unset] [])) _
      refine XS.iloadN X278.here hx rfl (hb hby at_134) rfl ?_
      show Steps _ _ _ (T278.setTop (mkF m 135 #[iv q1, rv b152, iv 9, .unset] [(.int 9)])) _
      refine XS.iconst X278.here hx rfl (hb hby at_135) ?_
      show Steps _ _ _ (T278.setTop (mkF m 136 #[iv q1, rv b152, iv 9, .unset] [(.int 2), (.int 9)])) _
      refine XS.icmpNo X278.here hx rfl (hb hby at_136) rfl (by decide) ?_
      show Steps _ _ _ (T278.setTop (mkF m 139 #[iv q1, rv b152, iv 9, .unset] [])) _
      refine XS.iloadN X278.here hx rfl (hb hby at_139) rfl ?_
      show Steps _ _ _ (T278.setTop (mkF m 140 #[iv q1, rv b152, iv 9, .unset] [(.int 9)])) _
      refine XS.iconst X278.here hx rfl (hb hby at_140) ?_
      show Steps _ _ _ (T278.setTop (mkF m 141 #[iv q1, rv b152, iv 9, .unset] [(.int 5), (.int 9)])) _
      refine XS.icmpYes X278.here hx rfl (pc0 := 141) (pc' := 148) rfl (hb hby at_141) rfl (by decide) (by decide) (by decide) ?_
      show Steps _ _ _ (T278.setTop (mkF m 148 #[iv q1, rv b152, iv 9, .unset] [])) _
      refine XS.iconst X278.here hx rfl (hb hby at_148) ?_
      show Steps _ _ _ (T278.setTop (mkF m 149 #[iv q1, rv b152, iv 9, .unset] [(.int 0)])) _
      refine XS.istoreN X278.here hx rfl (hb hby at_149) rfl (l' := #[iv q1, rv b152, iv 9, iv 0]) rfl ?_
      show Steps _ _ _ (T278.setTop (mkF m 150 #[iv q1, rv b152, iv 9, iv 0] [])) _
      refine XS.aloadN X278.here hx rfl (hb hby at_150) rfl rfl ?_
      show Steps _ _ _ (T278.setTop (mkF m 151 #[iv q1, rv b152, iv 9, iv 0] [(.ref b152)])) _
      refine XS.iloadN X278.here hx rfl (hb hby at_151) rfl ?_
      show Steps _ _ _ (T278.setTop (mkF m 152 #[iv q1, rv b152, iv 9, iv 0] [(.int 9), (.ref b152)])) _
      exact q
    obtain ⟨cl328, Ar328, q328, S328, M328, H328, G328⟩ := B278
    have hin328 : ¬ ((9 : Int32) < 0 ∨ cl328.slots.size ≤ ((9 : Int32)).toNatClampNeg) := inb_of S328 ⟨by decide, by decide⟩
    have hat328 : cl328.slots[((9 : Int32)).toNatClampNeg]? = some (.ref a_STAGE_RETRYING) := Has.at H328 hin328 rfl
    have k_329 : Go p.tables e below (s₁.setTop (entryFrame m #[(.int q1)] maxLocals)) (T278.setTop (mkF m 153 #[iv q1, rv b152, iv 9, iv 0] [(.ref a_STAGE_RETRYING)])) := fun t q => by
      refine k_327 t ?_
      refine X278.aaload hx (j := (9 : Int32)) (v := (.ref a_STAGE_RETRYING)) (by rw [e278]; exact Ar328.1) (State.isArrayOf_alike hZ.alike Ar328.2.1) rfl Ar328.2.2 hin328 hat328 (g := (mkF m 152 #[iv q1, rv b152, iv 9, iv 0] [(.int 9), (.ref b152)])) rfl rfl (hb hby at_152) _ ?_
      show Steps _ _ _ (T278.setTop (mkF m 153 #[iv q1, rv b152, iv 9, iv 0] [(.ref a_STAGE_RETRYING)])) _
      exact q
    obtain ⟨cq330, kq330, q330a, q330b, q330c⟩ := isOf hZ e278 (Exa.ext O_279.2 E_STAGE_RETRYING)
    obtain ⟨_, _, ⟨T330, L330, k330, n330⟩, -, X330, ⟨Lc330, hQ330, l330, y330, z330⟩, st330⟩ := X278.virtualBack hx (y := y_0) (z := y_0) hown (mvT hZ (hw _ (wd 41 rfl))) (mvT hZ (hw _ (wd 42 rfl))) (notFace_of_selects (args := #[]) (mvT hZ (hw _ (wd 44 rfl)))) (mvT hZ (hw _ (wd 44 rfl))) (mvT hZ (hw _ (wd 43 rfl))) (by decide) (backOf (W := 0) (ew_9 l Z a0 hw [] a_PIPELINE_STARTED a_PIPELINE_RESUMED a_PIPELINE_COMPLETED a_PIPELINE_FAILED a_PIPELINE_STOPPED a_PIPELINE_CANCELLED a_STAGE_STARTED a_STAGE_COMPLETED a_STAGE_FAILED a_STAGE_RETRYING a_PARALLEL_STARTED a_PARALLEL_BRANCH_STARTED a_PARALLEL_BRANCH_COMPLETED a_PARALLEL_COMPLETED a_INTERVIEW_STARTED a_INTERVIEW_COMPLETED a_INTERVIEW_TIMEOUT a_CHECKPOINT_SAVED G  h278 n0 O_279 ) hZ (hw _ (wd 45 rfl)) (hw _ (wd 3 rfl)) (by decide) (by decide)) q330a q330c (g := (mkF m 153 #[iv q1, rv b152, iv 9, iv 0] [(.ref a_STAGE_RETRYING)])) rfl (by rw [hml]; rfl) (Steps.refl _) (argsL := []) (rest := []) (lenOf pd_0 rfl) rfl (by show 2 * 0 + _ ≤ _; exact Nat.le_of_eq rfl) (hb hby at_153) (fun _ _ => ⟨rfl, e278, (by decide : 1 + 0 ≤ _), (by decide : 18 + 0 ≤ _)⟩)
    dsimp only [Pt.U, Pt.locs, Pt.cells, Pt.slots] at X330 l330 y330 z330 st330 hQ330
    subst l330 y330 z330
    obtain ⟨rfl, N330q, e330⟩ := hQ330
    have N330 := Fr.app N278 N330q
    have k_331 : Go p.tables e below (s₁.setTop (entryFrame m #[(.int q1)] maxLocals)) (T330.setTop (mkF m 165 #[iv q1, rv b152, iv 9, iv 0] [(.int 1)])) := fun t q => by
      refine k_329 t ?_
      refine st330.trans ?_
      show Steps _ _ _ (T330.setTop (mkF m 156 #[iv q1, rv b152, iv 9, iv 0] [(.int 0)])) _
      refine XS.iloadN X330.here hx rfl (hb hby at_156) rfl ?_
      show Steps _ _ _ (T330.setTop (mkF m 157 #[iv q1, rv b152, iv 9, iv 0] [(.int 0), (.int 0)])) _
      refine XS.icmpNo X330.here hx rfl (hb hby at_157) rfl (by decide) ?_
      show Steps _ _ _ (T330.setTop (mkF m 160 #[iv q1, rv b152, iv 9, iv 0] [])) _
      refine XS.iconst X330.here hx rfl (hb hby at_160) ?_
      show Steps _ _ _ (T330.setTop (mkF m 161 #[iv q1, rv b152, iv 9, iv 0] [(.int 1)])) _
      refine XS.goto X330.here hx rfl (pc0 := 161) (pc' := 165) rfl (hb hby at_161) (by decide) (by decide) ?_
      show Steps _ _ _ (T330.setTop (mkF m 165 #[iv q1, rv b152, iv 9, iv 0] [(.int 1)])) _
      exact q
    obtain ⟨fs, hr, hrun, hended, hW, hsame⟩ := X330.leave (v := some (.int 1)) (fun h => by rw [Bd.returns] at h; cases h)
    refine ⟨_, _, k_331 _ ?_, hrun, hended, _, _, rfl, ?_, ⟨_, rfl⟩, hW, hsame.mono (by decide) (by decide)⟩
    · exact retN X330 hx (t := .boolean) Bd.returns (by simp) (hb hby at_165) hr
    · show Q0 n0 _ T330.heap _
      rw [e330]
      exact ⟨rfl, N330⟩
  · skip
    have k_332 : Go p.tables e below (s₁.setTop (entryFrame m #[(.int q1)] maxLocals)) (T278.setTop (mkF m 152 #[iv q1, rv b152, iv 10, iv 0] [(.int 10), (.ref b152)])) := fun t q => by
      refine k_281 t ?_
      refine XS.astoreN X278.here hx rfl (hb hby at_125) rfl rfl (l' := #[iv q1, rv b152, .unset, .unset]) rfl ?_
      show Steps _ _ _ (T278.setTop (mkF m 126 #[iv q1, rv b152, .unset, .unset] [])) _
      refine XS.iloadN X278.here hx rfl (hb hby at_126) rfl ?_
      show Steps _ _ _ (T278.setTop (mkF m 127 #[iv q1, rv b152, .unset, .unset] [(.int q1)])) _
      refine X278.ldcInt hx hown (mvT hZ (hw _ (wd 40 rfl))) (g := (mkF m 127 #[iv q1, rv b152, .unset, .unset] [(.int q1)])) rfl (hb hby at_127) _ ?_
      show Steps _ _ _ (T278.setTop (mkF m 129 #[iv q1, rv b152, .unset, .unset] [(.int 2147483647), (.int q1)])) _
      refine XS.iand X278.here hx rfl (hb hby at_129) rfl ?_
      show Steps _ _ _ (T278.setTop (mkF m 130 #[iv q1, rv b152, .unset, .unset] [(.int (q1 &&& (2147483647 : Int32)))])) _
      refine XS.bipush X278.here hx rfl (hb hby at_130) ?_
      show Steps _ _ _ (T278.setTop (mkF m 132 #[iv q1, rv b152, .unset, .unset] [(.int 18), (.int (q1 &&& (2147483647 : Int32)))])) _
      refine iremM (g := (mkF m 132 #[iv q1, rv b152, .unset, .unset] [(.int 18), (.int (q1 &&& (2147483647 : Int32)))])) X278 hx rfl (hb hby at_132) rfl (by decide) ?_
      show Steps _ _ _ (T278.setTop (mkF m 133 #[iv q1, rv b152, .unset, .unset] [(.int ((q1 &&& (2147483647 : Int32)) % (18 : Int32)))])) _
      rw [hi]
      show Steps _ _ _ (T278.setTop (mkF m 133 #[iv q1, rv b152, .unset, .unset] [(.int 10)])) _
      refine XS.istoreN X278.here hx rfl (hb hby at_133) rfl (l' := #[iv q1, rv b152, iv 10, .unset]) rfl ?_
      show Steps _ _ _ (T278.setTop (mkF m 134 #[iv q1, rv b152, iv 10, .unset] [])) _
      refine XS.iloadN X278.here hx rfl (hb hby at_134) rfl ?_
      show Steps _ _ _ (T278.setTop (mkF m 135 #[iv q1, rv b152, iv 10, .unset] [(.int 10)])) _
      refine XS.iconst X278.here hx rfl (hb hby at_135) ?_
      show Steps _ _ _ (T278.setTop (mkF m 136 #[iv q1, rv b152, iv 10, .unset] [(.int 2), (.int 10)])) _
      refine XS.icmpNo X278.here hx rfl (hb hby at_136) rfl (by decide) ?_
      show Steps _ _ _ (T278.setTop (mkF m 139 #[iv q1, rv b152, iv 10, .unset] [])) _
      refine XS.iloadN X278.here hx rfl (hb hby at_139) rfl ?_
      show Steps _ _ _ (T278.setTop (mkF m 140 #[iv q1, rv b152, iv 10, .unset] [(.int 10)])) _
      refine XS.iconst X278.here hx rfl (hb hby at_140) ?_
      show Steps _ _ _ (T278.setTop (mkF m 141 #[iv q1, rv b152, iv 10, .unset] [(.int 5), (.int 10)])) _
      refine XS.icmpYes X278.here hx rfl (pc0 := 141) (pc' := 148) rfl (hb hby at_141) rfl (by decide) (by decide) (by decide) ?_
      show Steps _ _ _ (T278.setTop (mkF m 148 #[iv q1, rv b152, iv 10, .unset] [])) _
      refine XS.iconst X278.here hx rfl (hb hby at_148) ?_
      show Steps _ _ _ (T278.setTop (mkF m 149 #[iv q1, rv b152, iv 10, .unset] [(.int 0)])) _
      refine XS.istoreN X278.here hx rfl (hb hby at_149) rfl (l' := #[iv q1, rv b152, iv 10, iv 0]) rfl ?_
      show Steps _ _ _ (T278.setTop (mkF m 150 #[iv q1, rv b152, iv 10, iv 0] [])) _
      refine XS.aloadN X278.here hx rfl (hb hby at_150) rfl rfl ?_
      show Steps _ _ _ (T278.setTop (mkF m 151 #[iv q1, rv b152, iv 10, iv 0] [(.ref b152)])) _
      refine XS.iloadN X278.here hx rfl (hb hby at_151) rfl ?_
      show Steps _ _ _ (T278.setTop (mkF m 152 #[iv q1, rv b152, iv 10, iv 0] [(.int 10), (.ref b152)])) _
      exact q
    obtain ⟨cl333, Ar333, q333, S333, M333, H333, G333⟩ := B278
    have hin333 : ¬ ((10 : Int32) < 0 ∨ cl333.slots.size ≤ ((10 : Int32)).toNatClampNeg) := inb_of S333 ⟨by decide, by decide⟩
    have hat333 : cl333.slots[((10 : Int32)).toNatClampNeg]? = some (.ref a_PARALLEL_STARTED) := Has.at H333 hin333 rfl
    have k_334 : Go p.tables e below (s₁.setTop (entryFrame m #[(.int q1)] maxLocals)) (T278.setTop (mkF m 153 #[iv q1, rv b152, iv 10, iv 0] [(.ref a_PARALLEL_STARTED)])) := fun t q => by
      refine k_332 t ?_
      refine X278.aaload hx (j := (10 : Int32)) (v := (.ref a_PARALLEL_STARTED)) (by rw [e278]; exact Ar333.1) (State.isArrayOf_alike hZ.alike Ar333.2.1) rfl Ar333.2.2 hin333 hat333 (g := (mkF m 152 #[iv q1, rv b152, iv 10, iv 0] [(.int 10), (.ref b152)])) rfl rfl (hb hby at_152) _ ?_
      show Steps _ _ _ (T278.setTop (mkF m 153 #[iv q1, rv b152, iv 10, iv 0] [(.ref a_PARALLEL_STARTED)])) _
      exact q
    obtain ⟨cq335, kq335, q335a, q335b, q335c⟩ := isOf hZ e278 (Exa.ext O_279.2 E_PARALLEL_STARTED)
    obtain ⟨_, _, ⟨T335, L335, k335, n335⟩, -, X335, ⟨Lc335, hQ335, l335, y335, z335⟩, st335⟩ := X278.virtualBack hx (y := y_0) (z := y_0) hown (mvT hZ (hw _ (wd 41 rfl))) (mvT hZ (hw _ (wd 42 rfl))) (notFace_of_selects (args := #[]) (mvT hZ (hw _ (wd 44 rfl)))) (mvT hZ (hw _ (wd 44 rfl))) (mvT hZ (hw _ (wd 43 rfl))) (by decide) (backOf (W := 0) (ew_10 l Z a0 hw [] a_PIPELINE_STARTED a_PIPELINE_RESUMED a_PIPELINE_COMPLETED a_PIPELINE_FAILED a_PIPELINE_STOPPED a_PIPELINE_CANCELLED a_STAGE_STARTED a_STAGE_COMPLETED a_STAGE_FAILED a_STAGE_RETRYING a_PARALLEL_STARTED a_PARALLEL_BRANCH_STARTED a_PARALLEL_BRANCH_COMPLETED a_PARALLEL_COMPLETED a_INTERVIEW_STARTED a_INTERVIEW_COMPLETED a_INTERVIEW_TIMEOUT a_CHECKPOINT_SAVED G  h278 n0 O_279 ) hZ (hw _ (wd 45 rfl)) (hw _ (wd 3 rfl)) (by decide) (by decide)) q335a q335c (g := (mkF m 153 #[iv q1, rv b152, iv 10, iv 0] [(.ref a_PARALLEL_STARTED)])) rfl (by rw [hml]; rfl) (Steps.refl _) (argsL := []) (rest := []) (lenOf pd_0 rfl) rfl (by show 2 * 0 + _ ≤ _; exact Nat.le_of_eq rfl) (hb hby at_153) (fun _ _ => ⟨rfl, e278, (by decide : 1 + 0 ≤ _), (by decide : 18 + 0 ≤ _)⟩)
    dsimp only [Pt.U, Pt.locs, Pt.cells, Pt.slots] at X335 l335 y335 z335 st335 hQ335
    subst l335 y335 z335
    obtain ⟨rfl, N335q, e335⟩ := hQ335
    have N335 := Fr.app N278 N335q
    have k_336 : Go p.tables e below (s₁.setTop (entryFrame m #[(.int q1)] maxLocals)) (T335.setTop (mkF m 165 #[iv q1, rv b152, iv 10, iv 0] [(.int 1)])) := fun t q => by
      refine k_334 t ?_
      refine st335.trans ?_
      show Steps _ _ _ (T335.setTop (mkF m 156 #[iv q1, rv b152, iv 10, iv 0] [(.int 0)])) _
      refine XS.iloadN X335.here hx rfl (hb hby at_156) rfl ?_
      show Steps _ _ _ (T335.setTop (mkF m 157 #[iv q1, rv b152, iv 10, iv 0] [(.int 0), (.int 0)])) _
      refine XS.icmpNo X335.here hx rfl (hb hby at_157) rfl (by decide) ?_
      show Steps _ _ _ (T335.setTop (mkF m 160 #[iv q1, rv b152, iv 10, iv 0] [])) _
      refine XS.iconst X335.here hx rfl (hb hby at_160) ?_
      show Steps _ _ _ (T335.setTop (mkF m 161 #[iv q1, rv b152, iv 10, iv 0] [(.int 1)])) _
      refine XS.goto X335.here hx rfl (pc0 := 161) (pc' := 165) rfl (hb hby at_161) (by decide) (by decide) ?_
      show Steps _ _ _ (T335.setTop (mkF m 165 #[iv q1, rv b152, iv 10, iv 0] [(.int 1)])) _
      exact q
    obtain ⟨fs, hr, hrun, hended, hW, hsame⟩ := X335.leave (v := some (.int 1)) (fun h => by rw [Bd.returns] at h; cases h)
    refine ⟨_, _, k_336 _ ?_, hrun, hended, _, _, rfl, ?_, ⟨_, rfl⟩, hW, hsame.mono (by decide) (by decide)⟩
    · exact retN X335 hx (t := .boolean) Bd.returns (by simp) (hb hby at_165) hr
    · show Q0 n0 _ T335.heap _
      rw [e335]
      exact ⟨rfl, N335⟩
  · skip
    have k_337 : Go p.tables e below (s₁.setTop (entryFrame m #[(.int q1)] maxLocals)) (T278.setTop (mkF m 152 #[iv q1, rv b152, iv 11, iv 0] [(.int 11), (.ref b152)])) := fun t q => by
      refine k_281 t ?_
      refine XS.astoreN X278.here hx rfl (hb hby at_125) rfl rfl (l' := #[iv q1, rv b152, .unset, .unset]) rfl ?_
      show Steps _ _ _ (T278.setTop (mkF m 126 #[iv q1, rv b152, .unset, .unset] [])) _
      refine XS.iloadN X278.here hx rfl (hb hby at_126) rfl ?_
      show Steps _ _ _ (T278.setTop (mkF m 127 #[iv q1, rv b152, .unset, .unset] [(.int q1)])) _
      refine X278.ldcInt hx hown (mvT hZ (hw _ (wd 40 rfl))) (g := (mkF m 127 #[iv q1, rv b152, .unset, .unset] [(.int q1)])) rfl (hb hby at_127) _ ?_
      show Steps _ _ _ (T278.setTop (mkF m 129 #[iv q1, rv b152, .unset, .unset] [(.int 2147483647), (.int q1)])) _
      refine XS.iand X278.here hx rfl (hb hby at_129) rfl ?_
      show Steps _ _ _ (T278.setTop (mkF m 130 #[iv q1, rv b152, .unset, .unset] [(.int (q1 &&& (2147483647 : Int32)))])) _
      refine XS.bipush X278.here hx rfl (hb hby at_130) ?_
      show Steps _ _ _ (T278.setTop (mkF m 132 #[iv q1, rv b152, .unset, .unset] [(.int 18), (.int (q1 &&& (2147483647 : Int32)))])) _
      refine iremM (g := (mkF m 132 #[iv q1, rv b152, .unset, .unset] [(.int 18), (.int (q1 &&& (2147483647 : Int32)))])) X278 hx rfl (hb hby at_132) rfl (by decide) ?_
      show Steps _ _ _ (T278.setTop (mkF m 133 #[iv q1, rv b152, .unset, .unset] [(.int ((q1 &&& (2147483647 : Int32)) % (18 : Int32)))])) _
      rw [hi]
      show Steps _ _ _ (T278.setTop (mkF m 133 #[iv q1, rv b152, .unset, .unset] [(.int 11)])) _
      refine XS.istoreN X278.here hx rfl (hb hby at_133) rfl (l' := #[iv q1, rv b152, iv 11, .unset]) rfl ?_
      show Steps _ _ _ (T278.setTop (mkF m 134 #[iv q1, rv b152, iv 11, .unset] [])) _
      refine XS.iloadN X278.here hx rfl (hb hby at_134) rfl ?_
      show Steps _ _ _ (T278.setTop (mkF m 135 #[iv q1, rv b152, iv 11, .unset] [(.int 11)])) _
      refine XS.iconst X278.here hx rfl (hb hby at_135) ?_
      show Steps _ _ _ (T278.setTop (mkF m 136 #[iv q1, rv b152, iv 11, .unset] [(.int 2), (.int 11)])) _
      refine XS.icmpNo X278.here hx rfl (hb hby at_136) rfl (by decide) ?_
      show Steps _ _ _ (T278.setTop (mkF m 139 #[iv q1, rv b152, iv 11, .unset] [])) _
      refine XS.iloadN X278.here hx rfl (hb hby at_139) rfl ?_
      show Steps _ _ _ (T278.setTop (mkF m 140 #[iv q1, rv b152, iv 11, .unset] [(.int 11)])) _
      refine XS.iconst X278.here hx rfl (hb hby at_140) ?_
      show Steps _ _ _ (T278.setTop (mkF m 141 #[iv q1, rv b152, iv 11, .unset] [(.int 5), (.int 11)])) _
      refine XS.icmpYes X278.here hx rfl (pc0 := 141) (pc' := 148) rfl (hb hby at_141) rfl (by decide) (by decide) (by decide) ?_
      show Steps _ _ _ (T278.setTop (mkF m 148 #[iv q1, rv b152, iv 11, .unset] [])) _
      refine XS.iconst X278.here hx rfl (hb hby at_148) ?_
      show Steps _ _ _ (T278.setTop (mkF m 149 #[iv q1, rv b152, iv 11, .unset] [(.int 0)])) _
      refine XS.istoreN X278.here hx rfl (hb hby at_149) rfl (l' := #[iv q1, rv b152, iv 11, iv 0]) rfl ?_
      show Steps _ _ _ (T278.setTop (mkF m 150 #[iv q1, rv b152, iv 11, iv 0] [])) _
      refine XS.aloadN X278.here hx rfl (hb hby at_150) rfl rfl ?_
      show Steps _ _ _ (T278.setTop (mkF m 151 #[iv q1, rv b152, iv 11, iv 0] [(.ref b152)])) _
      refine XS.iloadN X278.here hx rfl (hb hby at_151) rfl ?_
      show Steps _ _ _ (T278.setTop (mkF m 152 #[iv q1, rv b152, iv 11, iv 0] [(.int 11), (.ref b152)])) _
      exact q
    obtain ⟨cl338, Ar338, q338, S338, M338, H338, G338⟩ := B278
    have hin338 : ¬ ((11 : Int32) < 0 ∨ cl338.slots.size ≤ ((11 : Int32)).toNatClampNeg) := inb_of S338 ⟨by decide, by decide⟩
    have hat338 : cl338.slots[((11 : Int32)).toNatClampNeg]? = some (.ref a_PARALLEL_BRANCH_STARTED) := Has.at H338 hin338 rfl
    have k_339 : Go p.tables e below (s₁.setTop (entryFrame m #[(.int q1)] maxLocals)) (T278.setTop (mkF m 153 #[iv q1, rv b152, iv 11, iv 0] [(.ref a_PARALLEL_BRANCH_STARTED)])) := fun t q => by
      refine k_337 t ?_
      refine X278.aaload hx (j := (11 : Int32)) (v := (.ref a_PARALLEL_BRANCH_STARTED)) (by rw [e278]; exact Ar338.1) (State.isArrayOf_alike hZ.alike Ar338.2.1) rfl Ar338.2.2 hin338 hat338 (g := (mkF m 152 #[iv q1, rv b152, iv 11, iv 0] [(.int 11), (.ref b152)])) rfl rfl (hb hby at_152) _ ?_
      show Steps _ _ _ (T278.setTop (mkF m 153 #[iv q1, rv b152, iv 11, iv 0] [(.ref a_PARALLEL_BRANCH_STARTED)])) _
      exact q
    obtain ⟨cq340, kq340, q340a, q340b, q340c⟩ := isOf hZ e278 (Exa.ext O_279.2 E_PARALLEL_BRANCH_STARTED)
    obtain ⟨_, _, ⟨T340, L340, k340, n340⟩, -, X340, ⟨Lc340, hQ340, l340, y340, z340⟩, st340⟩ := X278.virtualBack hx (y := y_0) (z := y_0) hown (mvT hZ (hw _ (wd 41 rfl))) (mvT hZ (hw _ (wd 42 rfl))) (notFace_of_selects (args := #[]) (mvT hZ (hw _ (wd 44 rfl)))) (mvT hZ (hw _ (wd 44 rfl))) (mvT hZ (hw _ (wd 43 rfl))) (by decide) (backOf (W := 0) (ew_11 l Z a0 hw [] a_PIPELINE_STARTED a_PIPELINE_RESUMED a_PIPELINE_COMPLETED a_PIPELINE_FAILED a_PIPELINE_STOPPED a_PIPELINE_CANCELLED a_STAGE_STARTED a_STAGE_COMPLETED a_STAGE_FAILED a_STAGE_RETRYING a_PARALLEL_STARTED a_PARALLEL_BRANCH_STARTED a_PARALLEL_BRANCH_COMPLETED a_PARALLEL_COMPLETED a_INTERVIEW_STARTED a_INTERVIEW_COMPLETED a_INTERVIEW_TIMEOUT a_CHECKPOINT_SAVED G  h278 n0 O_279 ) hZ (hw _ (wd 45 rfl)) (hw _ (wd 3 rfl)) (by decide) (by decide)) q340a q340c (g := (mkF m 153 #[iv q1, rv b152, iv 11, iv 0] [(.ref a_PARALLEL_BRANCH_STARTED)])) rfl (by rw [hml]; rfl) (Steps.refl _) (argsL := []) (rest := []) (lenOf pd_0 rfl) rfl (by show 2 * 0 + _ ≤ _; exact Nat.le_of_eq rfl) (hb hby at_153) (fun _ _ => ⟨rfl, e278, (by decide : 1 + 0 ≤ _), (by decide : 18 + 0 ≤ _)⟩)
    dsimp only [Pt.U, Pt.locs, Pt.cells, Pt.slots] at X340 l340 y340 z340 st340 hQ340
    subst l340 y340 z340
    obtain ⟨rfl, N340q, e340⟩ := hQ340
    have N340 := Fr.app N278 N340q
    have k_341 : Go p.tables e below (s₁.setTop (entryFrame m #[(.int q1)] maxLocals)) (T340.setTop (mkF m 165 #[iv q1, rv b152, iv 11, iv 0] [(.int 1)])) := fun t q => by
      refine k_339 t ?_
      refine st340.trans ?_
      show Steps _ _ _ (T340.setTop (mkF m 156 #[iv q1, rv b152, iv 11, iv 0] [(.int 0)])) _
      refine XS.iloadN X340.here hx rfl (hb hby at_156) rfl ?_
      show Steps _ _ _ (T340.setTop (mkF m 157 #[iv q1, rv b152, iv 11, iv 0] [(.int 0), (.int 0)])) _
      refine XS.icmpNo X340.here hx rfl (hb hby at_157) rfl (by decide) ?_
      show Steps _ _ _ (T340.setTop (mkF m 160 #[iv q1, rv b152, iv 11, iv 0] [])) _
      refine XS.iconst X340.here hx rfl (hb hby at_160) ?_
      show Steps _ _ _ (T340.setTop (mkF m 161 #[iv q1, rv b152, iv 11, iv 0] [(.int 1)])) _
      refine XS.goto X340.here hx rfl (pc0 := 161) (pc' := 165) rfl (hb hby at_161) (by decide) (by decide) ?_
      show Steps _ _ _ (T340.setTop (mkF m 165 #[iv q1, rv b152, iv 11, iv 0] [(.int 1)])) _
      exact q
    obtain ⟨fs, hr, hrun, hended, hW, hsame⟩ := X340.leave (v := some (.int 1)) (fun h => by rw [Bd.returns] at h; cases h)
    refine ⟨_, _, k_341 _ ?_, hrun, hended, _, _, rfl, ?_, ⟨_, rfl⟩, hW, hsame.mono (by decide) (by decide)⟩
    · exact retN X340 hx (t := .boolean) Bd.returns (by simp) (hb hby at_165) hr
    · show Q0 n0 _ T340.heap _
      rw [e340]
      exact ⟨rfl, N340⟩
  · skip
    have k_342 : Go p.tables e below (s₁.setTop (entryFrame m #[(.int q1)] maxLocals)) (T278.setTop (mkF m 152 #[iv q1, rv b152, iv 12, iv 0] [(.int 12), (.ref b152)])) := fun t q => by
      refine k_281 t ?_
      refine XS.astoreN X278.here hx rfl (hb hby at_125) rfl rfl (l' := #[iv q1, rv b152, .unset, .unset]) rfl ?_
      show Steps _ _ _ (T278.setTop (mkF m 126 #[iv q1, rv b152, .unset, .unset] [])) _
      refine XS.iloadN X278.here hx rfl (hb hby at_126) rfl ?_
      show Steps _ _ _ (T278.setTop (mkF m 127 #[iv q1, rv b152, .unset, .unset] [(.int q1)])) _
      refine X278.ldcInt hx hown (mvT hZ (hw _ (wd 40 rfl))) (g := (mkF m 127 #[iv q1, rv b152, .unset, .unset] [(.int q1)])) rfl (hb hby at_127) _ ?_
      show Steps _ _ _ (T278.setTop (mkF m 129 #[iv q1, rv b152, .unset, .unset] [(.int 2147483647), (.int q1)])) _
      refine XS.iand X278.here hx rfl (hb hby at_129) rfl ?_
      show Steps _ _ _ (T278.setTop (mkF m 130 #[iv q1, rv b152, .unset, .unset] [(.int (q1 &&& (2147483647 : Int32)))])) _
      refine XS.bipush X278.here hx rfl (hb hby at_130) ?_
      show Steps _ _ _ (T278.setTop (mkF m 132 #[iv q1, rv b152, .unset, .unset] [(.int 18), (.int (q1 &&& (2147483647 : Int32)))])) _
      refine iremM (g := (mkF m 132 #[iv q1, rv b152, .unset, .unset] [(.int 18), (.int (q1 &&& (2147483647 : Int32)))])) X278 hx rfl (hb hby at_132) rfl (by decide) ?_
      show Steps _ _ _ (T278.setTop (mkF m 133 #[iv q1, rv b152, .unset, .unset] [(.int ((q1 &&& (2147483647 : Int32)) % (18 : Int32)))])) _
      rw [hi]
      show Steps _ _ _ (T278.setTop (mkF m 133 #[iv q1, rv b152, .unset, .unset] [(.int 12)])) _
      refine XS.istoreN X278.here hx rfl (hb hby at_133) rfl (l' := #[iv q1, rv b152, iv 12, .unset]) rfl ?_
      show Steps _ _ _ (T278.setTop (mkF m 134 #[iv q1, rv b152, iv 12, .unset] [])) _
      refine XS.iloadN X278.here hx rfl (hb hby at_134) rfl ?_
      show Steps _ _ _ (T278.setTop (mkF m 135 #[iv q1, rv b152, iv 12, .unset] [(.int 12)])) _
      refine XS.iconst X278.here hx rfl (hb hby at_135) ?_
      show Steps _ _ _ (T278.setTop (mkF m 136 #[iv q1, rv b152, iv 12, .unset] [(.int 2), (.int 12)])) _
      refine XS.icmpNo X278.here hx rfl (hb hby at_136) rfl (by decide) ?_
      show Steps _ _ _ (T278.setTop (mkF m 139 #[iv q1, rv b152, iv 12, .unset] [])) _
      refine XS.iloadN X278.here hx rfl (hb hby at_139) rfl ?_
      show Steps _ _ _ (T278.setTop (mkF m 140 #[iv q1, rv b152, iv 12, .unset] [(.int 12)])) _
      refine XS.iconst X278.here hx rfl (hb hby at_140) ?_
      show Steps _ _ _ (T278.setTop (mkF m 141 #[iv q1, rv b152, iv 12, .unset] [(.int 5), (.int 12)])) _
      refine XS.icmpYes X278.here hx rfl (pc0 := 141) (pc' := 148) rfl (hb hby at_141) rfl (by decide) (by decide) (by decide) ?_
      show Steps _ _ _ (T278.setTop (mkF m 148 #[iv q1, rv b152, iv 12, .unset] [])) _
      refine XS.iconst X278.here hx rfl (hb hby at_148) ?_
      show Steps _ _ _ (T278.setTop (mkF m 149 #[iv q1, rv b152, iv 12, .unset] [(.int 0)])) _
      refine XS.istoreN X278.here hx rfl (hb hby at_149) rfl (l' := #[iv q1, rv b152, iv 12, iv 0]) rfl ?_
      show Steps _ _ _ (T278.setTop (mkF m 150 #[iv q1, rv b152, iv 12, iv 0] [])) _
      refine XS.aloadN X278.here hx rfl (hb hby at_150) rfl rfl ?_
      show Steps _ _ _ (T278.setTop (mkF m 151 #[iv q1, rv b152, iv 12, iv 0] [(.ref b152)])) _
      refine XS.iloadN X278.here hx rfl (hb hby at_151) rfl ?_
      show Steps _ _ _ (T278.setTop (mkF m 152 #[iv q1, rv b152, iv 12, iv 0] [(.int 12), (.ref b152)])) _
      exact q
    obtain ⟨cl343, Ar343, q343, S343, M343, H343, G343⟩ := B278
    have hin343 : ¬ ((12 : Int32) < 0 ∨ cl343.slots.size ≤ ((12 : Int32)).toNatClampNeg) := inb_of S343 ⟨by decide, by decide⟩
    have hat343 : cl343.slots[((12 : Int32)).toNatClampNeg]? = some (.ref a_PARALLEL_BRANCH_COMPLETED) := Has.at H343 hin343 rfl
    have k_344 : Go p.tables e below (s₁.setTop (entryFrame m #[(.int q1)] maxLocals)) (T278.setTop (mkF m 153 #[iv q1, rv b152, iv 12, iv 0] [(.ref a_PARALLEL_BRANCH_COMPLETED)])) := fun t q => by
      refine k_342 t ?_
      refine X278.aaload hx (j := (12 : Int32)) (v := (.ref a_PARALLEL_BRANCH_COMPLETED)) (by rw [e278]; exact Ar343.1) (State.isArrayOf_alike hZ.alike Ar343.2.1) rfl Ar343.2.2 hin343 hat343 (g := (mkF m 152 #[iv q1, rv b152, iv 12, iv 0] [(.int 12), (.ref b152)])) rfl rfl (hb hby at_152) _ ?_
      show Steps _ _ _ (T278.setTop (mkF m 153 #[iv q1, rv b152, iv 12, iv 0] [(.ref a_PARALLEL_BRANCH_COMPLETED)])) _
      exact q
    obtain ⟨cq345, kq345, q345a, q345b, q345c⟩ := isOf hZ e278 (Exa.ext O_279.2 E_PARALLEL_BRANCH_COMPLETED)
    obtain ⟨_, _, ⟨T345, L345, k345, n345⟩, -, X345, ⟨Lc345, hQ345, l345, y345, z345⟩, st345⟩ := X278.virtualBack hx (y := y_0) (z := y_0) hown (mvT hZ (hw _ (wd 41 rfl))) (mvT hZ (hw _ (wd 42 rfl))) (notFace_of_selects (args := #[]) (mvT hZ (hw _ (wd 44 rfl)))) (mvT hZ (hw _ (wd 44 rfl))) (mvT hZ (hw _ (wd 43 rfl))) (by decide) (backOf (W := 0) (ew_12 l Z a0 hw [] a_PIPELINE_STARTED a_PIPELINE_RESUMED a_PIPELINE_COMPLETED a_PIPELINE_FAILED a_PIPELINE_STOPPED a_PIPELINE_CANCELLED a_STAGE_STARTED a_STAGE_COMPLETED a_STAGE_FAILED a_STAGE_RETRYING a_PARALLEL_STARTED a_PARALLEL_BRANCH_STARTED a_PARALLEL_BRANCH_COMPLETED a_PARALLEL_COMPLETED a_INTERVIEW_STARTED a_INTERVIEW_COMPLETED a_INTERVIEW_TIMEOUT a_CHECKPOINT_SAVED G  h278 n0 O_279 ) hZ (hw _ (wd 45 rfl)) (hw _ (wd 3 rfl)) (by decide) (by decide)) q345a q345c (g := (mkF m 153 #[iv q1, rv b152, iv 12, iv 0] [(.ref a_PARALLEL_BRANCH_COMPLETED)])) rfl (by rw [hml]; rfl) (Steps.refl _) (argsL := []) (rest := []) (lenOf pd_0 rfl) rfl (by show 2 * 0 + _ ≤ _; exact Nat.le_of_eq rfl) (hb hby at_153) (fun _ _ => ⟨rfl, e278, (by decide : 1 + 0 ≤ _), (by decide : 18 + 0 ≤ _)⟩)
    dsimp only [Pt.U, Pt.locs, Pt.cells, Pt.slots] at X345 l345 y345 z345 st345 hQ345
    subst l345 y345 z345
    obtain ⟨rfl, N345q, e345⟩ := hQ345
    have N345 := Fr.app N278 N345q
    have k_346 : Go p.tables e below (s₁.setTop (entryFrame m #[(.int q1)] maxLocals)) (T345.setTop (mkF m 165 #[iv q1, rv b152, iv 12, iv 0] [(.int 1)])) := fun t q => by
      refine k_344 t ?_
      refine st345.trans ?_
      show Steps _ _ _ (T345.setTop (mkF m 156 #[iv q1, rv b152, iv 12, iv 0] [(.int 0)])) _
      refine XS.iloadN X345.here hx rfl (hb hby at_156) rfl ?_
      show Steps _ _ _ (T345.setTop (mkF m 157 #[iv q1, rv b152, iv 12, iv 0] [(.int 0), (.int 0)])) _
      refine XS.icmpNo X345.here hx rfl (hb hby at_157) rfl (by decide) ?_
      show Steps _ _ _ (T345.setTop (mkF m 160 #[iv q1, rv b152, iv 12, iv 0] [])) _
      refine XS.iconst X345.here hx rfl (hb hby at_160) ?_
      show Steps _ _ _ (T345.setTop (mkF m 161 #[iv q1, rv b152, iv 12, iv 0] [(.int 1)])) _
      refine XS.goto X345.here hx rfl (pc0 := 161) (pc' := 165) rfl (hb hby at_161) (by decide) (by decide) ?_
      show Steps _ _ _ (T345.setTop (mkF m 165 #[iv q1, rv b152, iv 12, iv 0] [(.int 1)])) _
      exact q
    obtain ⟨fs, hr, hrun, hended, hW, hsame⟩ := X345.leave (v := some (.int 1)) (fun h => by rw [Bd.returns] at h; cases h)
    refine ⟨_, _, k_346 _ ?_, hrun, hended, _, _, rfl, ?_, ⟨_, rfl⟩, hW, hsame.mono (by decide) (by decide)⟩
    · exact retN X345 hx (t := .boolean) Bd.returns (by simp) (hb hby at_165) hr
    · show Q0 n0 _ T345.heap _
      rw [e345]
      exact ⟨rfl, N345⟩
  · skip
    have k_347 : Go p.tables e below (s₁.setTop (entryFrame m #[(.int q1)] maxLocals)) (T278.setTop (mkF m 152 #[iv q1, rv b152, iv 13, iv 0] [(.int 13), (.ref b152)])) := fun t q => by
      refine k_281 t ?_
      refine XS.astoreN X278.here hx rfl (hb hby at_125) rfl rfl (l' := #[iv q1, rv b152, .unset, .unset]) rfl ?_
      show Steps _ _ _ (T278.setTop (mkF m 126 #[iv q1, rv b152, .unset, .unset] [])) _
      refine XS.iloadN X278.here hx rfl (hb hby at_126) rfl ?_
      show Steps _ _ _ (T278.setTop (mkF m 127 #[iv q1, rv b152, .unset, .unset] [(.int q1)])) _
      refine X278.ldcInt hx hown (mvT hZ (hw _ (wd 40 rfl))) (g := (mkF m 127 #[iv q1, rv b152, .unset, .unset] [(.int q1)])) rfl (hb hby at_127) _ ?_
      show Steps _ _ _ (T278.setTop (mkF m 129 #[iv q1, rv b152, .unset, .unset] [(.int 2147483647), (.int q1)])) _
      refine XS.iand X278.here hx rfl (hb hby at_129) rfl ?_
      show Steps _ _ _ (T278.setTop (mkF m 130 #[iv q1, rv b152, .unset, .unset] [(.int (q1 &&& (2147483647 : Int32)))])) _
      refine XS.bipush X278.here hx rfl (hb hby at_130) ?_
      show Steps _ _ _ (T278.setTop (mkF m 132 #[iv q1, rv b152, .unset, .unset] [(.int 18), (.int (q1 &&& (2147483647 : Int32)))])) _
      refine iremM (g := (mkF m 132 #[iv q1, rv b152, .unset, .unset] [(.int 18), (.int (q1 &&& (2147483647 : Int32)))])) X278 hx rfl (hb hby at_132) rfl (by decide) ?_
      show Steps _ _ _ (T278.setTop (mkF m 133 #[iv q1, rv b152, .unset, .unset] [(.int ((q1 &&& (2147483647 : Int32)) % (18 : Int32)))])) _
      rw [hi]
      show Steps _ _ _ (T278.setTop (mkF m 133 #[iv q1, rv b152, .unset, .unset] [(.int 13)])) _
      refine XS.istoreN X278.here hx rfl (hb hby at_133) rfl (l' := #[iv q1, rv b152, iv 13, .unset]) rfl ?_
      show Steps _ _ _ (T278.setTop (mkF m 134 #[iv q1, rv b152, iv 13, .unset] [])) _
      refine XS.iloadN X278.here hx rfl (hb hby at_134) rfl ?_
      show Steps _ _ _ (T278.setTop (mkF m 135 #[iv q1, rv b152, iv 13, .unset] [(.int 13)])) _
      refine XS.iconst X278.here hx rfl (hb hby at_135) ?_
      show Steps _ _ _ (T278.setTop (mkF m 136 #[iv q1, rv b152, iv 13, .unset] [(.int 2), (.int 13)])) _
      refine XS.icmpNo X278.here hx rfl (hb hby at_136) rfl (by decide) ?_
      show Steps _ _ _ (T278.setTop (mkF m 139 #[iv q1, rv b152, iv 13, .unset] [])) _
      refine XS.iloadN X278.here hx rfl (hb hby at_139) rfl ?_
      show Steps _ _ _ (T278.setTop (mkF m 140 #[iv q1, rv b152, iv 13, .unset] [(.int 13)])) _
      refine XS.iconst X278.here hx rfl (hb hby at_140) ?_
      show Steps _ _ _ (T278.setTop (mkF m 141 #[iv q1, rv b152, iv 13, .unset] [(.int 5), (.int 13)])) _
      refine XS.icmpYes X278.here hx rfl (pc0 := 141) (pc' := 148) rfl (hb hby at_141) rfl (by decide) (by decide) (by decide) ?_
      show Steps _ _ _ (T278.setTop (mkF m 148 #[iv q1, rv b152, iv 13, .unset] [])) _
      refine XS.iconst X278.here hx rfl (hb hby at_148) ?_
      show Steps _ _ _ (T278.setTop (mkF m 149 #[iv q1, rv b152, iv 13, .unset] [(.int 0)])) _
      refine XS.istoreN X278.here hx rfl (hb hby at_149) rfl (l' := #[iv q1, rv b152, iv 13, iv 0]) rfl ?_
      show Steps _ _ _ (T278.setTop (mkF m 150 #[iv q1, rv b152, iv 13, iv 0] [])) _
      refine XS.aloadN X278.here hx rfl (hb hby at_150) rfl rfl ?_
      show Steps _ _ _ (T278.setTop (mkF m 151 #[iv q1, rv b152, iv 13, iv 0] [(.ref b152)])) _
      refine XS.iloadN X278.here hx rfl (hb hby at_151) rfl ?_
      show Steps _ _ _ (T278.setTop (mkF m 152 #[iv q1, rv b152, iv 13, iv 0] [(.int 13), (.ref b152)])) _
      exact q
    obtain ⟨cl348, Ar348, q348, S348, M348, H348, G348⟩ := B278
    have hin348 : ¬ ((13 : Int32) < 0 ∨ cl348.slots.size ≤ ((13 : Int32)).toNatClampNeg) := inb_of S348 ⟨by decide, by decide⟩
    have hat348 : cl348.slots[((13 : Int32)).toNatClampNeg]? = some (.ref a_PARALLEL_COMPLETED) := Has.at H348 hin348 rfl
    have k_349 : Go p.tables e below (s₁.setTop (entryFrame m #[(.int q1)] maxLocals)) (T278.setTop (mkF m 153 #[iv q1, rv b152, iv 13, iv 0] [(.ref a_PARALLEL_COMPLETED)])) := fun t q => by
      refine k_347 t ?_
      refine X278.aaload hx (j := (13 : Int32)) (v := (.ref a_PARALLEL_COMPLETED)) (by rw [e278]; exact Ar348.1) (State.isArrayOf_alike hZ.alike Ar348.2.1) rfl Ar348.2.2 hin348 hat348 (g := (mkF m 152 #[iv q1, rv b152, iv 13, iv 0] [(.int 13), (.ref b152)])) rfl rfl (hb hby at_152) _ ?_
      show Steps _ _ _ (T278.setTop (mkF m 153 #[iv q1, rv b152, iv 13, iv 0] [(.ref a_PARALLEL_COMPLETED)])) _
      exact q
    obtain ⟨cq350, kq350, q350a, q350b, q350c⟩ := isOf hZ e278 (Exa.ext O_279.2 E_PARALLEL_COMPLETED)
    obtain ⟨_, _, ⟨T350, L350, k350, n350⟩, -, X350, ⟨Lc350, hQ350, l350, y350, z350⟩, st350⟩ := X278.virtualBack hx (y := y_0) (z := y_0) hown (mvT hZ (hw _ (wd 41 rfl))) (mvT hZ (hw _ (wd 42 rfl))) (notFace_of_selects (args := #[]) (mvT hZ (hw _ (wd 44 rfl)))) (mvT hZ (hw _ (wd 44 rfl))) (mvT hZ (hw _ (wd 43 rfl))) (by decide) (backOf (W := 0) (ew_13 l Z a0 hw [] a_PIPELINE_STARTED a_PIPELINE_RESUMED a_PIPELINE_COMPLETED a_PIPELINE_FAILED a_PIPELINE_STOPPED a_PIPELINE_CANCELLED a_STAGE_STARTED a_STAGE_COMPLETED a_STAGE_FAILED a_STAGE_RETRYING a_PARALLEL_STARTED a_PARALLEL_BRANCH_STARTED a_PARALLEL_BRANCH_COMPLETED a_PARALLEL_COMPLETED a_INTERVIEW_STARTED a_INTERVIEW_COMPLETED a_INTERVIEW_TIMEOUT a_CHECKPOINT_SAVED G  h278 n0 O_279 ) hZ (hw _ (wd 45 rfl)) (hw _ (wd 3 rfl)) (by decide) (by decide)) q350a q350c (g := (mkF m 153 #[iv q1, rv b152, iv 13, iv 0] [(.ref a_PARALLEL_COMPLETED)])) rfl (by rw [hml]; rfl) (Steps.refl _) (argsL := []) (rest := []) (lenOf pd_0 rfl) rfl (by show 2 * 0 + _ ≤ _; exact Nat.le_of_eq rfl) (hb hby at_153) (fun _ _ => ⟨rfl, e278, (by decide : 1 + 0 ≤ _), (by decide : 18 + 0 ≤ _)⟩)
    dsimp only [Pt.U, Pt.locs, Pt.cells, Pt.slots] at X350 l350 y350 z350 st350 hQ350
    subst l350 y350 z350
    obtain ⟨rfl, N350q, e350⟩ := hQ350
    have N350 := Fr.app N278 N350q
    have k_351 : Go p.tables e below (s₁.setTop (entryFrame m #[(.int q1)] maxLocals)) (T350.setTop (mkF m 165 #[iv q1, rv b152, iv 13, iv 0] [(.int 1)])) := fun t q => by
      refine k_349 t ?_
      refine st350.trans ?_
      show Steps _ _ _ (T350.setTop (mkF m 156 #[iv q1, rv b152, iv 13, iv 0] [(.int 0)])) _
      refine XS.iloadN X350.here hx rfl (hb hby at_156) rfl ?_
      show Steps _ _ _ (T350.setTop (mkF m 157 #[iv q1, rv b152, iv 13, iv 0] [(.int 0), (.int 0)])) _
      refine XS.icmpNo X350.here hx rfl (hb hby at_157) rfl (by decide) ?_
      show Steps _ _ _ (T350.setTop (mkF m 160 #[iv q1, rv b152, iv 13, iv 0] [])) _
      refine XS.iconst X350.here hx rfl (hb hby at_160) ?_
      show Steps _ _ _ (T350.setTop (mkF m 161 #[iv q1, rv b152, iv 13, iv 0] [(.int 1)])) _
      refine XS.goto X350.here hx rfl (pc0 := 161) (pc' := 165) rfl (hb hby at_161) (by decide) (by decide) ?_
      show Steps _ _ _ (T350.setTop (mkF m 165 #[iv q1, rv b152, iv 13, iv 0] [(.int 1)])) _
      exact q
    obtain ⟨fs, hr, hrun, hended, hW, hsame⟩ := X350.leave (v := some (.int 1)) (fun h => by rw [Bd.returns] at h; cases h)
    refine ⟨_, _, k_351 _ ?_, hrun, hended, _, _, rfl, ?_, ⟨_, rfl⟩, hW, hsame.mono (by decide) (by decide)⟩
    · exact retN X350 hx (t := .boolean) Bd.returns (by simp) (hb hby at_165) hr
    · show Q0 n0 _ T350.heap _
      rw [e350]
      exact ⟨rfl, N350⟩
  · skip
    have k_352 : Go p.tables e below (s₁.setTop (entryFrame m #[(.int q1)] maxLocals)) (T278.setTop (mkF m 152 #[iv q1, rv b152, iv 14, iv 0] [(.int 14), (.ref b152)])) := fun t q => by
      refine k_281 t ?_
      refine XS.astoreN X278.here hx rfl (hb hby at_125) rfl rfl (l' := #[iv q1, rv b152, .unset, .unset]) rfl ?_
      show Steps _ _ _ (T278.setTop (mkF m 126 #[iv q1, rv b152, .unset, .unset] [])) _
      refine XS.iloadN X278.here hx rfl (hb hby at_126) rfl ?_
      show Steps _ _ _ (T278.setTop (mkF m 127 #[iv q1, rv b152, .unset, .unset] [(.int q1)])) _
      refine X278.ldcInt hx hown (mvT hZ (hw _ (wd 40 rfl))) (g := (mkF m 127 #[iv q1, rv b152, .unset, .unset] [(.int q1)])) rfl (hb hby at_127) _ ?_
      show Steps _ _ _ (T278.setTop (mkF m 129 #[iv q1, rv b152, .unset, .unset] [(.int 2147483647), (.int q1)])) _
      refine XS.iand X278.here hx rfl (hb hby at_129) rfl ?_
      show Steps _ _ _ (T278.setTop (mkF m 130 #[iv q1, rv b152, .unset, .unset] [(.int (q1 &&& (2147483647 : Int32)))])) _
      refine XS.bipush X278.here hx rfl (hb hby at_130) ?_
      show Steps _ _ _ (T278.setTop (mkF m 132 #[iv q1, rv b152, .unset, .unset] [(.int 18), (.int (q1 &&& (2147483647 : Int32)))])) _
      refine iremM (g := (mkF m 132 #[iv q1, rv b152, .unset, .unset] [(.int 18), (.int (q1 &&& (2147483647 : Int32)))])) X278 hx rfl (hb hby at_132) rfl (by decide) ?_
      show Steps _ _ _ (T278.setTop (mkF m 133 #[iv q1, rv b152, .unset, .unset] [(.int ((q1 &&& (2147483647 : Int32)) % (18 : Int32)))])) _
      rw [hi]
      show Steps _ _ _ (T278.setTop (mkF m 133 #[iv q1, rv b152, .unset, .unset] [(.int 14)])) _
      refine XS.istoreN X278.here hx rfl (hb hby at_133) rfl (l' := #[iv q1, rv b152, iv 14, .unset]) rfl ?_
      show Steps _ _ _ (T278.setTop (mkF m 134 #[iv q1, rv b152, iv 14, .unset] [])) _
      refine XS.iloadN X278.here hx rfl (hb hby at_134) rfl ?_
      show Steps _ _ _ (T278.setTop (mkF m 135 #[iv q1, rv b152, iv 14, .unset] [(.int 14)])) _
      refine XS.iconst X278.here hx rfl (hb hby at_135) ?_
      show Steps _ _ _ (T278.setTop (mkF m 136 #[iv q1, rv b152, iv 14, .unset] [(.int 2), (.int 14)])) _
      refine XS.icmpNo X278.here hx rfl (hb hby at_136) rfl (by decide) ?_
      show Steps _ _ _ (T278.setTop (mkF m 139 #[iv q1, rv b152, iv 14, .unset] [])) _
      refine XS.iloadN X278.here hx rfl (hb hby at_139) rfl ?_
      show Steps _ _ _ (T278.setTop (mkF m 140 #[iv q1, rv b152, iv 14, .unset] [(.int 14)])) _
      refine XS.iconst X278.here hx rfl (hb hby at_140) ?_
      show Steps _ _ _ (T278.setTop (mkF m 141 #[iv q1, rv b152, iv 14, .unset] [(.int 5), (.int 14)])) _
      refine XS.icmpYes X278.here hx rfl (pc0 := 141) (pc' := 148) rfl (hb hby at_141) rfl (by decide) (by decide) (by decide) ?_
      show Steps _ _ _ (T278.setTop (mkF m 148 #[iv q1, rv b152, iv 14, .unset] [])) _
      refine XS.iconst X278.here hx rfl (hb hby at_148) ?_
      show Steps _ _ _ (T278.setTop (mkF m 149 #[iv q1, rv b152, iv 14, .unset] [(.int 0)])) _
      refine XS.istoreN X278.here hx rfl (hb hby at_149) rfl (l' := #[iv q1, rv b152, iv 14, iv 0]) rfl ?_
      show Steps _ _ _ (T278.setTop (mkF m 150 #[iv q1, rv b152, iv 14, iv 0] [])) _
      refine XS.aloadN X278.here hx rfl (hb hby at_150) rfl rfl ?_
      show Steps _ _ _ (T278.setTop (mkF m 151 #[iv q1, rv b152, iv 14, iv 0] [(.ref b152)])) _
      refine XS.iloadN X278.here hx rfl (hb hby at_151) rfl ?_
      show Steps _ _ _ (T278.setTop (mkF m 152 #[iv q1, rv b152, iv 14, iv 0] [(.int 14), (.ref b152)])) _
      exact q
    obtain ⟨cl353, Ar353, q353, S353, M353, H353, G353⟩ := B278
    have hin353 : ¬ ((14 : Int32) < 0 ∨ cl353.slots.size ≤ ((14 : Int32)).toNatClampNeg) := inb_of S353 ⟨by decide, by decide⟩
    have hat353 : cl353.slots[((14 : Int32)).toNatClampNeg]? = some (.ref a_INTERVIEW_STARTED) := Has.at H353 hin353 rfl
    have k_354 : Go p.tables e below (s₁.setTop (entryFrame m #[(.int q1)] maxLocals)) (T278.setTop (mkF m 153 #[iv q1, rv b152, iv 14, iv 0] [(.ref a_INTERVIEW_STARTED)])) := fun t q => by
      refine k_352 t ?_
      refine X278.aaload hx (j := (14 : Int32)) (v := (.ref a_INTERVIEW_STARTED)) (by rw [e278]; exact Ar353.1) (State.isArrayOf_alike hZ.alike Ar353.2.1) rfl Ar353.2.2 hin353 hat353 (g := (mkF m 152 #[iv q1, rv b152, iv 14, iv 0] [(.int 14), (.ref b152)])) rfl rfl (hb hby at_152) _ ?_
      show Steps _ _ _ (T278.setTop (mkF m 153 #[iv q1, rv b152, iv 14, iv 0] [(.ref a_INTERVIEW_STARTED)])) _
      exact q
    obtain ⟨cq355, kq355, q355a, q355b, q355c⟩ := isOf hZ e278 (Exa.ext O_279.2 E_INTERVIEW_STARTED)
    obtain ⟨_, _, ⟨T355, L355, k355, n355⟩, -, X355, ⟨Lc355, hQ355, l355, y355, z355⟩, st355⟩ := X278.virtualBack hx (y := y_0) (z := y_0) hown (mvT hZ (hw _ (wd 41 rfl))) (mvT hZ (hw _ (wd 42 rfl))) (notFace_of_selects (args := #[]) (mvT hZ (hw _ (wd 44 rfl)))) (mvT hZ (hw _ (wd 44 rfl))) (mvT hZ (hw _ (wd 43 rfl))) (by decide) (backOf (W := 0) (ew_14 l Z a0 hw [] a_PIPELINE_STARTED a_PIPELINE_RESUMED a_PIPELINE_COMPLETED a_PIPELINE_FAILED a_PIPELINE_STOPPED a_PIPELINE_CANCELLED a_STAGE_STARTED a_STAGE_COMPLETED a_STAGE_FAILED a_STAGE_RETRYING a_PARALLEL_STARTED a_PARALLEL_BRANCH_STARTED a_PARALLEL_BRANCH_COMPLETED a_PARALLEL_COMPLETED a_INTERVIEW_STARTED a_INTERVIEW_COMPLETED a_INTERVIEW_TIMEOUT a_CHECKPOINT_SAVED G  h278 n0 O_279 ) hZ (hw _ (wd 45 rfl)) (hw _ (wd 3 rfl)) (by decide) (by decide)) q355a q355c (g := (mkF m 153 #[iv q1, rv b152, iv 14, iv 0] [(.ref a_INTERVIEW_STARTED)])) rfl (by rw [hml]; rfl) (Steps.refl _) (argsL := []) (rest := []) (lenOf pd_0 rfl) rfl (by show 2 * 0 + _ ≤ _; exact Nat.le_of_eq rfl) (hb hby at_153) (fun _ _ => ⟨rfl, e278, (by decide : 1 + 0 ≤ _), (by decide : 18 + 0 ≤ _)⟩)
    dsimp only [Pt.U, Pt.locs, Pt.cells, Pt.slots] at X355 l355 y355 z355 st355 hQ355
    subst l355 y355 z355
    obtain ⟨rfl, N355q, e355⟩ := hQ355
    have N355 := Fr.app N278 N355q
    have k_356 : Go p.tables e below (s₁.setTop (entryFrame m #[(.int q1)] maxLocals)) (T355.setTop (mkF m 165 #[iv q1, rv b152, iv 14, iv 0] [(.int 1)])) := fun t q => by
      refine k_354 t ?_
      refine st355.trans ?_
      show Steps _ _ _ (T355.setTop (mkF m 156 #[iv q1, rv b152, iv 14, iv 0] [(.int 0)])) _
      refine XS.iloadN X355.here hx rfl (hb hby at_156) rfl ?_
      show Steps _ _ _ (T355.setTop (mkF m 157 #[iv q1, rv b152, iv 14, iv 0] [(.int 0), (.int 0)])) _
      refine XS.icmpNo X355.here hx rfl (hb hby at_157) rfl (by decide) ?_
      show Steps _ _ _ (T355.setTop (mkF m 160 #[iv q1, rv b152, iv 14, iv 0] [])) _
      refine XS.iconst X355.here hx rfl (hb hby at_160) ?_
      show Steps _ _ _ (T355.setTop (mkF m 161 #[iv q1, rv b152, iv 14, iv 0] [(.int 1)])) _
      refine XS.goto X355.here hx rfl (pc0 := 161) (pc' := 165) rfl (hb hby at_161) (by decide) (by decide) ?_
      show Steps _ _ _ (T355.setTop (mkF m 165 #[iv q1, rv b152, iv 14, iv 0] [(.int 1)])) _
      exact q
    obtain ⟨fs, hr, hrun, hended, hW, hsame⟩ := X355.leave (v := some (.int 1)) (fun h => by rw [Bd.returns] at h; cases h)
    refine ⟨_, _, k_356 _ ?_, hrun, hended, _, _, rfl, ?_, ⟨_, rfl⟩, hW, hsame.mono (by decide) (by decide)⟩
    · exact retN X355 hx (t := .boolean) Bd.returns (by simp) (hb hby at_165) hr
    · show Q0 n0 _ T355.heap _
      rw [e355]
      exact ⟨rfl, N355⟩
  · skip
    have k_357 : Go p.tables e below (s₁.setTop (entryFrame m #[(.int q1)] maxLocals)) (T278.setTop (mkF m 152 #[iv q1, rv b152, iv 15, iv 0] [(.int 15), (.ref b152)])) := fun t q => by
      refine k_281 t ?_
      refine XS.astoreN X278.here hx rfl (hb hby at_125) rfl rfl (l' := #[iv q1, rv b152, .unset, .unset]) rfl ?_
      show Steps _ _ _ (T278.setTop (mkF m 126 #[iv q1, rv b152, .unset, .unset] [])) _
      refine XS.iloadN X278.here hx rfl (hb hby at_126) rfl ?_
      show Steps _ _ _ (T278.setTop (mkF m 127 #[iv q1, rv b152, .unset, .unset] [(.int q1)])) _
      refine X278.ldcInt hx hown (mvT hZ (hw _ (wd 40 rfl))) (g := (mkF m 127 #[iv q1, rv b152, .unset, .unset] [(.int q1)])) rfl (hb hby at_127) _ ?_
      show Steps _ _ _ (T278.setTop (mkF m 129 #[iv q1, rv b152, .unset, .unset] [(.int 2147483647), (.int q1)])) _
      refine XS.iand X278.here hx rfl (hb hby at_129) rfl ?_
      show Steps _ _ _ (T278.setTop (mkF m 130 #[iv q1, rv b152, .unset, .unset] [(.int (q1 &&& (2147483647 : Int32)))])) _
      refine XS.bipush X278.here hx rfl (hb hby at_130) ?_
      show Steps _ _ _ (T278.setTop (mkF m 132 #[iv q1, rv b152, .unset, .unset] [(.int 18), (.int (q1 &&& (2147483647 : Int32)))])) _
      refine iremM (g := (mkF m 132 #[iv q1, rv b152, .unset, .unset] [(.int 18), (.int (q1 &&& (2147483647 : Int32)))])) X278 hx rfl (hb hby at_132) rfl (by decide) ?_
      show Steps _ _ _ (T278.setTop (mkF m 133 #[iv q1, rv b152, .unset, .unset] [(.int ((q1 &&& (2147483647 : Int32)) % (18 : Int32)))])) _
      rw [hi]
      show Steps _ _ _ (T278.setTop (mkF m 133 #[iv q1, rv b152, .unset, .unset] [(.int 15)])) _
      refine XS.istoreN X278.here hx rfl (hb hby at_133) rfl (l' := #[iv q1, rv b152, iv 15, .unset]) rfl ?_
      show Steps _ _ _ (T278.setTop (mkF m 134 #[iv q1, rv b152, iv 15, .unset] [])) _
      refine XS.iloadN X278.here hx rfl (hb hby at_134) rfl ?_
      show Steps _ _ _ (T278.setTop (mkF m 135 #[iv q1, rv b152, iv 15, .unset] [(.int 15)])) _
      refine XS.iconst X278.here hx rfl (hb hby at_135) ?_
      show Steps _ _ _ (T278.setTop (mkF m 136 #[iv q1, rv b152, iv 15, .unset] [(.int 2), (.int 15)])) _
      refine XS.icmpNo X278.here hx rfl (hb hby at_136) rfl (by decide) ?_
      show Steps _ _ _ (T278.setTop (mkF m 139 #[iv q1, rv b152, iv 15, .unset] [])) _
      refine XS.iloadN X278.here hx rfl (hb hby at_139) rfl ?_
      show Steps _ _ _ (T278.setTop (mkF m 140 #[iv q1, rv b152, iv 15, .unset] [(.int 15)])) _
      refine XS.iconst X278.here hx rfl (hb hby at_140) ?_
      show Steps _ _ _ (T278.setTop (mkF m 141 #[iv q1, rv b152, iv 15, .unset] [(.int 5), (.int 15)])) _
      refine XS.icmpYes X278.here hx rfl (pc0 := 141) (pc' := 148) rfl (hb hby at_141) rfl (by decide) (by decide) (by decide) ?_
      show Steps _ _ _ (T278.setTop (mkF m 148 #[iv q1, rv b152, iv 15, .unset] [])) _
      refine XS.iconst X278.here hx rfl (hb hby at_148) ?_
      show Steps _ _ _ (T278.setTop (mkF m 149 #[iv q1, rv b152, iv 15, .unset] [(.int 0)])) _
      refine XS.istoreN X278.here hx rfl (hb hby at_149) rfl (l' := #[iv q1, rv b152, iv 15, iv 0]) rfl ?_
      show Steps _ _ _ (T278.setTop (mkF m 150 #[iv q1, rv b152, iv 15, iv 0] [])) _
      refine XS.aloadN X278.here hx rfl (hb hby at_150) rfl rfl ?_
      show Steps _ _ _ (T278.setTop (mkF m 151 #[iv q1, rv b152, iv 15, iv 0] [(.ref b152)])) _
      refine XS.iloadN X278.here hx rfl (hb hby at_151) rfl ?_
      show Steps _ _ _ (T278.setTop (mkF m 152 #[iv q1, rv b152, iv 15, iv 0] [(.int 15), (.ref b152)])) _
      exact q
    obtain ⟨cl358, Ar358, q358, S358, M358, H358, G358⟩ := B278
    have hin358 : ¬ ((15 : Int32) < 0 ∨ cl358.slots.size ≤ ((15 : Int32)).toNatClampNeg) := inb_of S358 ⟨by decide, by decide⟩
    have hat358 : cl358.slots[((15 : Int32)).toNatClampNeg]? = some (.ref a_INTERVIEW_COMPLETED) := Has.at H358 hin358 rfl
    have k_359 : Go p.tables e below (s₁.setTop (entryFrame m #[(.int q1)] maxLocals)) (T278.setTop (mkF m 153 #[iv q1, rv b152, iv 15, iv 0] [(.ref a_INTERVIEW_COMPLETED)])) := fun t q => by
      refine k_357 t ?_
      refine X278.aaload hx (j := (15 : Int32)) (v := (.ref a_INTERVIEW_COMPLETED)) (by rw [e278]; exact Ar358.1) (State.isArrayOf_alike hZ.alike Ar358.2.1) rfl Ar358.2.2 hin358 hat358 (g := (mkF m 152 #[iv q1, rv b152, iv 15, iv 0] [(.int 15), (.ref b152)])) rfl rfl (hb hby at_152) _ ?_
      show Steps _ _ _ (T278.setTop (mkF m 153 #[iv q1, rv b152, iv 15, iv 0] [(.ref a_INTERVIEW_COMPLETED)])) _
      exact q
    obtain ⟨cq360, kq360, q360a, q360b, q360c⟩ := isOf hZ e278 (Exa.ext O_279.2 E_INTERVIEW_COMPLETED)
    obtain ⟨_, _, ⟨T360, L360, k360, n360⟩, -, X360, ⟨Lc360, hQ360, l360, y360, z360⟩, st360⟩ := X278.virtualBack hx (y := y_0) (z := y_0) hown (mvT hZ (hw _ (wd 41 rfl))) (mvT hZ (hw _ (wd 42 rfl))) (notFace_of_selects (args := #[]) (mvT hZ (hw _ (wd 44 rfl)))) (mvT hZ (hw _ (wd 44 rfl))) (mvT hZ (hw _ (wd 43 rfl))) (by decide) (backOf (W := 0) (ew_15 l Z a0 hw [] a_PIPELINE_STARTED a_PIPELINE_RESUMED a_PIPELINE_COMPLETED a_PIPELINE_FAILED a_PIPELINE_STOPPED a_PIPELINE_CANCELLED a_STAGE_STARTED a_STAGE_COMPLETED a_STAGE_FAILED a_STAGE_RETRYING a_PARALLEL_STARTED a_PARALLEL_BRANCH_STARTED a_PARALLEL_BRANCH_COMPLETED a_PARALLEL_COMPLETED a_INTERVIEW_STARTED a_INTERVIEW_COMPLETED a_INTERVIEW_TIMEOUT a_CHECKPOINT_SAVED G  h278 n0 O_279 ) hZ (hw _ (wd 45 rfl)) (hw _ (wd 3 rfl)) (by decide) (by decide)) q360a q360c (g := (mkF m 153 #[iv q1, rv b152, iv 15, iv 0] [(.ref a_INTERVIEW_COMPLETED)])) rfl (by rw [hml]; rfl) (Steps.refl _) (argsL := []) (rest := []) (lenOf pd_0 rfl) rfl (by show 2 * 0 + _ ≤ _; exact Nat.le_of_eq rfl) (hb hby at_153) (fun _ _ => ⟨rfl, e278, (by decide : 1 + 0 ≤ _), (by decide : 18 + 0 ≤ _)⟩)
    dsimp only [Pt.U, Pt.locs, Pt.cells, Pt.slots] at X360 l360 y360 z360 st360 hQ360
    subst l360 y360 z360
    obtain ⟨rfl, N360q, e360⟩ := hQ360
    have N360 := Fr.app N278 N360q
    have k_361 : Go p.tables e below (s₁.setTop (entryFrame m #[(.int q1)] maxLocals)) (T360.setTop (mkF m 165 #[iv q1, rv b152, iv 15, iv 0] [(.int 1)])) := fun t q => by
      refine k_359 t ?_
      refine st360.trans ?_
      show Steps _ _ _ (T360.setTop (mkF m 156 #[iv q1, rv b152, iv 15, iv 0] [(.int 0)])) _
      refine XS.iloadN X360.here hx rfl (hb hby at_156) rfl ?_
      show Steps _ _ _ (T360.setTop (mkF m 157 #[iv q1, rv b152, iv 15, iv 0] [(.int 0), (.int 0)])) _
      refine XS.icmpNo X360.here hx rfl (hb hby at_157) rfl (by decide) ?_
      show Steps _ _ _ (T360.setTop (mkF m 160 #[iv q1, rv b152, iv 15, iv 0] [])) _
      refine XS.iconst X360.here hx rfl (hb hby at_160) ?_
      show Steps _ _ _ (T360.setTop (mkF m 161 #[iv q1, rv b152, iv 15, iv 0] [(.int 1)])) _
      refine XS.goto X360.here hx rfl (pc0 := 161) (pc' := 165) rfl (hb hby at_161) (by decide) (by decide) ?_
      show Steps _ _ _ (T360.setTop (mkF m 165 #[iv q1, rv b152, iv 15, iv 0] [(.int 1)])) _
      exact q
    obtain ⟨fs, hr, hrun, hended, hW, hsame⟩ := X360.leave (v := some (.int 1)) (fun h => by rw [Bd.returns] at h; cases h)
    refine ⟨_, _, k_361 _ ?_, hrun, hended, _, _, rfl, ?_, ⟨_, rfl⟩, hW, hsame.mono (by decide) (by decide)⟩
    · exact retN X360 hx (t := .boolean) Bd.returns (by simp) (hb hby at_165) hr
    · show Q0 n0 _ T360.heap _
      rw [e360]
      exact ⟨rfl, N360⟩
  · skip
    have k_362 : Go p.tables e below (s₁.setTop (entryFrame m #[(.int q1)] maxLocals)) (T278.setTop (mkF m 152 #[iv q1, rv b152, iv 16, iv 0] [(.int 16), (.ref b152)])) := fun t q => by
      refine k_281 t ?_
      refine XS.astoreN X278.here hx rfl (hb hby at_125) rfl rfl (l' := #[iv q1, rv b152, .unset, .unset]) rfl ?_
      show Steps _ _ _ (T278.setTop (mkF m 126 #[iv q1, rv b152, .unset, .unset] [])) _
      refine XS.iloadN X278.here hx rfl (hb hby at_126) rfl ?_
      show Steps _ _ _ (T278.setTop (mkF m 127 #[iv q1, rv b152, .unset, .unset] [(.int q1)])) _
      refine X278.ldcInt hx hown (mvT hZ (hw _ (wd 40 rfl))) (g := (mkF m 127 #[iv q1, rv b152, .unset, .unset] [(.int q1)])) rfl (hb hby at_127) _ ?_
      show Steps _ _ _ (T278.setTop (mkF m 129 #[iv q1, rv b152, .unset, .unset] [(.int 2147483647), (.int q1)])) _
      refine XS.iand X278.here hx rfl (hb hby at_129) rfl ?_
      show Steps _ _ _ (T278.setTop (mkF m 130 #[iv q1, rv b152, .unset, .unset] [(.int (q1 &&& (2147483647 : Int32)))])) _
      refine XS.bipush X278.here hx rfl (hb hby at_130) ?_
      show Steps _ _ _ (T278.setTop (mkF m 132 #[iv q1, rv b152, .unset, .unset] [(.int 18), (.int (q1 &&& (2147483647 : Int32)))])) _
      refine iremM (g := (mkF m 132 #[iv q1, rv b152, .unset, .unset] [(.int 18), (.int (q1 &&& (2147483647 : Int32)))])) X278 hx rfl (hb hby at_132) rfl (by decide) ?_
      show Steps _ _ _ (T278.setTop (mkF m 133 #[iv q1, rv b152, .unset, .unset] [(.int ((q1 &&& (2147483647 : Int32)) % (18 : Int32)))])) _
      rw [hi]
      show Steps _ _ _ (T278.setTop (mkF m 133 #[iv q1, rv b152, .unset, .unset] [(.int 16)])) _
      refine XS.istoreN X278.here hx rfl (hb hby at_133) rfl (l' := #[iv q1, rv b152, iv 16, .unset]) rfl ?_
      show Steps _ _ _ (T278.setTop (mkF m 134 #[iv q1, rv b152, iv 16, .unset] [])) _
      refine XS.iloadN X278.here hx rfl (hb hby at_134) rfl ?_
      show Steps _ _ _ (T278.setTop (mkF m 135 #[iv q1, rv b152, iv 16, .unset] [(.int 16)])) _
      refine XS.iconst X278.here hx rfl (hb hby at_135) ?_
      show Steps _ _ _ (T278.setTop (mkF m 136 #[iv q1, rv b152, iv 16, .unset] [(.int 2), (.int 16)])) _
      refine XS.icmpNo X278.here hx rfl (hb hby at_136) rfl (by decide) ?_
      show Steps _ _ _ (T278.setTop (mkF m 139 #[iv q1, rv b152, iv 16, .unset] [])) _
      refine XS.iloadN X278.here hx rfl (hb hby at_139) rfl ?_
      show Steps _ _ _ (T278.setTop (mkF m 140 #[iv q1, rv b152, iv 16, .unset] [(.int 16)])) _
      refine XS.iconst X278.here hx rfl (hb hby at_140) ?_
      show Steps _ _ _ (T278.setTop (mkF m 141 #[iv q1, rv b152, iv 16, .unset] [(.int 5), (.int 16)])) _
      refine XS.icmpYes X278.here hx rfl (pc0 := 141) (pc' := 148) rfl (hb hby at_141) rfl (by decide) (by decide) (by decide) ?_
      show Steps _ _ _ (T278.setTop (mkF m 148 #[iv q1, rv b152, iv 16, .unset] [])) _
      refine XS.iconst X278.here hx rfl (hb hby at_148) ?_
      show Steps _ _ _ (T278.setTop (mkF m 149 #[iv q1, rv b152, iv 16, .unset] [(.int 0)])) _
      refine XS.istoreN X278.here hx rfl (hb hby at_149) rfl (l' := #[iv q1, rv b152, iv 16, iv 0]) rfl ?_
      show Steps _ _ _ (T278.setTop (mkF m 150 #[iv q1, rv b152, iv 16, iv 0] [])) _
      refine XS.aloadN X278.here hx rfl (hb hby at_150) rfl rfl ?_
      show Steps _ _ _ (T278.setTop (mkF m 151 #[iv q1, rv b152, iv 16, iv 0] [(.ref b152)])) _
      refine XS.iloadN X278.here hx rfl (hb hby at_151) rfl ?_
      show Steps _ _ _ (T278.setTop (mkF m 152 #[iv q1, rv b152, iv 16, iv 0] [(.int 16), (.ref b152)])) _
      exact q
    obtain ⟨cl363, Ar363, q363, S363, M363, H363, G363⟩ := B278
    have hin363 : ¬ ((16 : Int32) < 0 ∨ cl363.slots.size ≤ ((16 : Int32)).toNatClampNeg) := inb_of S363 ⟨by decide, by decide⟩
    have hat363 : cl363.slots[((16 : Int32)).toNatClampNeg]? = some (.ref a_INTERVIEW_TIMEOUT) := Has.at H363 hin363 rfl
    have k_364 : Go p.tables e below (s₁.setTop (entryFrame m #[(.int q1)] maxLocals)) (T278.setTop (mkF m 153 #[iv q1, rv b152, iv 16, iv 0] [(.ref a_INTERVIEW_TIMEOUT)])) := fun t q => by
      refine k_362 t ?_
      refine X278.aaload hx (j := (16 : Int32)) (v := (.ref a_INTERVIEW_TIMEOUT)) (by rw [e278]; exact Ar363.1) (State.isArrayOf_alike hZ.alike Ar363.2.1) rfl Ar363.2.2 hin363 hat363 (g := (mkF m 152 #[iv q1, rv b152, iv 16, iv 0] [(.int 16), (.ref b152)])) rfl rfl (hb hby at_152) _ ?_
      show Steps _ _ _ (T278.setTop (mkF m 153 #[iv q1, rv b152, iv 16, iv 0] [(.ref a_INTERVIEW_TIMEOUT)])) _
      exact q
    obtain ⟨cq365, kq365, q365a, q365b, q365c⟩ := isOf hZ e278 (Exa.ext O_279.2 E_INTERVIEW_TIMEOUT)
    obtain ⟨_, _, ⟨T365, L365, k365, n365⟩, -, X365, ⟨Lc365, hQ365, l365, y365, z365⟩, st365⟩ := X278.virtualBack hx (y := y_0) (z := y_0) hown (mvT hZ (hw _ (wd 41 rfl))) (mvT hZ (hw _ (wd 42 rfl))) (notFace_of_selects (args := #[]) (mvT hZ (hw _ (wd 44 rfl)))) (mvT hZ (hw _ (wd 44 rfl))) (mvT hZ (hw _ (wd 43 rfl))) (by decide) (backOf (W := 0) (ew_16 l Z a0 hw [] a_PIPELINE_STARTED a_PIPELINE_RESUMED a_PIPELINE_COMPLETED a_PIPELINE_FAILED a_PIPELINE_STOPPED a_PIPELINE_CANCELLED a_STAGE_STARTED a_STAGE_COMPLETED a_STAGE_FAILED a_STAGE_RETRYING a_PARALLEL_STARTED a_PARALLEL_BRANCH_STARTED a_PARALLEL_BRANCH_COMPLETED a_PARALLEL_COMPLETED a_INTERVIEW_STARTED a_INTERVIEW_COMPLETED a_INTERVIEW_TIMEOUT a_CHECKPOINT_SAVED G  h278 n0 O_279 ) hZ (hw _ (wd 45 rfl)) (hw _ (wd 3 rfl)) (by decide) (by decide)) q365a q365c (g := (mkF m 153 #[iv q1, rv b152, iv 16, iv 0] [(.ref a_INTERVIEW_TIMEOUT)])) rfl (by rw [hml]; rfl) (Steps.refl _) (argsL := []) (rest := []) (lenOf pd_0 rfl) rfl (by show 2 * 0 + _ ≤ _; exact Nat.le_of_eq rfl) (hb hby at_153) (fun _ _ => ⟨rfl, e278, (by decide : 1 + 0 ≤ _), (by decide : 18 + 0 ≤ _)⟩)
    dsimp only [Pt.U, Pt.locs, Pt.cells, Pt.slots] at X365 l365 y365 z365 st365 hQ365
    subst l365 y365 z365
    obtain ⟨rfl, N365q, e365⟩ := hQ365
    have N365 := Fr.app N278 N365q
    have k_366 : Go p.tables e below (s₁.setTop (entryFrame m #[(.int q1)] maxLocals)) (T365.setTop (mkF m 165 #[iv q1, rv b152, iv 16, iv 0] [(.int 1)])) := fun t q => by
      refine k_364 t ?_
      refine st365.trans ?_
      show Steps _ _ _ (T365.setTop (mkF m 156 #[iv q1, rv b152, iv 16, iv 0] [(.int 0)])) _
      refine XS.iloadN X365.here hx rfl (hb hby at_156) rfl ?_
      show Steps _ _ _ (T365.setTop (mkF m 157 #[iv q1, rv b152, iv 16, iv 0] [(.int 0), (.int 0)])) _
      refine XS.icmpNo X365.here hx rfl (hb hby at_157) rfl (by decide) ?_
      show Steps _ _ _ (T365.setTop (mkF m 160 #[iv q1, rv b152, iv 16, iv 0] [])) _
      refine XS.iconst X365.here hx rfl (hb hby at_160) ?_
      show Steps _ _ _ (T365.setTop (mkF m 161 #[iv q1, rv b152, iv 16, iv 0] [(.int 1)])) _
      refine XS.goto X365.here hx rfl (pc0 := 161) (pc' := 165) rfl (hb hby at_161) (by decide) (by decide) ?_
      show Steps _ _ _ (T365.setTop (mkF m 165 #[iv q1, rv b152, iv 16, iv 0] [(.int 1)])) _
      exact q
    obtain ⟨fs, hr, hrun, hended, hW, hsame⟩ := X365.leave (v := some (.int 1)) (fun h => by rw [Bd.returns] at h; cases h)
    refine ⟨_, _, k_366 _ ?_, hrun, hended, _, _, rfl, ?_, ⟨_, rfl⟩, hW, hsame.mono (by decide) (by decide)⟩
    · exact retN X365 hx (t := .boolean) Bd.returns (by simp) (hb hby at_165) hr
    · show Q0 n0 _ T365.heap _
      rw [e365]
      exact ⟨rfl, N365⟩
  · skip
    have k_367 : Go p.tables e below (s₁.setTop (entryFrame m #[(.int q1)] maxLocals)) (T278.setTop (mkF m 152 #[iv q1, rv b152, iv 17, iv 0] [(.int 17), (.ref b152)])) := fun t q => by
      refine k_281 t ?_
      refine XS.astoreN X278.here hx rfl (hb hby at_125) rfl rfl (l' := #[iv q1, rv b152, .unset, .unset]) rfl ?_
      show Steps _ _ _ (T278.setTop (mkF m 126 #[iv q1, rv b152, .unset, .unset] [])) _
      refine XS.iloadN X278.here hx rfl (hb hby at_126) rfl ?_
      show Steps _ _ _ (T278.setTop (mkF m 127 #[iv q1, rv b152, .unset, .unset] [(.int q1)])) _
      refine X278.ldcInt hx hown (mvT hZ (hw _ (wd 40 rfl))) (g := (mkF m 127 #[iv q1, rv b152, .unset, .unset] [(.int q1)])) rfl (hb hby at_127) _ ?_
      show Steps _ _ _ (T278.setTop (mkF m 129 #[iv q1, rv b152, .unset, .unset] [(.int 2147483647), (.int q1)])) _
      refine XS.iand X278.here hx rfl (hb hby at_129) rfl ?_
      show Steps _ _ _ (T278.setTop (mkF m 130 #[iv q1, rv b152, .unset, .unset] [(.int (q1 &&& (2147483647 : Int32)))])) _
      refine XS.bipush X278.here hx rfl (hb hby at_130) ?_
      show Steps _ _ _ (T278.setTop (mkF m 132 #[iv q1, rv b152, .unset, .unset] [(.int 18), (.int (q1 &&& (2147483647 : Int32)))])) _
      refine iremM (g := (mkF m 132 #[iv q1, rv b152, .unset, .unset] [(.int 18), (.int (q1 &&& (2147483647 : Int32)))])) X278 hx rfl (hb hby at_132) rfl (by decide) ?_
      show Steps _ _ _ (T278.setTop (mkF m 133 #[iv q1, rv b152, .unset, .unset] [(.int ((q1 &&& (2147483647 : Int32)) % (18 : Int32)))])) _
      rw [hi]
      show Steps _ _ _ (T278.setTop (mkF m 133 #[iv q1, rv b152, .unset, .unset] [(.int 17)])) _
      refine XS.istoreN X278.here hx rfl (hb hby at_133) rfl (l' := #[iv q1, rv b152, iv 17, .unset]) rfl ?_
      show Steps _ _ _ (T278.setTop (mkF m 134 #[iv q1, rv b152, iv 17, .unset] [])) _
      refine XS.iloadN X278.here hx rfl (hb hby at_134) rfl ?_
      show Steps _ _ _ (T278.setTop (mkF m 135 #[iv q1, rv b152, iv 17, .unset] [(.int 17)])) _
      refine XS.iconst X278.here hx rfl (hb hby at_135) ?_
      show Steps _ _ _ (T278.setTop (mkF m 136 #[iv q1, rv b152, iv 17, .unset] [(.int 2), (.int 17)])) _
      refine XS.icmpNo X278.here hx rfl (hb hby at_136) rfl (by decide) ?_
      show Steps _ _ _ (T278.setTop (mkF m 139 #[iv q1, rv b152, iv 17, .unset] [])) _
      refine XS.iloadN X278.here hx rfl (hb hby at_139) rfl ?_
      show Steps _ _ _ (T278.setTop (mkF m 140 #[iv q1, rv b152, iv 17, .unset] [(.int 17)])) _
      refine XS.iconst X278.here hx rfl (hb hby at_140) ?_
      show Steps _ _ _ (T278.setTop (mkF m 141 #[iv q1, rv b152, iv 17, .unset] [(.int 5), (.int 17)])) _
      refine XS.icmpYes X278.here hx rfl (pc0 := 141) (pc' := 148) rfl (hb hby at_141) rfl (by decide) (by decide) (by decide) ?_
      show Steps _ _ _ (T278.setTop (mkF m 148 #[iv q1, rv b152, iv 17, .unset] [])) _
      refine XS.iconst X278.here hx rfl (hb hby at_148) ?_
      show Steps _ _ _ (T278.setTop (mkF m 149 #[iv q1, rv b152, iv 17, .unset] [(.int 0)])) _
      refine XS.istoreN X278.here hx rfl (hb hby at_149) rfl (l' := #[iv q1, rv b152, iv 17, iv 0]) rfl ?_
      show Steps _ _ _ (T278.setTop (mkF m 150 #[iv q1, rv b152, iv 17, iv 0] [])) _
      refine XS.aloadN X278.here hx rfl (hb hby at_150) rfl rfl ?_
      show Steps _ _ _ (T278.setTop (mkF m 151 #[iv q1, rv b152, iv 17, iv 0] [(.ref b152)])) _
      refine XS.iloadN X278.here hx rfl (hb hby at_151) rfl ?_
      show Steps _ _ _ (T278.setTop (mkF m 152 #[iv q1, rv b152, iv 17, iv 0] [(.int 17), (.ref b152)])) _
      exact q
    obtain ⟨cl368, Ar368, q368, S368, M368, H368, G368⟩ := B278
    have hin368 : ¬ ((17 : Int32) < 0 ∨ cl368.slots.size ≤ ((17 : Int32)).toNatClampNeg) := inb_of S368 ⟨by decide, by decide⟩
    have hat368 : cl368.slots[((17 : Int32)).toNatClampNeg]? = some (.ref a_CHECKPOINT_SAVED) := Has.at H368 hin368 rfl
    have k_369 : Go p.tables e below (s₁.setTop (entryFrame m #[(.int q1)] maxLocals)) (T278.setTop (mkF m 153 #[iv q1, rv b152, iv 17, iv 0] [(.ref a_CHECKPOINT_SAVED)])) := fun t q => by
      refine k_367 t ?_
      refine X278.aaload hx (j := (17 : Int32)) (v := (.ref a_CHECKPOINT_SAVED)) (by rw [e278]; exact Ar368.1) (State.isArrayOf_alike hZ.alike Ar368.2.1) rfl Ar368.2.2 hin368 hat368 (g := (mkF m 152 #[iv q1, rv b152, iv 17, iv 0] [(.int 17), (.ref b152)])) rfl rfl (hb hby at_152) _ ?_
      show Steps _ _ _ (T278.setTop (mkF m 153 #[iv q1, rv b152, iv 17, iv 0] [(.ref a_CHECKPOINT_SAVED)])) _
      exact q
    obtain ⟨cq370, kq370, q370a, q370b, q370c⟩ := isOf hZ e278 (Exa.ext O_279.2 E_CHECKPOINT_SAVED)
    obtain ⟨_, _, ⟨T370, L370, k370, n370⟩, -, X370, ⟨Lc370, hQ370, l370, y370, z370⟩, st370⟩ := X278.virtualBack hx (y := y_0) (z := y_0) hown (mvT hZ (hw _ (wd 41 rfl))) (mvT hZ (hw _ (wd 42 rfl))) (notFace_of_selects (args := #[]) (mvT hZ (hw _ (wd 44 rfl)))) (mvT hZ (hw _ (wd 44 rfl))) (mvT hZ (hw _ (wd 43 rfl))) (by decide) (backOf (W := 0) (ew_17 l Z a0 hw [] a_PIPELINE_STARTED a_PIPELINE_RESUMED a_PIPELINE_COMPLETED a_PIPELINE_FAILED a_PIPELINE_STOPPED a_PIPELINE_CANCELLED a_STAGE_STARTED a_STAGE_COMPLETED a_STAGE_FAILED a_STAGE_RETRYING a_PARALLEL_STARTED a_PARALLEL_BRANCH_STARTED a_PARALLEL_BRANCH_COMPLETED a_PARALLEL_COMPLETED a_INTERVIEW_STARTED a_INTERVIEW_COMPLETED a_INTERVIEW_TIMEOUT a_CHECKPOINT_SAVED G  h278 n0 O_279 ) hZ (hw _ (wd 45 rfl)) (hw _ (wd 3 rfl)) (by decide) (by decide)) q370a q370c (g := (mkF m 153 #[iv q1, rv b152, iv 17, iv 0] [(.ref a_CHECKPOINT_SAVED)])) rfl (by rw [hml]; rfl) (Steps.refl _) (argsL := []) (rest := []) (lenOf pd_0 rfl) rfl (by show 2 * 0 + _ ≤ _; exact Nat.le_of_eq rfl) (hb hby at_153) (fun _ _ => ⟨rfl, e278, (by decide : 1 + 0 ≤ _), (by decide : 18 + 0 ≤ _)⟩)
    dsimp only [Pt.U, Pt.locs, Pt.cells, Pt.slots] at X370 l370 y370 z370 st370 hQ370
    subst l370 y370 z370
    obtain ⟨rfl, N370q, e370⟩ := hQ370
    have N370 := Fr.app N278 N370q
    have k_371 : Go p.tables e below (s₁.setTop (entryFrame m #[(.int q1)] maxLocals)) (T370.setTop (mkF m 165 #[iv q1, rv b152, iv 17, iv 0] [(.int 1)])) := fun t q => by
      refine k_369 t ?_
      refine st370.trans ?_
      show Steps _ _ _ (T370.setTop (mkF m 156 #[iv q1, rv b152, iv 17, iv 0] [(.int 0)])) _
      refine XS.iloadN X370.here hx rfl (hb hby at_156) rfl ?_
      show Steps _ _ _ (T370.setTop (mkF m 157 #[iv q1, rv b152, iv 17, iv 0] [(.int 0), (.int 0)])) _
      refine XS.icmpNo X370.here hx rfl (hb hby at_157) rfl (by decide) ?_
      show Steps _ _ _ (T370.setTop (mkF m 160 #[iv q1, rv b152, iv 17, iv 0] [])) _
      refine XS.iconst X370.here hx rfl (hb hby at_160) ?_
      show Steps _ _ _ (T370.setTop (mkF m 161 #[iv q1, rv b152, iv 17, iv 0] [(.int 1)])) _
      refine XS.goto X370.here hx rfl (pc0 := 161) (pc' := 165) rfl (hb hby at_161) (by decide) (by decide) ?_
      show Steps _ _ _ (T370.setTop (mkF m 165 #[iv q1, rv b152, iv 17, iv 0] [(.int 1)])) _
      exact q
    obtain ⟨fs, hr, hrun, hended, hW, hsame⟩ := X370.leave (v := some (.int 1)) (fun h => by rw [Bd.returns] at h; cases h)
    refine ⟨_, _, k_371 _ ?_, hrun, hended, _, _, rfl, ?_, ⟨_, rfl⟩, hW, hsame.mono (by decide) (by decide)⟩
    · exact retN X370 hx (t := .boolean) Bd.returns (by simp) (hb hby at_165) hr
    · show Q0 n0 _ T370.heap _
      rw [e370]
      exact ⟨rfl, N370⟩
set_option maxRecDepth 65536 in
set_option maxHeartbeats 40000000 in
theorem comes_1 {Post : Tables → Env → Array Value → State → Outcome → State → Prop} (hpost : ∀ tb e args s v u, (limb_1_1.after args s (.returned v) u = true ∧ limb_1_2.after args s (.returned v) u = true ∧ True) → FrameEnd s (.returned v) u (Jvm.fieldLocs frame_1_writes args s ++ Jvm.arrayLocs frame_1_arrays args s ++ Jvm.staticLocs frame_1_statics s) 16 128 → Post tb e args s (.returned v) u) :
    ArmFor flags0 classFile x code maxLocals ret World_1 tables_1 room_1 Calls_1 rest_1 Pre_1 Post := by
  intro l hfl _ _ p e ha hc hk s m args below hf hA hF happ hP
  obtain ⟨hcalls, hrest, hpre⟩ := hP
  obtain ⟨-, -, -, hnamed, -, -, -, hat⟩ := (Spec.applies_iff hf).mp happ
  obtain ⟨hg, hn⟩ := and_e (Cond.before_iff.mp (show (Jvm.Cond.and given_1 narrow_1).before args s = true from hpre))
  obtain ⟨g0, c0⟩ := and_e hg
  obtain ⟨w0, rfl⟩ : ∃ w0 : Value, args = #[w0] := by
    have hs : args.size = 1 := by simpa [Cond.value, given_1] using g0
    obtain ⟨L⟩ := args
    match L, hs with
    | [w0], _ => exact ⟨w0, rfl⟩
  have hw := fun d (hd : d ∈ tables_1) => atoms_spec (ws := Jvm.Cond.code x code maxLocals ret :: tables_1) hat d (List.mem_cons_of_mem _ hd)
  obtain ⟨i0, ei0⟩ := is_v c0
  obtain rfl : w0 = (.int i0) := Option.some.inj ei0
  obtain ⟨n0, r0⟩ := and_e hn
  obtain ⟨n1, r1⟩ := and_e r0
  obtain ⟨n2, r2⟩ := and_e r1
  obtain ⟨n3, r3⟩ := and_e r2
  obtain ⟨n4, r4⟩ := and_e r3
  obtain ⟨n5, r5⟩ := and_e r4
  obtain ⟨n6, r6⟩ := and_e r5
  obtain ⟨n7, r7⟩ := and_e r6
  obtain ⟨n8, r8⟩ := and_e r7
  obtain ⟨n9, r9⟩ := and_e r8
  obtain ⟨n10, r10⟩ := and_e r9
  obtain ⟨n11, r11⟩ := and_e r10
  obtain ⟨n12, r12⟩ := and_e r11
  obtain ⟨n13, r13⟩ := and_e r12
  obtain ⟨n14, r14⟩ := and_e r13
  obtain ⟨n15, r15⟩ := and_e r14
  obtain ⟨n16, r16⟩ := and_e r15
  obtain ⟨n17, r17⟩ := and_e r16
  obtain ⟨n18, r18⟩ := and_e r17
  obtain ⟨n19, r19⟩ := and_e r18
  obtain ⟨n20, r20⟩ := and_e r19
  obtain ⟨n21, r21⟩ := and_e r20
  obtain ⟨n22, r22⟩ := and_e r21
  obtain ⟨n23, r23⟩ := and_e r22
  obtain ⟨n24, r24⟩ := and_e r23
  obtain ⟨n25, r25⟩ := and_e r24
  obtain ⟨n26, r26⟩ := and_e r25
  obtain ⟨n27, r27⟩ := and_e r26
  obtain ⟨n28, r28⟩ := and_e r27
  obtain ⟨n29, r29⟩ := and_e r28
  obtain ⟨n30, r30⟩ := and_e r29
  obtain ⟨n31, r31⟩ := and_e r30
  obtain ⟨n32, r32⟩ := and_e r31
  obtain ⟨n33, r33⟩ := and_e r32
  obtain ⟨n34, r34⟩ := and_e r33
  obtain ⟨a_PIPELINE_STARTED, v_PIPELINE_STARTED⟩ := exa_v n0
  have E_PIPELINE_STARTED := Exa.start v_PIPELINE_STARTED n0
  have S_PIPELINE_STARTED := Sta.start v_PIPELINE_STARTED (Or.inr ⟨(hw _ (wd 3 rfl)), (hw _ (wd 4 rfl))⟩)
  obtain ⟨a_PIPELINE_RESUMED, v_PIPELINE_RESUMED⟩ := exa_v n1
  have E_PIPELINE_RESUMED := Exa.start v_PIPELINE_RESUMED n1
  have S_PIPELINE_RESUMED := Sta.start v_PIPELINE_RESUMED (Or.inr ⟨(hw _ (wd 3 rfl)), (hw _ (wd 7 rfl))⟩)
  obtain ⟨a_PIPELINE_COMPLETED, v_PIPELINE_COMPLETED⟩ := exa_v n2
  have E_PIPELINE_COMPLETED := Exa.start v_PIPELINE_COMPLETED n2
  have S_PIPELINE_COMPLETED := Sta.start v_PIPELINE_COMPLETED (Or.inr ⟨(hw _ (wd 3 rfl)), (hw _ (wd 9 rfl))⟩)
  obtain ⟨a_PIPELINE_FAILED, v_PIPELINE_FAILED⟩ := exa_v n3
  have E_PIPELINE_FAILED := Exa.start v_PIPELINE_FAILED n3
  have S_PIPELINE_FAILED := Sta.start v_PIPELINE_FAILED (Or.inr ⟨(hw _ (wd 3 rfl)), (hw _ (wd 11 rfl))⟩)
  obtain ⟨a_PIPELINE_STOPPED, v_PIPELINE_STOPPED⟩ := exa_v n4
  have E_PIPELINE_STOPPED := Exa.start v_PIPELINE_STOPPED n4
  have S_PIPELINE_STOPPED := Sta.start v_PIPELINE_STOPPED (Or.inr ⟨(hw _ (wd 3 rfl)), (hw _ (wd 13 rfl))⟩)
  obtain ⟨a_PIPELINE_CANCELLED, v_PIPELINE_CANCELLED⟩ := exa_v n5
  have E_PIPELINE_CANCELLED := Exa.start v_PIPELINE_CANCELLED n5
  have S_PIPELINE_CANCELLED := Sta.start v_PIPELINE_CANCELLED (Or.inr ⟨(hw _ (wd 3 rfl)), (hw _ (wd 15 rfl))⟩)
  obtain ⟨a_STAGE_STARTED, v_STAGE_STARTED⟩ := exa_v n6
  have E_STAGE_STARTED := Exa.start v_STAGE_STARTED n6
  have S_STAGE_STARTED := Sta.start v_STAGE_STARTED (Or.inr ⟨(hw _ (wd 3 rfl)), (hw _ (wd 17 rfl))⟩)
  obtain ⟨a_STAGE_COMPLETED, v_STAGE_COMPLETED⟩ := exa_v n7
  have E_STAGE_COMPLETED := Exa.start v_STAGE_COMPLETED n7
  have S_STAGE_COMPLETED := Sta.start v_STAGE_COMPLETED (Or.inr ⟨(hw _ (wd 3 rfl)), (hw _ (wd 19 rfl))⟩)
  obtain ⟨a_STAGE_FAILED, v_STAGE_FAILED⟩ := exa_v n8
  have E_STAGE_FAILED := Exa.start v_STAGE_FAILED n8
  have S_STAGE_FAILED := Sta.start v_STAGE_FAILED (Or.inr ⟨(hw _ (wd 3 rfl)), (hw _ (wd 21 rfl))⟩)
  obtain ⟨a_STAGE_RETRYING, v_STAGE_RETRYING⟩ := exa_v n9
  have E_STAGE_RETRYING := Exa.start v_STAGE_RETRYING n9
  have S_STAGE_RETRYING := Sta.start v_STAGE_RETRYING (Or.inr ⟨(hw _ (wd 3 rfl)), (hw _ (wd 23 rfl))⟩)
  obtain ⟨a_PARALLEL_STARTED, v_PARALLEL_STARTED⟩ := exa_v n10
  have E_PARALLEL_STARTED := Exa.start v_PARALLEL_STARTED n10
  have S_PARALLEL_STARTED := Sta.start v_PARALLEL_STARTED (Or.inr ⟨(hw _ (wd 3 rfl)), (hw _ (wd 25 rfl))⟩)
  obtain ⟨a_PARALLEL_BRANCH_STARTED, v_PARALLEL_BRANCH_STARTED⟩ := exa_v n11
  have E_PARALLEL_BRANCH_STARTED := Exa.start v_PARALLEL_BRANCH_STARTED n11
  have S_PARALLEL_BRANCH_STARTED := Sta.start v_PARALLEL_BRANCH_STARTED (Or.inr ⟨(hw _ (wd 3 rfl)), (hw _ (wd 27 rfl))⟩)
  obtain ⟨a_PARALLEL_BRANCH_COMPLETED, v_PARALLEL_BRANCH_COMPLETED⟩ := exa_v n12
  have E_PARALLEL_BRANCH_COMPLETED := Exa.start v_PARALLEL_BRANCH_COMPLETED n12
  have S_PARALLEL_BRANCH_COMPLETED := Sta.start v_PARALLEL_BRANCH_COMPLETED (Or.inr ⟨(hw _ (wd 3 rfl)), (hw _ (wd 29 rfl))⟩)
  obtain ⟨a_PARALLEL_COMPLETED, v_PARALLEL_COMPLETED⟩ := exa_v n13
  have E_PARALLEL_COMPLETED := Exa.start v_PARALLEL_COMPLETED n13
  have S_PARALLEL_COMPLETED := Sta.start v_PARALLEL_COMPLETED (Or.inr ⟨(hw _ (wd 3 rfl)), (hw _ (wd 31 rfl))⟩)
  obtain ⟨a_INTERVIEW_STARTED, v_INTERVIEW_STARTED⟩ := exa_v n14
  have E_INTERVIEW_STARTED := Exa.start v_INTERVIEW_STARTED n14
  have S_INTERVIEW_STARTED := Sta.start v_INTERVIEW_STARTED (Or.inr ⟨(hw _ (wd 3 rfl)), (hw _ (wd 33 rfl))⟩)
  obtain ⟨a_INTERVIEW_COMPLETED, v_INTERVIEW_COMPLETED⟩ := exa_v n15
  have E_INTERVIEW_COMPLETED := Exa.start v_INTERVIEW_COMPLETED n15
  have S_INTERVIEW_COMPLETED := Sta.start v_INTERVIEW_COMPLETED (Or.inr ⟨(hw _ (wd 3 rfl)), (hw _ (wd 35 rfl))⟩)
  obtain ⟨a_INTERVIEW_TIMEOUT, v_INTERVIEW_TIMEOUT⟩ := exa_v n16
  have E_INTERVIEW_TIMEOUT := Exa.start v_INTERVIEW_TIMEOUT n16
  have S_INTERVIEW_TIMEOUT := Sta.start v_INTERVIEW_TIMEOUT (Or.inr ⟨(hw _ (wd 3 rfl)), (hw _ (wd 37 rfl))⟩)
  obtain ⟨a_CHECKPOINT_SAVED, v_CHECKPOINT_SAVED⟩ := exa_v n17
  have E_CHECKPOINT_SAVED := Exa.start v_CHECKPOINT_SAVED n17
  have S_CHECKPOINT_SAVED := Sta.start v_CHECKPOINT_SAVED (Or.inr ⟨(hw _ (wd 3 rfl)), (hw _ (wd 39 rfl))⟩)
  have R_PIPELINE_STARTED_ordinal := own_fld v_PIPELINE_STARTED n18
  have R_PIPELINE_COMPLETED_ordinal := own_fld v_PIPELINE_COMPLETED n19
  have R_PIPELINE_FAILED_ordinal := own_fld v_PIPELINE_FAILED n20
  have R_PIPELINE_STOPPED_ordinal := own_fld v_PIPELINE_STOPPED n21
  have R_PIPELINE_CANCELLED_ordinal := own_fld v_PIPELINE_CANCELLED n22
  have R_PIPELINE_RESUMED_ordinal := own_fld v_PIPELINE_RESUMED n23
  have R_STAGE_COMPLETED_ordinal := own_fld v_STAGE_COMPLETED n24
  have R_PARALLEL_BRANCH_STARTED_ordinal := own_fld v_PARALLEL_BRANCH_STARTED n25
  have R_STAGE_FAILED_ordinal := own_fld v_STAGE_FAILED n26
  have R_PARALLEL_BRANCH_COMPLETED_ordinal := own_fld v_PARALLEL_BRANCH_COMPLETED n27
  have R_INTERVIEW_TIMEOUT_ordinal := own_fld v_INTERVIEW_TIMEOUT n28
  have R_INTERVIEW_COMPLETED_ordinal := own_fld v_INTERVIEW_COMPLETED n29
  have R_PARALLEL_STARTED_ordinal := own_fld v_PARALLEL_STARTED n30
  have R_PARALLEL_COMPLETED_ordinal := own_fld v_PARALLEL_COMPLETED n31
  have R_STAGE_STARTED_ordinal := own_fld v_STAGE_STARTED n32
  have R_CHECKPOINT_SAVED_ordinal := own_fld v_CHECKPOINT_SAVED n33
  have R_INTERVIEW_STARTED_ordinal := own_fld v_INTERVIEW_STARTED n34
  have R_STAGE_RETRYING_ordinal := own_fld v_STAGE_RETRYING r34
  have G : Own s a_PIPELINE_STARTED a_PIPELINE_RESUMED a_PIPELINE_COMPLETED a_PIPELINE_FAILED a_PIPELINE_STOPPED a_PIPELINE_CANCELLED a_STAGE_STARTED a_STAGE_COMPLETED a_STAGE_FAILED a_STAGE_RETRYING a_PARALLEL_STARTED a_PARALLEL_BRANCH_STARTED a_PARALLEL_BRANCH_COMPLETED a_PARALLEL_COMPLETED a_INTERVIEW_STARTED a_INTERVIEW_COMPLETED a_INTERVIEW_TIMEOUT a_CHECKPOINT_SAVED := ⟨S_PIPELINE_STARTED, E_PIPELINE_STARTED, S_PIPELINE_RESUMED, E_PIPELINE_RESUMED, S_PIPELINE_COMPLETED, E_PIPELINE_COMPLETED, S_PIPELINE_FAILED, E_PIPELINE_FAILED, S_PIPELINE_STOPPED, E_PIPELINE_STOPPED, S_PIPELINE_CANCELLED, E_PIPELINE_CANCELLED, S_STAGE_STARTED, E_STAGE_STARTED, S_STAGE_COMPLETED, E_STAGE_COMPLETED, S_STAGE_FAILED, E_STAGE_FAILED, S_STAGE_RETRYING, E_STAGE_RETRYING, S_PARALLEL_STARTED, E_PARALLEL_STARTED, S_PARALLEL_BRANCH_STARTED, E_PARALLEL_BRANCH_STARTED, S_PARALLEL_BRANCH_COMPLETED, E_PARALLEL_BRANCH_COMPLETED, S_PARALLEL_COMPLETED, E_PARALLEL_COMPLETED, S_INTERVIEW_STARTED, E_INTERVIEW_STARTED, S_INTERVIEW_COMPLETED, E_INTERVIEW_COMPLETED, S_INTERVIEW_TIMEOUT, E_INTERVIEW_TIMEOUT, S_CHECKPOINT_SAVED, E_CHECKPOINT_SAVED, R_PIPELINE_STARTED_ordinal, R_PIPELINE_COMPLETED_ordinal, R_PIPELINE_FAILED_ordinal, R_PIPELINE_STOPPED_ordinal, R_PIPELINE_CANCELLED_ordinal, R_PIPELINE_RESUMED_ordinal, R_STAGE_COMPLETED_ordinal, R_PARALLEL_BRANCH_STARTED_ordinal, R_STAGE_FAILED_ordinal, R_PARALLEL_BRANCH_COMPLETED_ordinal, R_INTERVIEW_TIMEOUT_ordinal, R_INTERVIEW_COMPLETED_ordinal, R_PARALLEL_STARTED_ordinal, R_PARALLEL_COMPLETED_ordinal, R_STAGE_STARTED_ordinal, R_CHECKPOINT_SAVED_ordinal, R_INTERVIEW_STARTED_ordinal, R_STAGE_RETRYING_ordinal⟩
  obtain ⟨n, o, h1, h2, h3, _, L, rfl, ⟨rfl, N⟩, hq⟩ := rm0 l s _ hw tables_1 a_PIPELINE_STARTED a_PIPELINE_RESUMED a_PIPELINE_COMPLETED a_PIPELINE_FAILED a_PIPELINE_STOPPED a_PIPELINE_CANCELLED a_STAGE_STARTED a_STAGE_COMPLETED a_STAGE_FAILED a_STAGE_RETRYING a_PARALLEL_STARTED a_PARALLEL_BRANCH_STARTED a_PARALLEL_BRANCH_COMPLETED a_PARALLEL_COMPLETED a_INTERVIEW_STARTED a_INTERVIEW_COMPLETED a_INTERVIEW_TIMEOUT a_CHECKPOINT_SAVED G i0 s.heap s.heap.size (Old.start s) p e ha hc hk s m _ below hf ((Spec.applies_iff_loose hf).mp happ).1 ⟨rfl, State.Warmed39.refl s, rfl⟩ trivial
  refine ⟨n, _, h1, h2, h3, hpost _ _ _ _ _ _ ⟨Cond.after_iff.mpr rfl, Cond.after_iff.mpr (eq_i res_at (Term.int_eval (1)) rfl), trivial⟩ ⟨hq.1, hq.2.1, (hq.2.2.sift fun y hy => Or.inr (N y hy)).mono (by decide) (by decide)⟩⟩
theorem main_1_1 : Claimed_1_1 := comes_1 fun _ _ _ _ _ _ h hF => ⟨h.1, hF⟩
theorem main_1_2 : Claimed_1_2 := comes_1 fun _ _ _ _ _ _ h hF => ⟨h.2.1, hF⟩
end Jvm.Pilot.@@N@@
namespace Jvm.Pilot.@@N@@
open Jvm Jvm.ClassFile Sem Op Lib Jvm.Free Jvm.Stand Jvm.Pilot.@@N@@.Jvm.D
/-! MADE BY PROGRAM (witnessworld.py) out of the Statement's table words and the real class files: 13 classes; the members and pool entries that the words name. The judged class is class 1, her method 1. -/
namespace start1
open Jvm.ClassFile
def u (s : String) : CpInfo := .utf8 (stringToUtf16 s)
/-- a pool by its gaps: so many unusable entries, then the entry; so many at the end -/
def gap : Nat → List CpInfo → List CpInfo
  | 0, r => r
  | n + 1, r => .unusable :: gap n r
def poolList (es : List (Nat × CpInfo)) (last : Nat) : List CpInfo := es.foldr (fun e r => gap e.1 (e.2 :: r)) (gap last [])
def pool (es : List (Nat × CpInfo)) (last : Nat) : Array CpInfo := ⟨poolList es last⟩
def fileOf (pool : Array CpInfo) (this : Nat) (attrs : Array Attribute := #[]) (ms : Array MethodInfo := #[]) (fl : Nat := 33) (sup : Nat := 0) (ifs : Array Nat := #[]) (fds : Array FieldInfo := #[]) : ClassFile where
  minorVersion := 0
  majorVersion := 65
  constantPool := pool
  accessFlags := fl
  thisClass := this
  superClass := sup
  interfaces := ifs
  fields := fds
  methods := ms
  attributes := attrs
def plain (name : String) (sup : Option ClassId) : Class where
  name := name
  kind := .ordinary
  loader := none
  accessFlags := 33
  super := sup
  interfaces := #[]
  cf := none
  fields := #[]
  methods := #[]
  instanceTypes := #[]
  staticTypes := #[]
  resolved := #[]
  callSites := []
  init := .initialized
  statics := none
  mirror := none

def pool0 : Array CpInfo := pool [(5, u "<init>"), (0, u "()V"), (1, .class_ 10), (1, u "java/lang/Object")] 113

def k0m0 : Method := { name := "<init>", desc := "()V", sig := { parameters := [], returnType := none }, accessFlags := 1, code := none }
/-- java/lang/Object -/
def k0 : Class := { plain "java/lang/Object" none with
  accessFlags := 33
  interfaces := #[]
  cf := some (fileOf pool0 8 #[] #[{ accessFlags := 1, nameIndex := 5, descriptorIndex := 6, attributes := #[] }] 33 0 #[] #[])
  fields := #[]
  methods := #[k0m0]
  instanceTypes := #[]
  staticTypes := #[]
  resolved := Array.replicate 124 none
  statics := none }

def pool1 : Array CpInfo := pool [(2, .class_ 4), (1, u "java/lang/Object"), (0, u "<init>"), (0, u "()V"), (0, .class_ 8), (0, u "com/example/theseus/theseus/engine/EventType"), (0, .fieldref 7 10), (0, .nameAndType 11 12), (0, u "PIPELINE_STARTED"), (0, u "Lcom/example/theseus/theseus/engine/EventType;"), (0, .fieldref 7 14), (0, .nameAndType 15 12), (0, u "PIPELINE_RESUMED"), (0, .fieldref 7 17), (0, .nameAndType 18 12), (0, u "PIPELINE_COMPLETED"), (0, .fieldref 7 20), (0, .nameAndType 21 12), (0, u "PIPELINE_FAILED"), (0, .fieldref 7 23), (0, .nameAndType 24 12), (0, u "PIPELINE_STOPPED"), (0, .fieldref 7 26), (0, .nameAndType 27 12), (0, u "PIPELINE_CANCELLED"), (0, .fieldref 7 29), (0, .nameAndType 30 12), (0, u "STAGE_STARTED"), (0, .fieldref 7 32), (0, .nameAndType 33 12), (0, u "STAGE_COMPLETED"), (0, .fieldref 7 35), (0, .nameAndType 36 12), (0, u "STAGE_FAILED"), (0, .fieldref 7 38), (0, .nameAndType 39 12), (0, u "STAGE_RETRYING"), (0, .fieldref 7 41), (0, .nameAndType 42 12), (0, u "PARALLEL_STARTED"), (0, .fieldref 7 44), (0, .nameAndType 45 12), (0, u "PARALLEL_BRANCH_STARTED"), (0, .fieldref 7 47), (0, .nameAndType 48 12), (0, u "PARALLEL_BRANCH_COMPLETED"), (0, .fieldref 7 50), (0, .nameAndType 51 12), (0, u "PARALLEL_COMPLETED"), (0, .fieldref 7 53), (0, .nameAndType 54 12), (0, u "INTERVIEW_STARTED"), (0, .fieldref 7 56), (0, .nameAndType 57 12), (0, u "INTERVIEW_COMPLETED"), (0, .fieldref 7 59), (0, .nameAndType 60 12), (0, u "INTERVIEW_TIMEOUT"), (0, .fieldref 7 62), (0, .nameAndType 63 12), (0, u "CHECKPOINT_SAVED"), (0, .integer 2147483647), (0, .methodref 7 66), (0, .nameAndType 67 68), (0, u "endsTheWalk"), (0, u "()Z"), (0, .class_ 70), (0, u "com/example/theseus/theseus/engine/EventTypeEndsTheWalkPinLaw"), (2, u "law"), (0, u "(I)Z")] 5

def k1m0 : Method := { name := "<init>", desc := "()V", sig := { parameters := [], returnType := none }, accessFlags := 1, code := none }
def k1c1 : Code := { maxStack := 4, maxLocals := 4, code := code, exceptionTable := #[], attributes := #[] }
def k1m1 : Method := { name := "law", desc := "(I)Z", sig := { parameters := [.int], returnType := some .boolean }, accessFlags := 9, code := some k1c1 }
/-- com/example/theseus/theseus/engine/EventTypeEndsTheWalkPinLaw -/
def k1 : Class := { plain "com/example/theseus/theseus/engine/EventTypeEndsTheWalkPinLaw" (some 0) with
  accessFlags := 49
  interfaces := #[]
  cf := some (fileOf pool1 69 #[] #[{ accessFlags := 1, nameIndex := 5, descriptorIndex := 6, attributes := #[] }, { accessFlags := 9, nameIndex := 73, descriptorIndex := 74, attributes := #[] }] 49 2 #[] #[])
  fields := #[]
  methods := #[k1m0, k1m1]
  instanceTypes := #[]
  staticTypes := #[]
  resolved := Array.replicate 80 none
  statics := none }

def pool2 : Array CpInfo := pool [(1, .class_ 2), (0, u "java/lang/constant/Constable"), (0, .class_ 4), (0, u "java/lang/Object")] 6

/-- java/lang/constant/Constable -/
def k2 : Class := { plain "java/lang/constant/Constable" (some 0) with
  accessFlags := 1537
  interfaces := #[]
  cf := some (fileOf pool2 1 #[] #[] 1537 3 #[] #[])
  fields := #[]
  methods := #[]
  instanceTypes := #[]
  staticTypes := #[]
  resolved := Array.replicate 11 none
  statics := none }

def pool3 : Array CpInfo := pool [(1, .class_ 2), (0, u "java/lang/Comparable"), (0, .class_ 4), (0, u "java/lang/Object")] 7

/-- java/lang/Comparable -/
def k3 : Class := { plain "java/lang/Comparable" (some 0) with
  accessFlags := 1537
  interfaces := #[]
  cf := some (fileOf pool3 1 #[] #[] 1537 3 #[] #[])
  fields := #[]
  methods := #[]
  instanceTypes := #[]
  staticTypes := #[]
  resolved := Array.replicate 12 none
  statics := none }

def pool4 : Array CpInfo := pool [(1, .class_ 2), (0, u "java/io/Serializable"), (0, .class_ 4), (0, u "java/lang/Object")] 2

/-- java/io/Serializable -/
def k4 : Class := { plain "java/io/Serializable" (some 0) with
  accessFlags := 1537
  interfaces := #[]
  cf := some (fileOf pool4 1 #[] #[] 1537 3 #[] #[])
  fields := #[]
  methods := #[]
  instanceTypes := #[]
  staticTypes := #[]
  resolved := Array.replicate 7 none
  statics := none }

def pool5 : Array CpInfo := pool [(2, .class_ 4), (1, u "java/lang/Enum"), (0, u "name"), (0, u "Ljava/lang/String;"), (2, u "ordinal"), (0, u "I"), (1, .class_ 14), (1, u "java/lang/Object"), (4, u "hash"), (86, .class_ 108), (1, u "java/lang/Enum$EnumDesc"), (2, .class_ 112), (0, u "java/lang/constant/Constable"), (0, .class_ 114), (0, u "java/lang/Comparable"), (0, .class_ 116), (0, u "java/io/Serializable")] 87

/-- java/lang/Enum -/
def k5 : Class := { plain "java/lang/Enum" (some 0) with
  accessFlags := 1057
  interfaces := #[2, 3, 4]
  cf := some (fileOf pool5 2 #[.nestMembers #[106]] #[] 1057 12 #[111, 113, 115] #[{ accessFlags := 18, nameIndex := 5, descriptorIndex := 6, attributes := #[] }, { accessFlags := 18, nameIndex := 9, descriptorIndex := 10, attributes := #[] }, { accessFlags := 2, nameIndex := 19, descriptorIndex := 10, attributes := #[] }])
  fields := #[{ name := "name", type := (.object "java/lang/String"), accessFlags := 18, slot := 0, constantValue := 0 }, { name := "ordinal", type := .int, accessFlags := 18, slot := 1, constantValue := 0 }, { name := "hash", type := .int, accessFlags := 2, slot := 2, constantValue := 0 }]
  methods := #[]
  instanceTypes := #[(.object "java/lang/String"), .int, .int]
  staticTypes := #[]
  resolved := Array.replicate 204 none
  statics := none }

def pool6 : Array CpInfo := pool [(1, .class_ 2), (0, u "com/example/theseus/theseus/engine/EventType"), (2, u "PIPELINE_STARTED"), (0, u "Lcom/example/theseus/theseus/engine/EventType;"), (2, u "PIPELINE_RESUMED"), (0, .fieldref 1 11), (0, .nameAndType 12 6), (0, u "PIPELINE_COMPLETED"), (0, .fieldref 1 14), (0, .nameAndType 15 6), (0, u "PIPELINE_FAILED"), (0, .fieldref 1 17), (0, .nameAndType 18 6), (0, u "PIPELINE_STOPPED"), (0, .fieldref 1 20), (0, .nameAndType 21 6), (0, u "PIPELINE_CANCELLED"), (2, u "STAGE_STARTED"), (2, u "STAGE_COMPLETED"), (2, u "STAGE_FAILED"), (2, u "STAGE_RETRYING"), (2, u "PARALLEL_STARTED"), (2, u "PARALLEL_BRANCH_STARTED"), (2, u "PARALLEL_BRANCH_COMPLETED"), (2, u "PARALLEL_COMPLETED"), (2, u "INTERVIEW_STARTED"), (2, u "INTERVIEW_COMPLETED"), (2, u "INTERVIEW_TIMEOUT"), (2, u "CHECKPOINT_SAVED"), (2, u "$VALUES"), (0, u "[Lcom/example/theseus/theseus/engine/EventType;"), (6, .class_ 70), (1, u "java/lang/Enum"), (24, u "written"), (0, u "Ljava/lang/String;"), (8, u "fields"), (0, u "Ljava/util/List;"), (95, u "endsTheWalk"), (0, u "()Z")] 5

def k6c0 : Code := { maxStack := 2, maxLocals := 1, code := prog_29_method_7_code, exceptionTable := #[], attributes := #[] }
def k6m0 : Method := { name := "endsTheWalk", desc := "()Z", sig := { parameters := [], returnType := some .boolean }, accessFlags := 1, code := some k6c0 }
/-- com/example/theseus/theseus/engine/EventType -/
def k6 : Class := { plain "com/example/theseus/theseus/engine/EventType" (some 5) with
  accessFlags := 16433
  interfaces := #[]
  cf := some (fileOf pool6 1 #[] #[{ accessFlags := 1, nameIndex := 202, descriptorIndex := 203, attributes := #[] }] 16433 68 #[] #[{ accessFlags := 16409, nameIndex := 5, descriptorIndex := 6, attributes := #[] }, { accessFlags := 16409, nameIndex := 9, descriptorIndex := 6, attributes := #[] }, { accessFlags := 16409, nameIndex := 12, descriptorIndex := 6, attributes := #[] }, { accessFlags := 16409, nameIndex := 15, descriptorIndex := 6, attributes := #[] }, { accessFlags := 16409, nameIndex := 18, descriptorIndex := 6, attributes := #[] }, { accessFlags := 16409, nameIndex := 21, descriptorIndex := 6, attributes := #[] }, { accessFlags := 16409, nameIndex := 24, descriptorIndex := 6, attributes := #[] }, { accessFlags := 16409, nameIndex := 27, descriptorIndex := 6, attributes := #[] }, { accessFlags := 16409, nameIndex := 30, descriptorIndex := 6, attributes := #[] }, { accessFlags := 16409, nameIndex := 33, descriptorIndex := 6, attributes := #[] }, { accessFlags := 16409, nameIndex := 36, descriptorIndex := 6, attributes := #[] }, { accessFlags := 16409, nameIndex := 39, descriptorIndex := 6, attributes := #[] }, { accessFlags := 16409, nameIndex := 42, descriptorIndex := 6, attributes := #[] }, { accessFlags := 16409, nameIndex := 45, descriptorIndex := 6, attributes := #[] }, { accessFlags := 16409, nameIndex := 48, descriptorIndex := 6, attributes := #[] }, { accessFlags := 16409, nameIndex := 51, descriptorIndex := 6, attributes := #[] }, { accessFlags := 16409, nameIndex := 54, descriptorIndex := 6, attributes := #[] }, { accessFlags := 16409, nameIndex := 57, descriptorIndex := 6, attributes := #[] }, { accessFlags := 18, nameIndex := 105, descriptorIndex := 106, attributes := #[] }, { accessFlags := 18, nameIndex := 95, descriptorIndex := 96, attributes := #[] }, { accessFlags := 4122, nameIndex := 60, descriptorIndex := 61, attributes := #[] }])
  fields := #[{ name := "PIPELINE_STARTED", type := (.object "com/example/theseus/theseus/engine/EventType"), accessFlags := 16409, slot := 0, constantValue := 0 }, { name := "PIPELINE_RESUMED", type := (.object "com/example/theseus/theseus/engine/EventType"), accessFlags := 16409, slot := 1, constantValue := 0 }, { name := "PIPELINE_COMPLETED", type := (.object "com/example/theseus/theseus/engine/EventType"), accessFlags := 16409, slot := 2, constantValue := 0 }, { name := "PIPELINE_FAILED", type := (.object "com/example/theseus/theseus/engine/EventType"), accessFlags := 16409, slot := 3, constantValue := 0 }, { name := "PIPELINE_STOPPED", type := (.object "com/example/theseus/theseus/engine/EventType"), accessFlags := 16409, slot := 4, constantValue := 0 }, { name := "PIPELINE_CANCELLED", type := (.object "com/example/theseus/theseus/engine/EventType"), accessFlags := 16409, slot := 5, constantValue := 0 }, { name := "STAGE_STARTED", type := (.object "com/example/theseus/theseus/engine/EventType"), accessFlags := 16409, slot := 6, constantValue := 0 }, { name := "STAGE_COMPLETED", type := (.object "com/example/theseus/theseus/engine/EventType"), accessFlags := 16409, slot := 7, constantValue := 0 }, { name := "STAGE_FAILED", type := (.object "com/example/theseus/theseus/engine/EventType"), accessFlags := 16409, slot := 8, constantValue := 0 }, { name := "STAGE_RETRYING", type := (.object "com/example/theseus/theseus/engine/EventType"), accessFlags := 16409, slot := 9, constantValue := 0 }, { name := "PARALLEL_STARTED", type := (.object "com/example/theseus/theseus/engine/EventType"), accessFlags := 16409, slot := 10, constantValue := 0 }, { name := "PARALLEL_BRANCH_STARTED", type := (.object "com/example/theseus/theseus/engine/EventType"), accessFlags := 16409, slot := 11, constantValue := 0 }, { name := "PARALLEL_BRANCH_COMPLETED", type := (.object "com/example/theseus/theseus/engine/EventType"), accessFlags := 16409, slot := 12, constantValue := 0 }, { name := "PARALLEL_COMPLETED", type := (.object "com/example/theseus/theseus/engine/EventType"), accessFlags := 16409, slot := 13, constantValue := 0 }, { name := "INTERVIEW_STARTED", type := (.object "com/example/theseus/theseus/engine/EventType"), accessFlags := 16409, slot := 14, constantValue := 0 }, { name := "INTERVIEW_COMPLETED", type := (.object "com/example/theseus/theseus/engine/EventType"), accessFlags := 16409, slot := 15, constantValue := 0 }, { name := "INTERVIEW_TIMEOUT", type := (.object "com/example/theseus/theseus/engine/EventType"), accessFlags := 16409, slot := 16, constantValue := 0 }, { name := "CHECKPOINT_SAVED", type := (.object "com/example/theseus/theseus/engine/EventType"), accessFlags := 16409, slot := 17, constantValue := 0 }, { name := "fields", type := (.object "java/util/List"), accessFlags := 18, slot := 3, constantValue := 0 }, { name := "written", type := (.object "java/lang/String"), accessFlags := 18, slot := 4, constantValue := 0 }, { name := "$VALUES", type := (.array (.object "com/example/theseus/theseus/engine/EventType")), accessFlags := 4122, slot := 18, constantValue := 0 }]
  methods := #[k6m0]
  instanceTypes := #[(.object "java/lang/String"), .int, .int, (.object "java/util/List"), (.object "java/lang/String")]
  staticTypes := #[(.object "com/example/theseus/theseus/engine/EventType"), (.object "com/example/theseus/theseus/engine/EventType"), (.object "com/example/theseus/theseus/engine/EventType"), (.object "com/example/theseus/theseus/engine/EventType"), (.object "com/example/theseus/theseus/engine/EventType"), (.object "com/example/theseus/theseus/engine/EventType"), (.object "com/example/theseus/theseus/engine/EventType"), (.object "com/example/theseus/theseus/engine/EventType"), (.object "com/example/theseus/theseus/engine/EventType"), (.object "com/example/theseus/theseus/engine/EventType"), (.object "com/example/theseus/theseus/engine/EventType"), (.object "com/example/theseus/theseus/engine/EventType"), (.object "com/example/theseus/theseus/engine/EventType"), (.object "com/example/theseus/theseus/engine/EventType"), (.object "com/example/theseus/theseus/engine/EventType"), (.object "com/example/theseus/theseus/engine/EventType"), (.object "com/example/theseus/theseus/engine/EventType"), (.object "com/example/theseus/theseus/engine/EventType"), (.array (.object "com/example/theseus/theseus/engine/EventType"))]
  resolved := Array.replicate 209 none
  statics := some 0 }

def pool7 : Array CpInfo := pool [(1, u "java/lang/Cloneable"), (0, .class_ 1), (0, u "java/lang/Object"), (0, .class_ 3)] 3

/-- java/lang/Cloneable -/
def k7 : Class := { plain "java/lang/Cloneable" (some 0) with
  accessFlags := 1537
  interfaces := #[]
  cf := some (fileOf pool7 2 #[] #[] 1537 4 #[] #[])
  fields := #[]
  methods := #[]
  instanceTypes := #[]
  staticTypes := #[]
  resolved := Array.replicate 8 none
  statics := none }

/-- the primitive byte -/
def k8 : Class := { plain "byte" none with kind := .primitive 'B', accessFlags := 0x411 }
/-- [B -/
def k9 : Class := { plain "[B" (some 0) with kind := .array 8 .byte, interfaces := #[7, 4], accessFlags := 1041 }

/-- the primitive int -/
def k10 : Class := { plain "int" none with kind := .primitive 'I', accessFlags := 0x411 }
/-- [I -/
def k11 : Class := { plain "[I" (some 0) with kind := .array 10 .int, interfaces := #[7, 4], accessFlags := 1041 }

/-- [Lcom/example/theseus/theseus/engine/EventType; -/
def k12 : Class := { plain "[Lcom/example/theseus/theseus/engine/EventType;" (some 0) with kind := .array 6 (.object "com/example/theseus/theseus/engine/EventType"), interfaces := #[7, 4], accessFlags := 1041 }

def heap : Heap := #[{ cls := 6, slots := #[.ref 1, .ref 2, .ref 3, .ref 4, .ref 5, .ref 6, .ref 7, .ref 8, .ref 9, .ref 10, .ref 11, .ref 12, .ref 13, .ref 14, .ref 15, .ref 16, .ref 17, .ref 18, .null], vm := .statics 6 },
  { cls := 6, slots := #[.null, .int 0, .int 0, .null, .null], vm := .none },
  { cls := 6, slots := #[.null, .int 1, .int 0, .null, .null], vm := .none },
  { cls := 6, slots := #[.null, .int 2, .int 0, .null, .null], vm := .none },
  { cls := 6, slots := #[.null, .int 3, .int 0, .null, .null], vm := .none },
  { cls := 6, slots := #[.null, .int 4, .int 0, .null, .null], vm := .none },
  { cls := 6, slots := #[.null, .int 5, .int 0, .null, .null], vm := .none },
  { cls := 6, slots := #[.null, .int 6, .int 0, .null, .null], vm := .none },
  { cls := 6, slots := #[.null, .int 7, .int 0, .null, .null], vm := .none },
  { cls := 6, slots := #[.null, .int 8, .int 0, .null, .null], vm := .none },
  { cls := 6, slots := #[.null, .int 9, .int 0, .null, .null], vm := .none },
  { cls := 6, slots := #[.null, .int 10, .int 0, .null, .null], vm := .none },
  { cls := 6, slots := #[.null, .int 11, .int 0, .null, .null], vm := .none },
  { cls := 6, slots := #[.null, .int 12, .int 0, .null, .null], vm := .none },
  { cls := 6, slots := #[.null, .int 13, .int 0, .null, .null], vm := .none },
  { cls := 6, slots := #[.null, .int 14, .int 0, .null, .null], vm := .none },
  { cls := 6, slots := #[.null, .int 15, .int 0, .null, .null], vm := .none },
  { cls := 6, slots := #[.null, .int 16, .int 0, .null, .null], vm := .none },
  { cls := 6, slots := #[.null, .int 17, .int 0, .null, .null], vm := .none }]
def classes : Array Class := #[k0, k1, k2, k3, k4, k5, k6, k7, k8, k9, k10, k11, k12]
def interned : List (Array UInt16 × Addr) := []
def slotsUsed : Nat := 109
def theMethod : MethodId := ⟨1, 1⟩
def args0 : Array Value := #[.int 5]
def aboutOver (below : List Frame) : State where
  vm := { classes := classes, interned := interned.toArray }
  heap := heap
  slotsUsed := slotsUsed
  threads := #[{ frames := .invoking theMethod args0 :: below }]
def below0 : List Frame := [.native { method := ⟨0, 0⟩, args := #[] }]
def about1 : State := aboutOver below0
def p0 : Program := .bare "" "" ""
def e0 : Env := launch0.env 0 0 0
theorem w_frames : about1.frames = Frame.invoking theMethod args0 :: below0 := rfl
set_option maxRecDepth 65536 in
theorem w_args : argsFit about1.vm theMethod args0 = true := by decide +kernel
set_option maxRecDepth 65536 in
theorem w_heap : heapFits about1 = true := by decide +kernel
set_option maxRecDepth 65536 in
theorem w_runnable : about1.curStatus? = some .runnable := by decide +kernel
set_option maxRecDepth 65536 in
theorem w_alone : about1.alone = true := by decide +kernel
set_option maxRecDepth 65536 in
theorem w_named : about1.methodNamed? x = some theMethod := by decide +kernel
set_option maxRecDepth 65536 in
theorem w_hears : about1.hears theMethod below0 = true := by decide +kernel
set_option maxRecDepth 65536 in
theorem w_ripe : about1.ripe theMethod args0 below0 = true := by decide +kernel
theorem w_running : about1.status = .running := rfl
set_option maxRecDepth 65536 in
theorem w_room : about1.hasRoom e0.platform room_1 = true :=
  launch0.hasRoom_least _ room_1 (by decide +kernel) (by decide +kernel) (by decide +kernel) (by decide +kernel) (by decide +kernel) (by decide +kernel)
theorem allAtoms_all (ts : List Jvm.Cond) (a : Array Jvm.Value) (st : Jvm.State) : (allAtoms ts).before a st = ts.all (fun c => c.before a st) := by
  induction ts with
  | nil => rfl
  | cons c t ih =>
    show (Jvm.Cond.and c (allAtoms t)).before a st = _
    rw [Jvm.Cond.before_and, ih, List.all_cons]
def words1 : List Jvm.Cond := Jvm.Cond.code x code maxLocals ret :: tables_1
/-- a 'code' word, met by the world's own term for the bytes: nothing is compared byte by byte -/
theorem code_word {y : MethodName} {bytes : ByteArray} {mx : Nat} {rt : Option FieldType} {a : Array Value} {s : State} {m : MethodId} {meth : Method} {c : Code} (h1 : s.methodNamed? y = some m) (h2 : s.vm.method? m = some meth) (h3 : meth.code = some c) (h4 : c.code = bytes)
    (h5 : (c.maxLocals == mx && c.exceptionTable.isEmpty && decide (c.maxStack ≤ mostOperands) && decide (meth.sig.returnType = rt) && !meth.locks && decide (parseMethodDescriptor y.desc = some meth.sig)) = true) : (Jvm.Cond.code y bytes mx rt).before a s = true := by
  simp only [Bool.and_eq_true, beq_iff_eq, Bool.not_eq_true', decide_eq_true_eq] at h5
  obtain ⟨⟨⟨⟨⟨g1, g2⟩, g3⟩, g4⟩, g5⟩, g6⟩ := h5
  simp [Cond.before, Cond.holds, Cond.value, h1, h2, h3, h4, g1, g2, g3, g4, g5, g6]
def isCode : Jvm.Cond → Bool
  | .code _ _ _ _ => true
  | _ => false
theorem all_split {L : List Jvm.Cond} {P : Jvm.Cond → Bool} (h1 : L.all (fun c => isCode c || P c) = true) (h2 : ∀ c ∈ L.filter isCode, P c = true) : L.all P = true := by
  refine List.all_eq_true.mpr fun c hc => ?_
  have h := List.all_eq_true.mp h1 c hc
  rcases Bool.eq_false_or_eq_true (isCode c) with hi | hi
  · exact h2 c (List.mem_filter.mpr ⟨hc, hi⟩)
  · simpa [hi] using h
set_option maxRecDepth 65536 in
theorem w_c0 : (Jvm.Cond.code x code maxLocals ret).before args0 about1 = true := code_word (m := ⟨1, 1⟩) (meth := k1m1) (c := k1c1) (by decide +kernel) rfl rfl rfl (by decide +kernel)
set_option maxRecDepth 65536 in
theorem w_c1 : (Jvm.Cond.code ({ cls := "com/example/theseus/theseus/engine/EventType", name := "endsTheWalk", desc := "()Z" } : Jvm.MethodName) prog_29_method_7_code (1 : Nat) (Option.some Jvm.ClassFile.FieldType.boolean)).before args0 about1 = true := code_word (m := ⟨6, 0⟩) (meth := k6m0) (c := k6c0) (by decide +kernel) rfl rfl rfl (by decide +kernel)
def codes1 : List Jvm.Cond := [Jvm.Cond.code x code maxLocals ret, Jvm.Cond.code ({ cls := "com/example/theseus/theseus/engine/EventType", name := "endsTheWalk", desc := "()Z" } : Jvm.MethodName) prog_29_method_7_code (1 : Nat) (Option.some Jvm.ClassFile.FieldType.boolean)]
set_option maxRecDepth 65536 in
theorem codes_eq : words1.filter isCode = codes1 := rfl
theorem w_codes : ∀ c ∈ words1.filter isCode, c.before args0 about1 = true := by
  rw [codes_eq]
  intro c hc
  simp only [codes1, List.mem_cons, List.not_mem_nil, or_false] at hc
  rcases hc with rfl | rfl
  · exact w_c0
  · exact w_c1
set_option maxRecDepth 65536 in
theorem w_t1 : (words1.take 24).all (fun c => isCode c || c.before args0 about1) = true := by decide +kernel
set_option maxRecDepth 65536 in
theorem w_t2 : ((words1.drop 24).take 24).all (fun c => isCode c || c.before args0 about1) = true := by decide +kernel
set_option maxRecDepth 65536 in
theorem w_t3 : ((words1.drop 24).drop 24).all (fun c => isCode c || c.before args0 about1) = true := by decide +kernel
theorem w_tables : (allAtoms (Jvm.Cond.code x code maxLocals ret :: tables_1)).before args0 about1 = true := by
  rw [allAtoms_all]
  show words1.all (fun c => c.before args0 about1) = true
  refine all_split ?_ w_codes
  rw [← List.take_append_drop 24 words1, List.all_append, w_t1, ← List.take_append_drop 24 (words1.drop 24), List.all_append, w_t2, w_t3]
  rfl
set_option maxRecDepth 65536 in
theorem w_case : (Jvm.Cond.and given_1 narrow_1).before args0 about1 = true := by decide +kernel
theorem w_applies : (headSpec (Jvm.Cond.code x code maxLocals ret :: tables_1) room_1).applies x e0.platform about1 = true :=
  (Spec.applies_iff w_frames).mpr ⟨w_running, w_runnable, w_alone, w_named, w_hears, w_ripe, w_room, w_tables⟩
theorem atStart : AtStart classFile x code maxLocals ret World_1 tables_1 room_1 Calls_1 rest_1 Pre_1 launch0 p0 e0 about1 theMethod args0 below0 :=
  ⟨lists_1, trivial, launch0.admits_env _ _ _, launch0.least_env, fairChoices_fair.cas, fairChoices_fair.clock, w_frames, w_args, w_heap, w_applies, trivial, trivial, w_case⟩
end start1
theorem witness_1 : WitnessClaimed_1 := ⟨start1.p0, start1.e0, start1.about1, start1.theMethod, start1.args0, start1.below0, start1.atStart⟩
end Jvm.Pilot.@@N@@
