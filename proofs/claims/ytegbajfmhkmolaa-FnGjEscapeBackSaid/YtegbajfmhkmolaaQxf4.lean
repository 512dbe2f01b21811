-- printed by a turned copy of the kit's print (wip/tools/patch_print.py)
import Derived.Test.YtegbajfmhkmolaaQx0
import Derived.Test.YtegbajfmhkmolaaQxf10
namespace Go.Proofs.Ytegbajfmhkmolaa.Q
open Go.RowKit Go.Proofs.YtegbajfmhkmolaaW.PrintWords Go.Proofs.YtegbajfmhkmolaaW.PrintLast Go.Proofs.YtegbajfmhkmolaaW.PrintMore
attribute [local go_sem] max2_int min2_int max_two min_two max_three min_three max_four min_four   -- for this text's walks alone
set_option linter.unusedVariables false
set_option linter.unusedSimpArgs false

/-! ### laws_FnGjEscapeBack: function 4 -/
def laws_FnGjEscapeBack.l0 : Nat → ByteArray → ByteArray → List Int → Int → Option (Bool)
  | 0, _, _, _, _ => none
  | k + 1, x0, x3, x4, x5 => if x5 < (x3.size : Int) then (if 0 ≤ x5 then (if (bt x3 x5) = 92 then (if (wrap64 (x5 + 1)) = (x3.size : Int) then (some false) else (if 0 ≤ (wrap64 (x5 + 1)) then (if (wrap64 (x5 + 1)) < (x3.size : Int) then (if x4.length < 140737488355328 then (laws_FnGjEscapeBack.l0 k x0 x3 (x4 ++ [bt x3 (wrap64 (x5 + 1))]) (wrap64 ((wrap64 (x5 + 1)) + 1))) else (none)) else (none)) else (none))) else (if (bt x3 x5) = 46 then (some false) else (if (bt x3 x5) = 124 then (some false) else (if (bt x3 x5) = 35 then (some false) else (if (bt x3 x5) = 64 then (some false) else (if (bt x3 x5) = 42 then (some false) else (if (bt x3 x5) = 63 then (some false) else (if (bt x3 x5) = 33 then (some false) else (if (bt x3 x5) = 123 then (some false) else (if (bt x3 x5) = 91 then (some false) else (if (bt x3 x5) = 40 then (some false) else (if x4.length < 140737488355328 then (laws_FnGjEscapeBack.l0 k x0 x3 (x4 ++ [bt x3 x5]) (wrap64 (x5 + 1))) else (none))))))))))))) else (none)) else (some ((strOfNums x4).toList == x0.toList))
def laws_FnGjEscapeBack.f (k : Nat) (a0 : ByteArray) : Option (Bool) := if (a0.size : Int) > 2147483647 then (some true) else (if (a0.size : Int) > 4096 then (some true) else ((impl_GjEscape.f a0).bind fun t101 => (laws_FnGjEscapeBack.l0 k a0 t101 ([] : List Int) 0)))
theorem laws_FnGjEscapeBack.mono_l : ∀ k, (∀ y0 y1 y2 y3, LeO (laws_FnGjEscapeBack.l0 k y0 y1 y2 y3) (laws_FnGjEscapeBack.l0 (k + 1) y0 y1 y2 y3))
  | 0 => fun _ _ _ _ r h => by simp [laws_FnGjEscapeBack.l0] at h
  | k + 1 => by
    have ih0 := laws_FnGjEscapeBack.mono_l k
    · intro y0 y1 y2 y3
      unfold laws_FnGjEscapeBack.l0
      repeat' first
      | (with_reducible exact ih0 _ _ _ _)
      | (with_reducible exact LeO.refl _)
      | (with_reducible exact LeO.none _)
      | (with_reducible refine LeO.ite ?_ ?_)
      | (with_reducible refine LeO.bind ?_ (fun _ => ?_))
      | exact ih0 _ _ _ _
      | exact LeO.none _
      | refine LeO.ite ?_ ?_
      | refine LeO.bind ?_ (fun _ => ?_)
theorem laws_FnGjEscapeBack.mono : ∀ a0 k, LeO (laws_FnGjEscapeBack.f k a0) (laws_FnGjEscapeBack.f (k + 1) a0) := by
  intro a0 k
  have ih0 := laws_FnGjEscapeBack.mono_l k
  unfold laws_FnGjEscapeBack.f
  repeat' first
      | (with_reducible exact ih0 _ _ _ _)
      | (with_reducible exact LeO.refl _)
      | (with_reducible exact LeO.none _)
      | (with_reducible refine LeO.ite ?_ ?_)
      | (with_reducible refine LeO.bind ?_ (fun _ => ?_))
      | exact ih0 _ _ _ _
      | exact LeO.none _
      | refine LeO.ite ?_ ?_
      | refine LeO.bind ?_ (fun _ => ?_)
set_option maxHeartbeats 8000000 in
set_option maxRecDepth 100000 in
theorem laws_FnGjEscapeBack.calls (k : Nat) (a0 : ByteArray) (r : Bool) (w : World) (h : laws_FnGjEscapeBack.f k a0 = some r) :
    Calls Try.prog 4 #[.string a0] w fun e w' => e = .returned (.bool r) ∧ Below w.heap.size w w' := by
  have HB := Aside0.mk (Below.refl w.heap.size w)
  have H : (if (a0.size : Int) > 2147483647 then (some true) else (if (a0.size : Int) > 4096 then (some true) else ((impl_GjEscape.f a0).bind fun t101 => (laws_FnGjEscapeBack.l0 k a0 t101 ([] : List Int) 0)))) = some r := h
  clear h
  by_cases c2 : (a0.size : Int) > 2147483647
  · rw [if_pos c2] at H
    have c2b0 : decide (2147483647 < (a0.size : Int)) = true := decide_eq_true c2
    have c2b1 : decide (2147483647 < a0.size) = true := decide_eq_true (by omega)
    clear c2
    obtain rfl := Option.some.inj H
    go_enter Try.func4, Try.ntmps4
    go_wp2
    go_ret
    exact ⟨by first | rfl | (simp [errW_none, errW_some] <;> rfl) | (simp [*, errW_none, errW_some] <;> rfl), by repeat (first | (with_reducible first | exact HB.out | apply below_alloc | apply pw_below_drewN | apply below_drew1) | exact HB.out)⟩
  · rw [if_neg c2] at H
    have c2b0 : decide (2147483647 < (a0.size : Int)) = false := decide_eq_false c2
    have c2b1 : decide (2147483647 < a0.size) = false := decide_eq_false (by omega)
    clear c2
    by_cases c3 : (a0.size : Int) > 4096
    · rw [if_pos c3] at H
      have c3b0 : decide (4096 < (a0.size : Int)) = true := decide_eq_true c3
      have c3b1 : decide (4096 < a0.size) = true := decide_eq_true (by omega)
      clear c3
      obtain rfl := Option.some.inj H
      go_enter Try.func4, Try.ntmps4
      go_wp2
      go_ret
      exact ⟨by first | rfl | (simp [errW_none, errW_some] <;> rfl) | (simp [*, errW_none, errW_some] <;> rfl), by repeat (first | (with_reducible first | exact HB.out | apply below_alloc | apply pw_below_drewN | apply below_drew1) | exact HB.out)⟩
    · rw [if_neg c3] at H
      have c3b0 : decide (4096 < (a0.size : Int)) = false := decide_eq_false c3
      have c3b1 : decide (4096 < a0.size) = false := decide_eq_false (by omega)
      clear c3
      replace H := Option.bind_eq_some_iff.mp H
      obtain ⟨t101, A40, H⟩ := H
      replace H : (laws_FnGjEscapeBack.l0 k a0 t101 ([] : List Int) 0) = some r := H
      have A4 := Aside0.mk A40
      clear A40
      have H' := Aside0.mk H
      clear H
      go_enter Try.func4, Try.ntmps4
      go_wp2_with (first | ((with_reducible refine gate_callee (f := 10) rfl ?_); refine goesL_ (some 13) rfl rfl Try.func10 (by kernel_rfl) rfl #[.string a0] rfl (by (try simp only [List.map_toArray, List.map_cons, List.map_nil]); first | done | rfl | (simp only [List.length_drop, List.length_take]; rfl)) ?_; (with_reducible refine (impl_GjEscape.calls a0 t101 _ A4.out).mono ?_); rintro e w5 ⟨rfl, hb⟩; refine ⟨_, rfl, ?_⟩; have n0_ := Aside0.mk (below_step (by repeat (first | (with_reducible first | exact HB.out | apply below_alloc | apply pw_below_drewN | apply below_drew1) | exact HB.out)) hb); clear HB; have HB := n0_; clear n0_; (try clear hb); (try clear hb2); (try clear hk); (try clear hi)))
      (try simp only [Act.put, List.setIfInBounds_toArray, List.set_cons_zero, List.set_cons_succ])
      go_loopg [4, 5] k (fun kq v4 v5 w' => ∃ (x4_1 : List Int) (x5_1 : Int), v5 = .int .i64 x5_1 ∧ Aside0 (laws_FnGjEscapeBack.l0 kq a0 t101 x4_1 x5_1 = some r) ∧ Aside0 (kq ≤ k) ∧ Aside0 (Kd.R (Kd.int .u8) 5 w' w.heap.size (fun _ => True) v4 x4_1) ∧ Aside0 (Below w.heap.size w w'))
      case atStart => exact ⟨(([] : List Int)), (0), (by first | rfl | (simp; done) | (simp [*]; done)), H', ⟨Nat.le_refl _⟩, ⟨by first | exact Kd.R_nil _ _ _ _ _ | exact Kd.N_nil _ _ _ _ _ | exact Kd.V_nil _ _ _ _ _ | exact Kd.Q_nil _ _ _ _ _ | exact Kd.S_nil _ _ _ _ _⟩, ⟨by repeat (first | (with_reducible first | exact HB.out | apply below_alloc | apply pw_below_drewN | apply below_drew1) | exact HB.out)⟩⟩
      case round =>
        clear H'
        try clear c1
        try clear c2
        try clear c2b0
        try clear c2b1
        try clear p2
        try clear c3
        try clear c3b0
        try clear c3b1
        try clear c4
        obtain ⟨x4_1, x5_1, rfl, HA, HK1, HO_4, HB⟩ := hrel
        cases gk with
        | zero => exact absurd HA.out (by simp [laws_FnGjEscapeBack.l0])
        | succ k1 =>
          have H := HA.out
          clear HA
          simp only [laws_FnGjEscapeBack.l0] at H
          by_cases c6 : x5_1 < (t101.size : Int)
          · rw [if_pos c6] at H
            have c6b0 : decide (x5_1 < (t101.size : Int)) = true := decide_eq_true c6
            clear c6
            by_cases c7 : 0 ≤ x5_1
            · rw [if_pos c7] at H
              have c7b0 : decide (0 ≤ x5_1) = true := decide_eq_true c7
              clear c7
              by_cases c9 : (bt t101 x5_1) = 92
              · rw [if_pos c9] at H
                have c9b0 : ((bt t101 x5_1) == 92) = true := beq_iff_eq.mpr c9
                have c9b1 : ((bt t101 x5_1) != 92) = false := bne_eq_false_iff_eq.mpr c9
                clear c9
                by_cases c10 : (wrap64 (x5_1 + 1)) = (t101.size : Int)
                · rw [if_pos c10] at H
                  have c10b0 : ((wrap64 (x5_1 + 1)) == (t101.size : Int)) = true := beq_iff_eq.mpr c10
                  have c10b1 : ((wrap64 (x5_1 + 1)) != (t101.size : Int)) = false := bne_eq_false_iff_eq.mpr c10
                  clear c10
                  obtain rfl := Option.some.inj H
                  have p8 : 0 ≤ (x5_1 : Int) := of_decide_eq_true (by first | (with_reducible assumption) | assumption)
                  have q8 : x5_1 < (t101.size : Int) := of_decide_eq_true (by first | (with_reducible assumption) | assumption)
                  have hx8 := bt_at t101 x5_1
                  replace p8 := eq_true p8
                  replace q8 := eq_true q8
                  go_wp2
                  go_ret
                  exact ⟨by first | rfl | (simp [errW_none, errW_some] <;> rfl) | (simp [*, errW_none, errW_some] <;> rfl), by repeat (first | (with_reducible first | exact HB.out | apply below_alloc | apply pw_below_drewN | apply below_drew1) | exact HB.out)⟩
                · rw [if_neg c10] at H
                  have c10b0 : ((wrap64 (x5_1 + 1)) == (t101.size : Int)) = false := beq_eq_false_iff_ne.mpr c10
                  have c10b1 : ((wrap64 (x5_1 + 1)) != (t101.size : Int)) = true := bne_iff_ne.mpr c10
                  obtain ⟨ji11, hji11⟩ : ∃ j_ : Int, (wrap64 (x5_1 + 1)) = j_ := ⟨_, rfl⟩
                  replace H : (if 0 ≤ (ji11) then (if (ji11) < (t101.size : Int) then (if x4_1.length < 140737488355328 then (laws_FnGjEscapeBack.l0 k1 a0 t101 (x4_1 ++ [bt t101 (ji11)]) (wrap64 ((ji11) + 1))) else (none)) else (none)) else (none)) = some r := by first | (rw [hji11] at H; exact H) | (simp only [hji11] at H ⊢; exact H)
                  (try rw [hji11] at c10b0)
                  (try rw [hji11] at c10b1)
                  have hji11w : (IntKind.i64.wrap (x5_1 + 1)) = ji11 := (i64_w _).trans hji11
                  by_cases c12 : 0 ≤ (ji11)
                  · rw [if_pos c12] at H
                    have c12b0 : decide (0 ≤ (ji11)) = true := decide_eq_true c12
                    clear c12
                    by_cases c13 : (ji11) < (t101.size : Int)
                    · rw [if_pos c13] at H
                      have c13b0 : decide ((ji11) < (t101.size : Int)) = true := decide_eq_true c13
                      clear c13
                      by_cases c15 : x4_1.length < 140737488355328
                      · rw [if_pos c15] at H
                        have LMc15 := Aside0.mk c15
                        clear c15
                        obtain ⟨y102, hy102⟩ : ∃ y_ : List Int, y_ = (x4_1 ++ [bt t101 (ji11)]) := ⟨_, rfl⟩
                        replace H : (laws_FnGjEscapeBack.l0 k1 a0 t101 y102 (wrap64 ((ji11) + 1))) = some r := by first | (rw [hy102]; with_reducible exact H) | (have H2_ := (Option.bind_some _ _).symm.trans H; rw [hy102]; with_reducible exact H2_) | (have H2_ := (Option.bind_some _ _).symm.trans H; with_reducible exact H2_) | with_reducible exact H | (rw [hy102]; exact H) | exact H
                        have Ny102 := Aside0.mk hy102
                        clear hy102
                        have H' := Aside0.mk H
                        clear H
                        have p8 : 0 ≤ (x5_1 : Int) := of_decide_eq_true (by first | (with_reducible assumption) | assumption)
                        have q8 : x5_1 < (t101.size : Int) := of_decide_eq_true (by first | (with_reducible assumption) | assumption)
                        have hx8 := bt_at t101 x5_1
                        replace p8 := eq_true p8
                        replace q8 := eq_true q8
                        have p14 : 0 ≤ ((ji11) : Int) := of_decide_eq_true (by first | (with_reducible assumption) | assumption)
                        have q14 : (ji11) < (t101.size : Int) := of_decide_eq_true (by first | (with_reducible assumption) | assumption)
                        have hx14 := bt_at t101 (ji11)
                        replace p14 := eq_true p14
                        replace q14 := eq_true q14
                        go_wp2_with (first | ((with_reducible refine gate_builtin (b := .append) (xs := #[.tmp 42, .tmp 46]) rfl ?_); at_builtin; refine Kd.R_append (Kd.int .u8) (w0 := w) w.heap.size rfl (.tmp 42) (.tmp 46) 25 5 (.int .u8 0) 1 rfl Try.underlying25 info5 rfl (by decide) (by omega) u4 x4_1 (bt t101 (ji11)) [.int .u8 (bt t101 (ji11))] (fun _ => True) (fun _ => False) rfl rfl ?aP (fun _ hk => hk.elim) ?aF ?aO ?aB ?aS ?aL ?_; (case aP => exact rfl); (case aB => exact (by repeat (first | (with_reducible first | exact HB.out | apply below_alloc | apply pw_below_drewN | apply below_drew1) | exact HB.out))); (case aF => exact (fun _ _ => trivial)); (case aO => exact (by (with_reducible repeat (first | apply Kd.R_alloc | apply Kd.R_drewN | apply Kd.R_drew)); exact HO_4.out)); (case aS => exact (below_size (by repeat (first | (with_reducible first | exact HB.out | apply below_alloc | apply pw_below_drewN | apply below_drew1) | exact HB.out)))); (case aL => have := LMc15.out; omega); intro v103 w16 ho hb hg hat; rw [← Ny102.out] at ho; have n0_ := Aside0.mk (hb); have n1_ := Aside0.mk (ho); clear HB; clear HO_4; have HB := n0_; have HO104 := n1_; clear n0_ n1_; clear ho hb hg hat))
                        (try simp only [← hji11])
                        go_roundg k1
                        case measure => have := HK1.out; omega
                        case rel => exact ⟨(y102), (wrap64 ((ji11) + 1)), (by first | rfl | (simp; done) | (simp only [← hji11] <;> (first | rfl | simp)) | (simp [*]; done)), (by first | exact H' | (simp only [← hji11] at H' ⊢; exact H')), ⟨by have := HK1.out; omega⟩, ⟨by (with_reducible repeat (first | apply Kd.R_alloc | apply Kd.R_drewN | apply Kd.R_drew)); exact HO104.out⟩, ⟨by repeat (first | (with_reducible first | exact HB.out | apply below_alloc | apply pw_below_drewN | apply below_drew1) | exact HB.out)⟩⟩
                      · rw [if_neg c15] at H
                        exact absurd H (by simp)
                    · rw [if_neg c13] at H
                      exact absurd H (by simp)
                  · rw [if_neg c12] at H
                    exact absurd H (by simp)
              · rw [if_neg c9] at H
                have c9b0 : ((bt t101 x5_1) == 92) = false := beq_eq_false_iff_ne.mpr c9
                have c9b1 : ((bt t101 x5_1) != 92) = true := bne_iff_ne.mpr c9
                by_cases c17 : (bt t101 x5_1) = 46
                · rw [if_pos c17] at H
                  have c17b0 : ((bt t101 x5_1) == 46) = true := beq_iff_eq.mpr c17
                  have c17b1 : ((bt t101 x5_1) != 46) = false := bne_eq_false_iff_eq.mpr c17
                  clear c17
                  obtain rfl := Option.some.inj H
                  have p8 : 0 ≤ (x5_1 : Int) := of_decide_eq_true (by first | (with_reducible assumption) | assumption)
                  have q8 : x5_1 < (t101.size : Int) := of_decide_eq_true (by first | (with_reducible assumption) | assumption)
                  have hx8 := bt_at t101 x5_1
                  replace p8 := eq_true p8
                  replace q8 := eq_true q8
                  go_wp2
                  go_ret
                  exact ⟨by first | rfl | (simp [errW_none, errW_some] <;> rfl) | (simp [*, errW_none, errW_some] <;> rfl), by repeat (first | (with_reducible first | exact HB.out | apply below_alloc | apply pw_below_drewN | apply below_drew1) | exact HB.out)⟩
                · rw [if_neg c17] at H
                  have c17b0 : ((bt t101 x5_1) == 46) = false := beq_eq_false_iff_ne.mpr c17
                  have c17b1 : ((bt t101 x5_1) != 46) = true := bne_iff_ne.mpr c17
                  by_cases c18 : (bt t101 x5_1) = 124
                  · rw [if_pos c18] at H
                    have c18b0 : ((bt t101 x5_1) == 124) = true := beq_iff_eq.mpr c18
                    have c18b1 : ((bt t101 x5_1) != 124) = false := bne_eq_false_iff_eq.mpr c18
                    clear c18
                    obtain rfl := Option.some.inj H
                    have p8 : 0 ≤ (x5_1 : Int) := of_decide_eq_true (by first | (with_reducible assumption) | assumption)
                    have q8 : x5_1 < (t101.size : Int) := of_decide_eq_true (by first | (with_reducible assumption) | assumption)
                    have hx8 := bt_at t101 x5_1
                    replace p8 := eq_true p8
                    replace q8 := eq_true q8
                    go_wp2
                    go_ret
                    exact ⟨by first | rfl | (simp [errW_none, errW_some] <;> rfl) | (simp [*, errW_none, errW_some] <;> rfl), by repeat (first | (with_reducible first | exact HB.out | apply below_alloc | apply pw_below_drewN | apply below_drew1) | exact HB.out)⟩
                  · rw [if_neg c18] at H
                    have c18b0 : ((bt t101 x5_1) == 124) = false := beq_eq_false_iff_ne.mpr c18
                    have c18b1 : ((bt t101 x5_1) != 124) = true := bne_iff_ne.mpr c18
                    by_cases c19 : (bt t101 x5_1) = 35
                    · rw [if_pos c19] at H
                      have c19b0 : ((bt t101 x5_1) == 35) = true := beq_iff_eq.mpr c19
                      have c19b1 : ((bt t101 x5_1) != 35) = false := bne_eq_false_iff_eq.mpr c19
                      clear c19
                      obtain rfl := Option.some.inj H
                      have p8 : 0 ≤ (x5_1 : Int) := of_decide_eq_true (by first | (with_reducible assumption) | assumption)
                      have q8 : x5_1 < (t101.size : Int) := of_decide_eq_true (by first | (with_reducible assumption) | assumption)
                      have hx8 := bt_at t101 x5_1
                      replace p8 := eq_true p8
                      replace q8 := eq_true q8
                      go_wp2
                      go_ret
                      exact ⟨by first | rfl | (simp [errW_none, errW_some] <;> rfl) | (simp [*, errW_none, errW_some] <;> rfl), by repeat (first | (with_reducible first | exact HB.out | apply below_alloc | apply pw_below_drewN | apply below_drew1) | exact HB.out)⟩
                    · rw [if_neg c19] at H
                      have c19b0 : ((bt t101 x5_1) == 35) = false := beq_eq_false_iff_ne.mpr c19
                      have c19b1 : ((bt t101 x5_1) != 35) = true := bne_iff_ne.mpr c19
                      by_cases c20 : (bt t101 x5_1) = 64
                      · rw [if_pos c20] at H
                        have c20b0 : ((bt t101 x5_1) == 64) = true := beq_iff_eq.mpr c20
                        have c20b1 : ((bt t101 x5_1) != 64) = false := bne_eq_false_iff_eq.mpr c20
                        clear c20
                        obtain rfl := Option.some.inj H
                        have p8 : 0 ≤ (x5_1 : Int) := of_decide_eq_true (by first | (with_reducible assumption) | assumption)
                        have q8 : x5_1 < (t101.size : Int) := of_decide_eq_true (by first | (with_reducible assumption) | assumption)
                        have hx8 := bt_at t101 x5_1
                        replace p8 := eq_true p8
                        replace q8 := eq_true q8
                        go_wp2
                        go_ret
                        exact ⟨by first | rfl | (simp [errW_none, errW_some] <;> rfl) | (simp [*, errW_none, errW_some] <;> rfl), by repeat (first | (with_reducible first | exact HB.out | apply below_alloc | apply pw_below_drewN | apply below_drew1) | exact HB.out)⟩
                      · rw [if_neg c20] at H
                        have c20b0 : ((bt t101 x5_1) == 64) = false := beq_eq_false_iff_ne.mpr c20
                        have c20b1 : ((bt t101 x5_1) != 64) = true := bne_iff_ne.mpr c20
                        by_cases c21 : (bt t101 x5_1) = 42
                        · rw [if_pos c21] at H
                          have c21b0 : ((bt t101 x5_1) == 42) = true := beq_iff_eq.mpr c21
                          have c21b1 : ((bt t101 x5_1) != 42) = false := bne_eq_false_iff_eq.mpr c21
                          clear c21
                          obtain rfl := Option.some.inj H
                          have p8 : 0 ≤ (x5_1 : Int) := of_decide_eq_true (by first | (with_reducible assumption) | assumption)
                          have q8 : x5_1 < (t101.size : Int) := of_decide_eq_true (by first | (with_reducible assumption) | assumption)
                          have hx8 := bt_at t101 x5_1
                          replace p8 := eq_true p8
                          replace q8 := eq_true q8
                          go_wp2
                          go_ret
                          exact ⟨by first | rfl | (simp [errW_none, errW_some] <;> rfl) | (simp [*, errW_none, errW_some] <;> rfl), by repeat (first | (with_reducible first | exact HB.out | apply below_alloc | apply pw_below_drewN | apply below_drew1) | exact HB.out)⟩
                        · rw [if_neg c21] at H
                          have c21b0 : ((bt t101 x5_1) == 42) = false := beq_eq_false_iff_ne.mpr c21
                          have c21b1 : ((bt t101 x5_1) != 42) = true := bne_iff_ne.mpr c21
                          by_cases c22 : (bt t101 x5_1) = 63
                          · rw [if_pos c22] at H
                            have c22b0 : ((bt t101 x5_1) == 63) = true := beq_iff_eq.mpr c22
                            have c22b1 : ((bt t101 x5_1) != 63) = false := bne_eq_false_iff_eq.mpr c22
                            clear c22
                            obtain rfl := Option.some.inj H
                            have p8 : 0 ≤ (x5_1 : Int) := of_decide_eq_true (by first | (with_reducible assumption) | assumption)
                            have q8 : x5_1 < (t101.size : Int) := of_decide_eq_true (by first | (with_reducible assumption) | assumption)
                            have hx8 := bt_at t101 x5_1
                            replace p8 := eq_true p8
                            replace q8 := eq_true q8
                            go_wp2
                            go_ret
                            exact ⟨by first | rfl | (simp [errW_none, errW_some] <;> rfl) | (simp [*, errW_none, errW_some] <;> rfl), by repeat (first | (with_reducible first | exact HB.out | apply below_alloc | apply pw_below_drewN | apply below_drew1) | exact HB.out)⟩
                          · rw [if_neg c22] at H
                            have c22b0 : ((bt t101 x5_1) == 63) = false := beq_eq_false_iff_ne.mpr c22
                            have c22b1 : ((bt t101 x5_1) != 63) = true := bne_iff_ne.mpr c22
                            by_cases c23 : (bt t101 x5_1) = 33
                            · rw [if_pos c23] at H
                              have c23b0 : ((bt t101 x5_1) == 33) = true := beq_iff_eq.mpr c23
                              have c23b1 : ((bt t101 x5_1) != 33) = false := bne_eq_false_iff_eq.mpr c23
                              clear c23
                              obtain rfl := Option.some.inj H
                              have p8 : 0 ≤ (x5_1 : Int) := of_decide_eq_true (by first | (with_reducible assumption) | assumption)
                              have q8 : x5_1 < (t101.size : Int) := of_decide_eq_true (by first | (with_reducible assumption) | assumption)
                              have hx8 := bt_at t101 x5_1
                              replace p8 := eq_true p8
                              replace q8 := eq_true q8
                              go_wp2
                              go_ret
                              exact ⟨by first | rfl | (simp [errW_none, errW_some] <;> rfl) | (simp [*, errW_none, errW_some] <;> rfl), by repeat (first | (with_reducible first | exact HB.out | apply below_alloc | apply pw_below_drewN | apply below_drew1) | exact HB.out)⟩
                            · rw [if_neg c23] at H
                              have c23b0 : ((bt t101 x5_1) == 33) = false := beq_eq_false_iff_ne.mpr c23
                              have c23b1 : ((bt t101 x5_1) != 33) = true := bne_iff_ne.mpr c23
                              by_cases c24 : (bt t101 x5_1) = 123
                              · rw [if_pos c24] at H
                                have c24b0 : ((bt t101 x5_1) == 123) = true := beq_iff_eq.mpr c24
                                have c24b1 : ((bt t101 x5_1) != 123) = false := bne_eq_false_iff_eq.mpr c24
                                clear c24
                                obtain rfl := Option.some.inj H
                                have p8 : 0 ≤ (x5_1 : Int) := of_decide_eq_true (by first | (with_reducible assumption) | assumption)
                                have q8 : x5_1 < (t101.size : Int) := of_decide_eq_true (by first | (with_reducible assumption) | assumption)
                                have hx8 := bt_at t101 x5_1
                                replace p8 := eq_true p8
                                replace q8 := eq_true q8
                                go_wp2
                                go_ret
                                exact ⟨by first | rfl | (simp [errW_none, errW_some] <;> rfl) | (simp [*, errW_none, errW_some] <;> rfl), by repeat (first | (with_reducible first | exact HB.out | apply below_alloc | apply pw_below_drewN | apply below_drew1) | exact HB.out)⟩
                              · rw [if_neg c24] at H
                                have c24b0 : ((bt t101 x5_1) == 123) = false := beq_eq_false_iff_ne.mpr c24
                                have c24b1 : ((bt t101 x5_1) != 123) = true := bne_iff_ne.mpr c24
                                by_cases c25 : (bt t101 x5_1) = 91
                                · rw [if_pos c25] at H
                                  have c25b0 : ((bt t101 x5_1) == 91) = true := beq_iff_eq.mpr c25
                                  have c25b1 : ((bt t101 x5_1) != 91) = false := bne_eq_false_iff_eq.mpr c25
                                  clear c25
                                  obtain rfl := Option.some.inj H
                                  have p8 : 0 ≤ (x5_1 : Int) := of_decide_eq_true (by first | (with_reducible assumption) | assumption)
                                  have q8 : x5_1 < (t101.size : Int) := of_decide_eq_true (by first | (with_reducible assumption) | assumption)
                                  have hx8 := bt_at t101 x5_1
                                  replace p8 := eq_true p8
                                  replace q8 := eq_true q8
                                  go_wp2
                                  go_ret
                                  exact ⟨by first | rfl | (simp [errW_none, errW_some] <;> rfl) | (simp [*, errW_none, errW_some] <;> rfl), by repeat (first | (with_reducible first | exact HB.out | apply below_alloc | apply pw_below_drewN | apply below_drew1) | exact HB.out)⟩
                                · rw [if_neg c25] at H
                                  have c25b0 : ((bt t101 x5_1) == 91) = false := beq_eq_false_iff_ne.mpr c25
                                  have c25b1 : ((bt t101 x5_1) != 91) = true := bne_iff_ne.mpr c25
                                  by_cases c26 : (bt t101 x5_1) = 40
                                  · rw [if_pos c26] at H
                                    have c26b0 : ((bt t101 x5_1) == 40) = true := beq_iff_eq.mpr c26
                                    have c26b1 : ((bt t101 x5_1) != 40) = false := bne_eq_false_iff_eq.mpr c26
                                    clear c26
                                    obtain rfl := Option.some.inj H
                                    have p8 : 0 ≤ (x5_1 : Int) := of_decide_eq_true (by first | (with_reducible assumption) | assumption)
                                    have q8 : x5_1 < (t101.size : Int) := of_decide_eq_true (by first | (with_reducible assumption) | assumption)
                                    have hx8 := bt_at t101 x5_1
                                    replace p8 := eq_true p8
                                    replace q8 := eq_true q8
                                    go_wp2
                                    go_ret
                                    exact ⟨by first | rfl | (simp [errW_none, errW_some] <;> rfl) | (simp [*, errW_none, errW_some] <;> rfl), by repeat (first | (with_reducible first | exact HB.out | apply below_alloc | apply pw_below_drewN | apply below_drew1) | exact HB.out)⟩
                                  · rw [if_neg c26] at H
                                    have c26b0 : ((bt t101 x5_1) == 40) = false := beq_eq_false_iff_ne.mpr c26
                                    have c26b1 : ((bt t101 x5_1) != 40) = true := bne_iff_ne.mpr c26
                                    by_cases c28 : x4_1.length < 140737488355328
                                    · rw [if_pos c28] at H
                                      have LMc28 := Aside0.mk c28
                                      clear c28
                                      obtain ⟨y105, hy105⟩ : ∃ y_ : List Int, y_ = (x4_1 ++ [bt t101 x5_1]) := ⟨_, rfl⟩
                                      replace H : (laws_FnGjEscapeBack.l0 k1 a0 t101 y105 (wrap64 (x5_1 + 1))) = some r := by first | (rw [hy105]; with_reducible exact H) | (have H2_ := (Option.bind_some _ _).symm.trans H; rw [hy105]; with_reducible exact H2_) | (have H2_ := (Option.bind_some _ _).symm.trans H; with_reducible exact H2_) | with_reducible exact H | (rw [hy105]; exact H) | exact H
                                      have Ny105 := Aside0.mk hy105
                                      clear hy105
                                      have H' := Aside0.mk H
                                      clear H
                                      have p8 : 0 ≤ (x5_1 : Int) := of_decide_eq_true (by first | (with_reducible assumption) | assumption)
                                      have q8 : x5_1 < (t101.size : Int) := of_decide_eq_true (by first | (with_reducible assumption) | assumption)
                                      have hx8 := bt_at t101 x5_1
                                      replace p8 := eq_true p8
                                      replace q8 := eq_true q8
                                      have p27 : 0 ≤ (x5_1 : Int) := of_decide_eq_true (by first | (with_reducible assumption) | assumption)
                                      have q27 : x5_1 < (t101.size : Int) := of_decide_eq_true (by first | (with_reducible assumption) | assumption)
                                      have hx27 := bt_at t101 x5_1
                                      replace p27 := eq_true p27
                                      replace q27 := eq_true q27
                                      go_wp2_with (first | ((with_reducible refine gate_builtin (b := .append) (xs := #[.tmp 42, .tmp 46]) rfl ?_); at_builtin; refine Kd.R_append (Kd.int .u8) (w0 := w) w.heap.size rfl (.tmp 42) (.tmp 46) 25 5 (.int .u8 0) 1 rfl Try.underlying25 info5 rfl (by decide) (by omega) u4 x4_1 (bt t101 x5_1) [.int .u8 (bt t101 x5_1)] (fun _ => True) (fun _ => False) rfl rfl ?aP (fun _ hk => hk.elim) ?aF ?aO ?aB ?aS ?aL ?_; (case aP => exact rfl); (case aB => exact (by repeat (first | (with_reducible first | exact HB.out | apply below_alloc | apply pw_below_drewN | apply below_drew1) | exact HB.out))); (case aF => exact (fun _ _ => trivial)); (case aO => exact (by (with_reducible repeat (first | apply Kd.R_alloc | apply Kd.R_drewN | apply Kd.R_drew)); exact HO_4.out)); (case aS => exact (below_size (by repeat (first | (with_reducible first | exact HB.out | apply below_alloc | apply pw_below_drewN | apply below_drew1) | exact HB.out)))); (case aL => have := LMc28.out; omega); intro v106 w29 ho hb hg hat; rw [← Ny105.out] at ho; have n0_ := Aside0.mk (hb); have n1_ := Aside0.mk (ho); clear HB; clear HO_4; have HB := n0_; have HO107 := n1_; clear n0_ n1_; clear ho hb hg hat))
                                      go_roundg k1
                                      case measure => have := HK1.out; omega
                                      case rel => exact ⟨(y105), (wrap64 (x5_1 + 1)), (by first | rfl | (simp; done) | (simp [*]; done)), H', ⟨by have := HK1.out; omega⟩, ⟨by (with_reducible repeat (first | apply Kd.R_alloc | apply Kd.R_drewN | apply Kd.R_drew)); exact HO107.out⟩, ⟨by repeat (first | (with_reducible first | exact HB.out | apply below_alloc | apply pw_below_drewN | apply below_drew1) | exact HB.out)⟩⟩
                                    · rw [if_neg c28] at H
                                      exact absurd H (by simp)
            · rw [if_neg c7] at H
              exact absurd H (by simp)
          · rw [if_neg c6] at H
            have c6b0 : decide (x5_1 < (t101.size : Int)) = false := decide_eq_false c6
            clear c6
            obtain rfl := Option.some.inj H
            have hcv30 := own_string (P := Try.prog) Try.underlying25 Try.underlying5 Try.underlying9 (Kd.own_of_R HO_4.out)
            go_wp2
            go_ret
            exact ⟨by first | rfl | (simp [errW_none, errW_some] <;> rfl) | (simp [*, errW_none, errW_some] <;> rfl), by repeat (first | (with_reducible first | exact HB.out | apply below_alloc | apply pw_below_drewN | apply below_drew1) | exact HB.out)⟩

/-- THE ONE PURE STATEMENT of laws_FnGjEscapeBack: yours. -/
def laws_FnGjEscapeBack.Pure : Prop := ∀ (a0 : ByteArray), a0.size ≤ 140737488351232 → ∃ k, laws_FnGjEscapeBack.f k a0 = some true
theorem laws_FnGjEscapeBack.walk (P : laws_FnGjEscapeBack.Pure) (a0 : ByteArray) (w : World) (w0 : a0.size ≤ 140737488351232) :
    Calls Try.prog 4 #[.string a0] w fun e w' => e = .returned (.bool true) ∧ Below w.heap.size w w' := by
  obtain ⟨k, h⟩ := P a0 w0
  refine (laws_FnGjEscapeBack.calls k a0 true w h).mono ?_
  rintro e w' ⟨rfl, hd⟩
  exact ⟨rfl, hd⟩

end Go.Proofs.Ytegbajfmhkmolaa.Q
