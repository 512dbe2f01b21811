-- printed by a turned copy of the kit's print (wip/tools/patch_print.py)
import Derived.Test.YtegbajfmhkmolaaDoorQx0
import Derived.Test.YtegbajfmhkmolaaDoorQxf10
import Derived.Test.YtegbajfmhkmolaaDoorQxf11
import Derived.Test.YtegbajfmhkmolaaDoorQxf12
namespace Go.Proofs.YtegbajfmhkmolaaDoor.Q
open Go.RowKit Go.Proofs.YtegbajfmhkmolaaDoorW.PrintWords Go.Proofs.YtegbajfmhkmolaaDoorW.PrintLast Go.Proofs.YtegbajfmhkmolaaDoorW.PrintMore
attribute [local go_sem] max2_int min2_int max_two min_two max_three min_three max_four min_four   -- for this text's walks alone
set_option linter.unusedVariables false
set_option linter.unusedSimpArgs false

/-! ### laws_FnSjStringExact: function 3 -/
mutual
def laws_FnSjStringExact.j0 : Nat → ByteArray → Bool → Option (Bool)
  | 0, _, _ => none
  | k + 1, x0, x14 => if x14 = true then (some true) else (laws_FnSjStringExact.l0 k x0 0)
def laws_FnSjStringExact.l0 : Nat → ByteArray → Int → Option (Bool)
  | 0, _, _ => none
  | k + 1, x0, x3 => if x3 < (x0.size : Int) then (if 0 ≤ x3 then (if (bt x0 x3) < 32 then (laws_FnSjStringExact.j2 k x0 x3 true) else (if (bt x0 x3) > 127 then (laws_FnSjStringExact.j2 k x0 x3 true) else (if (bt x0 x3) = 34 then (laws_FnSjStringExact.j2 k x0 x3 true) else (laws_FnSjStringExact.j2 k x0 x3 ((bt x0 x3) == 92))))) else (none)) else ((impl_SjString.f k x0).bind fun t102 => (if 1 + x0.size ≤ 9223372036854775807 then (if ((⟨#[34]⟩ : ByteArray) ++ x0).size + 1 ≤ 9223372036854775807 then (some (t102.toList == (((⟨#[34]⟩ : ByteArray) ++ x0) ++ (⟨#[34]⟩ : ByteArray)).toList)) else (none)) else (none)))
def laws_FnSjStringExact.j2 : Nat → ByteArray → Int → Bool → Option (Bool)
  | 0, _, _, _ => none
  | k + 1, x0, x3, x42 => if x42 = true then ((impl_SjString.f k x0).bind fun t103 => ((spec_Written.f k x0).bind fun t104 => (some (t103.toList == t104.toList)))) else (laws_FnSjStringExact.l0 k x0 (wrap64 (x3 + 1)))
end
def laws_FnSjStringExact.f (k : Nat) (a0 : ByteArray) : Option (Bool) := if (a0.size : Int) > 2147483647 then (some true) else (if (a0.size : Int) > 4096 then (laws_FnSjStringExact.j0 k a0 true) else ((spec_UTF8.f k a0).bind fun t101 => (laws_FnSjStringExact.j0 k a0 (!t101))))
theorem laws_FnSjStringExact.mono_l : ∀ k, (∀ y0 y1, LeO (laws_FnSjStringExact.j0 k y0 y1) (laws_FnSjStringExact.j0 (k + 1) y0 y1)) ∧ (∀ y0 y1, LeO (laws_FnSjStringExact.l0 k y0 y1) (laws_FnSjStringExact.l0 (k + 1) y0 y1)) ∧ (∀ y0 y1 y2, LeO (laws_FnSjStringExact.j2 k y0 y1 y2) (laws_FnSjStringExact.j2 (k + 1) y0 y1 y2))
  | 0 => ⟨fun _ _ r h => by simp [laws_FnSjStringExact.j0] at h, fun _ _ r h => by simp [laws_FnSjStringExact.l0] at h, fun _ _ _ r h => by simp [laws_FnSjStringExact.j2] at h⟩
  | k + 1 => by
    obtain ⟨ih0, ih1, ih2⟩ := laws_FnSjStringExact.mono_l k
    refine ⟨?_, ?_, ?_⟩
    · intro y0 y1
      unfold laws_FnSjStringExact.j0
      repeat' first
      | (with_reducible exact ih0 _ _)
      | (with_reducible exact ih1 _ _)
      | (with_reducible exact ih2 _ _ _)
      | (with_reducible exact impl_SjString.mono _ _)
      | (with_reducible exact spec_UTF8.mono _ _)
      | (with_reducible exact spec_Written.mono _ _)
      | (with_reducible exact LeO.refl _)
      | (with_reducible exact LeO.none _)
      | (with_reducible refine LeO.ite ?_ ?_)
      | (with_reducible refine LeO.bind ?_ (fun _ => ?_))
      | exact ih0 _ _
      | exact ih1 _ _
      | exact ih2 _ _ _
      | exact impl_SjString.mono _ _
      | exact spec_UTF8.mono _ _
      | exact spec_Written.mono _ _
      | exact LeO.none _
      | refine LeO.ite ?_ ?_
      | refine LeO.bind ?_ (fun _ => ?_)
    · intro y0 y1
      unfold laws_FnSjStringExact.l0
      repeat' first
      | (with_reducible exact ih0 _ _)
      | (with_reducible exact ih1 _ _)
      | (with_reducible exact ih2 _ _ _)
      | (with_reducible exact impl_SjString.mono _ _)
      | (with_reducible exact spec_UTF8.mono _ _)
      | (with_reducible exact spec_Written.mono _ _)
      | (with_reducible exact LeO.refl _)
      | (with_reducible exact LeO.none _)
      | (with_reducible refine LeO.ite ?_ ?_)
      | (with_reducible refine LeO.bind ?_ (fun _ => ?_))
      | exact ih0 _ _
      | exact ih1 _ _
      | exact ih2 _ _ _
      | exact impl_SjString.mono _ _
      | exact spec_UTF8.mono _ _
      | exact spec_Written.mono _ _
      | exact LeO.none _
      | refine LeO.ite ?_ ?_
      | refine LeO.bind ?_ (fun _ => ?_)
    · intro y0 y1 y2
      unfold laws_FnSjStringExact.j2
      repeat' first
      | (with_reducible exact ih0 _ _)
      | (with_reducible exact ih1 _ _)
      | (with_reducible exact ih2 _ _ _)
      | (with_reducible exact impl_SjString.mono _ _)
      | (with_reducible exact spec_UTF8.mono _ _)
      | (with_reducible exact spec_Written.mono _ _)
      | (with_reducible exact LeO.refl _)
      | (with_reducible exact LeO.none _)
      | (with_reducible refine LeO.ite ?_ ?_)
      | (with_reducible refine LeO.bind ?_ (fun _ => ?_))
      | exact ih0 _ _
      | exact ih1 _ _
      | exact ih2 _ _ _
      | exact impl_SjString.mono _ _
      | exact spec_UTF8.mono _ _
      | exact spec_Written.mono _ _
      | exact LeO.none _
      | refine LeO.ite ?_ ?_
      | refine LeO.bind ?_ (fun _ => ?_)
theorem laws_FnSjStringExact.mono : ∀ a0 k, LeO (laws_FnSjStringExact.f k a0) (laws_FnSjStringExact.f (k + 1) a0) := by
  intro a0 k
  obtain ⟨ih0, ih1, ih2⟩ := laws_FnSjStringExact.mono_l k
  unfold laws_FnSjStringExact.f
  repeat' first
      | (with_reducible exact ih0 _ _)
      | (with_reducible exact ih1 _ _)
      | (with_reducible exact ih2 _ _ _)
      | (with_reducible exact impl_SjString.mono _ _)
      | (with_reducible exact spec_UTF8.mono _ _)
      | (with_reducible exact spec_Written.mono _ _)
      | (with_reducible exact LeO.refl _)
      | (with_reducible exact LeO.none _)
      | (with_reducible refine LeO.ite ?_ ?_)
      | (with_reducible refine LeO.bind ?_ (fun _ => ?_))
      | exact ih0 _ _
      | exact ih1 _ _
      | exact ih2 _ _ _
      | exact impl_SjString.mono _ _
      | exact spec_UTF8.mono _ _
      | exact spec_Written.mono _ _
      | exact LeO.none _
      | refine LeO.ite ?_ ?_
      | refine LeO.bind ?_ (fun _ => ?_)
set_option maxHeartbeats 8000000 in
set_option maxRecDepth 100000 in
theorem laws_FnSjStringExact.calls (k : Nat) (a0 : ByteArray) (r : Bool) (w : World) (hG : Laid w) (h : laws_FnSjStringExact.f k a0 = some r) :
    Calls Tryd.prog 3 #[.string a0] w fun e w' => e = .returned (.bool r) ∧ Below w.heap.size w w' := by
  have HG := Aside0.mk hG
  clear hG
  have HB := Aside0.mk (Below.refl w.heap.size w)
  have H : (if (a0.size : Int) > 2147483647 then (some true) else (if (a0.size : Int) > 4096 then (laws_FnSjStringExact.j0 k a0 true) else ((spec_UTF8.f k a0).bind fun t101 => (laws_FnSjStringExact.j0 k a0 (!t101))))) = some r := h
  clear h
  by_cases c2 : (a0.size : Int) > 2147483647
  · rw [if_pos c2] at H
    have c2b0 : decide (2147483647 < (a0.size : Int)) = true := decide_eq_true c2
    have c2b1 : decide (2147483647 < a0.size) = true := decide_eq_true (by omega)
    clear c2
    obtain rfl := Option.some.inj H
    go_enter Tryd.func3, Tryd.ntmps3
    go_wp2
    go_ret
    exact ⟨by first | rfl | (simp [errW_none, errW_some] <;> rfl) | (simp [*, errW_none, errW_some] <;> rfl), by repeat (first | (with_reducible first | exact HB.out | apply below_alloc | apply pw_below_drewN | apply below_drew1) | exact HB.out)⟩
  · rw [if_neg c2] at H
    have c2b0 : decide (2147483647 < (a0.size : Int)) = false := decide_eq_false c2
    have c2b1 : decide (2147483647 < a0.size) = false := decide_eq_false (by omega)
    clear c2
    have HC3 := Aside0.mk H
    clear H
    go_enter Tryd.func3, Tryd.ntmps3
    go_upto_region 3 with (fail)
    go_cut [14] (fun v14 wc => ∃ (kq : Nat) (x14_2 : Bool), v14 = .bool x14_2 ∧ Aside0 (laws_FnSjStringExact.j0 kq a0 x14_2 = some r) ∧ Aside0 (kq ≤ k) ∧ Aside0 (Below w.heap.size w wc))
    case first =>
      have H := HC3.out
      clear HC3
      by_cases c4 : (a0.size : Int) > 4096
      · rw [if_pos c4] at H
        have c4b0 : decide (4096 < (a0.size : Int)) = true := decide_eq_true c4
        have c4b1 : decide (4096 < a0.size) = true := decide_eq_true (by omega)
        clear c4
        (first | rw [c4b0] | (simp only [i64_w, i32_w]; rw [c4b0]) | skip)
        have H' := Aside0.mk H
        clear H
        go_wp2
        go_meet
        case rel => exact ⟨_, (true), (by first | rfl | (simp; done) | (simp [*]; done)), H', ⟨by first | omega | exact Nat.le_refl _⟩, ⟨by repeat (first | (with_reducible first | exact HB.out | apply below_alloc | apply pw_below_drewN | apply below_drew1) | exact HB.out)⟩⟩
      · rw [if_neg c4] at H
        have c4b0 : decide (4096 < (a0.size : Int)) = false := decide_eq_false c4
        have c4b1 : decide (4096 < a0.size) = false := decide_eq_false (by omega)
        clear c4
        (first | rw [c4b0] | (simp only [i64_w, i32_w]; rw [c4b0]) | skip)
        replace H := Option.bind_eq_some_iff.mp H
        obtain ⟨t101, A50, H⟩ := H
        replace H : (laws_FnSjStringExact.j0 k a0 (!t101)) = some r := H
        have A5 := Aside0.mk A50
        clear A50
        have H' := Aside0.mk H
        clear H
        go_wp2_with (first | (go_at_call 10; (with_reducible refine (spec_UTF8.calls k a0 t101 _ A5.out).mono ?_); rintro e w' ⟨rfl, ⟨nd, rfl⟩⟩))
        go_meet
        case rel => exact ⟨_, (!t101), (by first | rfl | (simp; done) | (simp [*]; done)), H', ⟨by first | omega | exact Nat.le_refl _⟩, ⟨by repeat (first | (with_reducible first | exact HB.out | apply below_alloc | apply pw_below_drewN | apply below_drew1) | exact HB.out)⟩⟩
    case rest =>
      clear HC3
      try clear c2
      try clear c2b0
      try clear c2b1
      try clear p2
      try clear c3
      try clear c4
      try clear c4b0
      try clear c4b1
      obtain ⟨kq, x14_2, rfl, HA, HJ2, HB⟩ := hcut
      cases kq with
      | zero => exact absurd HA.out (by simp [laws_FnSjStringExact.j0])
      | succ kj2 =>
        have H := HA.out
        clear HA
        simp only [laws_FnSjStringExact.j0] at H
        by_cases c6 : x14_2 = true
        · subst c6
          have H1 : (some true) = some r := by rw [if_pos rfl] at H; exact H
          clear H
          have H := H1
          clear H1
          obtain rfl := Option.some.inj H
          go_wp2
          go_ret
          exact ⟨by first | rfl | (simp [errW_none, errW_some] <;> rfl) | (simp [*, errW_none, errW_some] <;> rfl), by repeat (first | (with_reducible first | exact HB.out | apply below_alloc | apply pw_below_drewN | apply below_drew1) | exact HB.out)⟩
        · replace c6 := Bool.eq_false_iff.mpr c6
          subst c6
          have H1 : (laws_FnSjStringExact.l0 kj2 a0 0) = some r := by rw [if_neg (show ¬ (false = true) by decide)] at H; exact H
          clear H
          have H := H1
          clear H1
          have H' := Aside0.mk H
          clear H
          go_wp2
          go_loopg [3] kj2 (fun kq v3 w' => ∃ (x3_2 : Int), v3 = .int .i64 x3_2 ∧ Aside0 (laws_FnSjStringExact.l0 kq a0 x3_2 = some r) ∧ Aside0 (kq ≤ kj2) ∧ Aside0 (Below w.heap.size w w'))
          case atStart => exact ⟨(0), (by first | rfl | (simp; done) | (simp [*]; done)), H', ⟨Nat.le_refl _⟩, ⟨by repeat (first | (with_reducible first | exact HB.out | apply below_alloc | apply pw_below_drewN | apply below_drew1) | exact HB.out)⟩⟩
          case round =>
            clear H'
            try clear c2
            try clear c2b0
            try clear c2b1
            try clear p2
            try clear c3
            try clear c4
            try clear c4b0
            try clear c4b1
            try clear c6
            try clear p2
            obtain ⟨x3_2, rfl, HA, HK2, HB⟩ := hrel
            cases gk with
            | zero => exact absurd HA.out (by simp [laws_FnSjStringExact.l0])
            | succ k2 =>
              have H := HA.out
              clear HA
              simp only [laws_FnSjStringExact.l0] at H
              by_cases c7 : x3_2 < (a0.size : Int)
              · rw [if_pos c7] at H
                have c7b0 : decide (x3_2 < (a0.size : Int)) = true := decide_eq_true c7
                clear c7
                have HC8 := Aside0.mk H
                clear H
                go_upto_region 8 with (fail)
                go_cut [42] (fun v42 wc => ∃ (kq : Nat) (x42_7 : Bool), v42 = .bool x42_7 ∧ Aside0 (laws_FnSjStringExact.j2 kq a0 x3_2 x42_7 = some r) ∧ Aside0 (kq ≤ k2) ∧ Aside0 (Below w.heap.size w wc))
                case first =>
                  have H := HC8.out
                  clear HC8
                  by_cases c9 : 0 ≤ x3_2
                  · rw [if_pos c9] at H
                    have c9b0 : decide (0 ≤ x3_2) = true := decide_eq_true c9
                    clear c9
                    (first | rw [c9b0] | (simp only [i64_w, i32_w]; rw [c9b0]) | skip)
                    by_cases c11 : (bt a0 x3_2) < 32
                    · rw [if_pos c11] at H
                      have c11b0 : decide ((bt a0 x3_2) < 32) = true := decide_eq_true c11
                      clear c11
                      have H' := Aside0.mk H
                      clear H
                      have p10 : 0 ≤ (x3_2 : Int) := of_decide_eq_true (by first | (with_reducible assumption) | assumption)
                      have q10 : x3_2 < (a0.size : Int) := of_decide_eq_true (by first | (with_reducible assumption) | assumption)
                      have hx10 := bt_at a0 x3_2
                      replace p10 := eq_true p10
                      replace q10 := eq_true q10
                      go_wp2
                      go_meet
                      case rel => exact ⟨_, (true), (by first | rfl | (simp; done) | (simp [*]; done)), H', ⟨by have := HJ2.out; have := HK2.out; first | omega | exact Nat.le_refl _⟩, ⟨by repeat (first | (with_reducible first | exact HB.out | apply below_alloc | apply pw_below_drewN | apply below_drew1) | exact HB.out)⟩⟩
                    · rw [if_neg c11] at H
                      have c11b0 : decide ((bt a0 x3_2) < 32) = false := decide_eq_false c11
                      clear c11
                      by_cases c13 : (bt a0 x3_2) > 127
                      · rw [if_pos c13] at H
                        have c13b0 : decide (127 < (bt a0 x3_2)) = true := decide_eq_true c13
                        clear c13
                        have H' := Aside0.mk H
                        clear H
                        have p10 : 0 ≤ (x3_2 : Int) := of_decide_eq_true (by first | (with_reducible assumption) | assumption)
                        have q10 : x3_2 < (a0.size : Int) := of_decide_eq_true (by first | (with_reducible assumption) | assumption)
                        have hx10 := bt_at a0 x3_2
                        replace p10 := eq_true p10
                        replace q10 := eq_true q10
                        have p12 : 0 ≤ (x3_2 : Int) := of_decide_eq_true (by first | (with_reducible assumption) | assumption)
                        have q12 : x3_2 < (a0.size : Int) := of_decide_eq_true (by first | (with_reducible assumption) | assumption)
                        have hx12 := bt_at a0 x3_2
                        replace p12 := eq_true p12
                        replace q12 := eq_true q12
                        go_wp2
                        go_meet
                        case rel => exact ⟨_, (true), (by first | rfl | (simp; done) | (simp [*]; done)), H', ⟨by have := HJ2.out; have := HK2.out; first | omega | exact Nat.le_refl _⟩, ⟨by repeat (first | (with_reducible first | exact HB.out | apply below_alloc | apply pw_below_drewN | apply below_drew1) | exact HB.out)⟩⟩
                      · rw [if_neg c13] at H
                        have c13b0 : decide (127 < (bt a0 x3_2)) = false := decide_eq_false c13
                        clear c13
                        by_cases c15 : (bt a0 x3_2) = 34
                        · rw [if_pos c15] at H
                          have c15b0 : ((bt a0 x3_2) == 34) = true := beq_iff_eq.mpr c15
                          have c15b1 : ((bt a0 x3_2) != 34) = false := bne_eq_false_iff_eq.mpr c15
                          clear c15
                          have H' := Aside0.mk H
                          clear H
                          have p10 : 0 ≤ (x3_2 : Int) := of_decide_eq_true (by first | (with_reducible assumption) | assumption)
                          have q10 : x3_2 < (a0.size : Int) := of_decide_eq_true (by first | (with_reducible assumption) | assumption)
                          have hx10 := bt_at a0 x3_2
                          replace p10 := eq_true p10
                          replace q10 := eq_true q10
                          have p12 : 0 ≤ (x3_2 : Int) := of_decide_eq_true (by first | (with_reducible assumption) | assumption)
                          have q12 : x3_2 < (a0.size : Int) := of_decide_eq_true (by first | (with_reducible assumption) | assumption)
                          have hx12 := bt_at a0 x3_2
                          replace p12 := eq_true p12
                          replace q12 := eq_true q12
                          have p14 : 0 ≤ (x3_2 : Int) := of_decide_eq_true (by first | (with_reducible assumption) | assumption)
                          have q14 : x3_2 < (a0.size : Int) := of_decide_eq_true (by first | (with_reducible assumption) | assumption)
                          have hx14 := bt_at a0 x3_2
                          replace p14 := eq_true p14
                          replace q14 := eq_true q14
                          go_wp2
                          go_meet
                          case rel => exact ⟨_, (true), (by first | rfl | (simp; done) | (simp [*]; done)), H', ⟨by have := HJ2.out; have := HK2.out; first | omega | exact Nat.le_refl _⟩, ⟨by repeat (first | (with_reducible first | exact HB.out | apply below_alloc | apply pw_below_drewN | apply below_drew1) | exact HB.out)⟩⟩
                        · rw [if_neg c15] at H
                          have c15b0 : ((bt a0 x3_2) == 34) = false := beq_eq_false_iff_ne.mpr c15
                          have c15b1 : ((bt a0 x3_2) != 34) = true := bne_iff_ne.mpr c15
                          have H' := Aside0.mk H
                          clear H
                          have p10 : 0 ≤ (x3_2 : Int) := of_decide_eq_true (by first | (with_reducible assumption) | assumption)
                          have q10 : x3_2 < (a0.size : Int) := of_decide_eq_true (by first | (with_reducible assumption) | assumption)
                          have hx10 := bt_at a0 x3_2
                          replace p10 := eq_true p10
                          replace q10 := eq_true q10
                          have p12 : 0 ≤ (x3_2 : Int) := of_decide_eq_true (by first | (with_reducible assumption) | assumption)
                          have q12 : x3_2 < (a0.size : Int) := of_decide_eq_true (by first | (with_reducible assumption) | assumption)
                          have hx12 := bt_at a0 x3_2
                          replace p12 := eq_true p12
                          replace q12 := eq_true q12
                          have p14 : 0 ≤ (x3_2 : Int) := of_decide_eq_true (by first | (with_reducible assumption) | assumption)
                          have q14 : x3_2 < (a0.size : Int) := of_decide_eq_true (by first | (with_reducible assumption) | assumption)
                          have hx14 := bt_at a0 x3_2
                          replace p14 := eq_true p14
                          replace q14 := eq_true q14
                          have p16 : 0 ≤ (x3_2 : Int) := of_decide_eq_true (by first | (with_reducible assumption) | assumption)
                          have q16 : x3_2 < (a0.size : Int) := of_decide_eq_true (by first | (with_reducible assumption) | assumption)
                          have hx16 := bt_at a0 x3_2
                          replace p16 := eq_true p16
                          replace q16 := eq_true q16
                          go_wp2
                          go_meet
                          case rel => exact ⟨_, (((bt a0 x3_2) == 92)), (by first | rfl | (simp; done) | (simp [*]; done)), H', ⟨by have := HJ2.out; have := HK2.out; first | omega | exact Nat.le_refl _⟩, ⟨by repeat (first | (with_reducible first | exact HB.out | apply below_alloc | apply pw_below_drewN | apply below_drew1) | exact HB.out)⟩⟩
                  · rw [if_neg c9] at H
                    exact absurd H (by simp)
                case rest =>
                  clear HC8
                  try clear c1
                  try clear p1
                  try clear q1
                  try clear hx1
                  try clear c2
                  try clear c2b0
                  try clear c2b1
                  try clear p2
                  try clear c3
                  try clear c4
                  try clear c4b0
                  try clear c4b1
                  try clear c6
                  try clear c7
                  try clear c7b0
                  try clear c9
                  try clear c9b0
                  try clear p10
                  try clear q10
                  try clear hx10
                  try clear c11
                  try clear c11b0
                  try clear p12
                  try clear q12
                  try clear hx12
                  try clear c13
                  try clear c13b0
                  try clear p14
                  try clear q14
                  try clear hx14
                  try clear c15
                  try clear c15b0
                  try clear c15b1
                  try clear p16
                  try clear q16
                  try clear hx16
                  try clear p10
                  try clear p12
                  try clear p14
                  try clear p16
                  try clear p2
                  try clear q10
                  try clear q12
                  try clear q14
                  try clear q16
                  obtain ⟨kq, x42_7, rfl, HA, HJ7, HB⟩ := hcut
                  cases kq with
                  | zero => exact absurd HA.out (by simp [laws_FnSjStringExact.j2])
                  | succ kj7 =>
                    have H := HA.out
                    clear HA
                    simp only [laws_FnSjStringExact.j2] at H
                    by_cases c17 : x42_7 = true
                    · subst c17
                      have H1 : ((impl_SjString.f kj7 a0).bind fun t103 => ((spec_Written.f kj7 a0).bind fun t104 => (some (t103.toList == t104.toList)))) = some r := by rw [if_pos rfl] at H; exact H
                      clear H
                      have H := H1
                      clear H1
                      replace H := Option.bind_eq_some_iff.mp H
                      obtain ⟨t103, A180, H⟩ := H
                      replace H : ((spec_Written.f kj7 a0).bind fun t104 => (some (t103.toList == t104.toList))) = some r := H
                      have A18 := Aside0.mk A180
                      clear A180
                      replace H := Option.bind_eq_some_iff.mp H
                      obtain ⟨t104, A190, H⟩ := H
                      replace H : (some (t103.toList == t104.toList)) = some r := H
                      have A19 := Aside0.mk A190
                      clear A190
                      obtain rfl := Option.some.inj H
                      go_wp2_with (first | ((with_reducible refine gate_callee (f := 11) rfl ?_); refine goesL_ (some 44) rfl rfl Tryd.func11 (by kernel_rfl) rfl #[.string a0] rfl (by (try simp only [List.map_toArray, List.map_cons, List.map_nil]); first | done | rfl | (simp only [List.length_drop, List.length_take]; rfl)) ?_; (with_reducible refine (impl_SjString.calls kj7 a0 t103 _ ?side1 A18.out).mono ?_); (case side1 => first | exact HG.out | exact Laid.below HG.out (by repeat (first | (with_reducible first | exact HB.out | apply below_alloc | apply pw_below_drewN | apply below_drew1) | exact HB.out))); rintro e w20 ⟨rfl, hb⟩; refine ⟨_, rfl, ?_⟩; have n0_ := Aside0.mk (below_step (by repeat (first | (with_reducible first | exact HB.out | apply below_alloc | apply pw_below_drewN | apply below_drew1) | exact HB.out)) hb); clear HB; have HB := n0_; clear n0_; (try clear hb); (try clear hb2); (try clear hk); (try clear hi)) | ((with_reducible refine gate_callee (f := 12) rfl ?_); refine goesL_ (some 46) rfl rfl Tryd.func12 (by kernel_rfl) rfl #[.string a0] rfl (by (try simp only [List.map_toArray, List.map_cons, List.map_nil]); first | done | rfl | (simp only [List.length_drop, List.length_take]; rfl)) ?_; (with_reducible refine (spec_Written.calls kj7 a0 t104 _ A19.out).mono ?_); rintro e w21 ⟨rfl, hb⟩; refine ⟨_, rfl, ?_⟩; have n0_ := Aside0.mk (below_step (by repeat (first | (with_reducible first | exact HB.out | apply below_alloc | apply pw_below_drewN | apply below_drew1) | exact HB.out)) hb); clear HB; have HB := n0_; clear n0_; (try clear hb); (try clear hb2); (try clear hk); (try clear hi)))
                      go_ret
                      exact ⟨by first | rfl | (simp [errW_none, errW_some] <;> rfl) | (simp [*, errW_none, errW_some] <;> rfl), by repeat (first | (with_reducible first | exact HB.out | apply below_alloc | apply pw_below_drewN | apply below_drew1) | exact HB.out)⟩
                    · replace c17 := Bool.eq_false_iff.mpr c17
                      subst c17
                      have H1 : (laws_FnSjStringExact.l0 kj7 a0 (wrap64 (x3_2 + 1))) = some r := by rw [if_neg (show ¬ (false = true) by decide)] at H; exact H
                      clear H
                      have H := H1
                      clear H1
                      have H' := Aside0.mk H
                      clear H
                      go_wp2
                      go_roundg kj7
                      case measure => have := HJ2.out; have := HK2.out; have := HJ7.out; omega
                      case rel => exact ⟨(wrap64 (x3_2 + 1)), (by first | rfl | (simp; done) | (simp [*]; done)), H', ⟨by have := HJ2.out; have := HK2.out; have := HJ7.out; omega⟩, ⟨by repeat (first | (with_reducible first | exact HB.out | apply below_alloc | apply pw_below_drewN | apply below_drew1) | exact HB.out)⟩⟩
              · rw [if_neg c7] at H
                have c7b0 : decide (x3_2 < (a0.size : Int)) = false := decide_eq_false c7
                clear c7
                replace H := Option.bind_eq_some_iff.mp H
                obtain ⟨t102, A220, H⟩ := H
                replace H : (if 1 + a0.size ≤ 9223372036854775807 then (if ((⟨#[34]⟩ : ByteArray) ++ a0).size + 1 ≤ 9223372036854775807 then (some (t102.toList == (((⟨#[34]⟩ : ByteArray) ++ a0) ++ (⟨#[34]⟩ : ByteArray)).toList)) else (none)) else (none)) = some r := H
                have A22 := Aside0.mk A220
                clear A220
                by_cases c23 : 1 + a0.size ≤ 9223372036854775807
                · rw [if_pos c23] at H
                  have c23b0 := eq_true c23
                  have c23b1 : decide (1 + a0.size ≤ 9223372036854775807) = true := decide_eq_true c23
                  try have c23b2 : (9223372036854775807 < 1 + a0.size) = False := eq_false (Nat.not_lt.2 c23)
                  by_cases c24 : ((⟨#[34]⟩ : ByteArray) ++ a0).size + 1 ≤ 9223372036854775807
                  · rw [if_pos c24] at H
                    have c24b0 := eq_true c24
                    have c24b1 : decide (((⟨#[34]⟩ : ByteArray) ++ a0).size + 1 ≤ 9223372036854775807) = true := decide_eq_true c24
                    try have c24b2 : (9223372036854775807 < ((⟨#[34]⟩ : ByteArray) ++ a0).size + 1) = False := eq_false (Nat.not_lt.2 c24)
                    try have c24b3 : (9223372036854775807 < 1 + a0.size + 1) = False := eq_false (Nat.not_lt.2 (by have h_ := c24; simp only [ByteArray.size_append] at h_; exact h_))
                    obtain rfl := Option.some.inj H
                    go_wp2_with (first | ((with_reducible refine gate_callee (f := 11) rfl ?_); refine goesL_ (some 49) rfl rfl Tryd.func11 (by kernel_rfl) rfl #[.string a0] rfl (by (try simp only [List.map_toArray, List.map_cons, List.map_nil]); first | done | rfl | (simp only [List.length_drop, List.length_take]; rfl)) ?_; (with_reducible refine (impl_SjString.calls k2 a0 t102 _ ?side1 A22.out).mono ?_); (case side1 => first | exact HG.out | exact Laid.below HG.out (by repeat (first | (with_reducible first | exact HB.out | apply below_alloc | apply pw_below_drewN | apply below_drew1) | exact HB.out))); rintro e w25 ⟨rfl, hb⟩; refine ⟨_, rfl, ?_⟩; have n0_ := Aside0.mk (below_step (by repeat (first | (with_reducible first | exact HB.out | apply below_alloc | apply pw_below_drewN | apply below_drew1) | exact HB.out)) hb); clear HB; have HB := n0_; clear n0_; (try clear hb); (try clear hb2); (try clear hk); (try clear hi)))
                    go_ret
                    exact ⟨by first | rfl | (simp [errW_none, errW_some] <;> rfl) | (simp [*, errW_none, errW_some] <;> rfl), by repeat (first | (with_reducible first | exact HB.out | apply below_alloc | apply pw_below_drewN | apply below_drew1) | exact HB.out)⟩
                  · rw [if_neg c24] at H
                    exact absurd H (by simp)
                · rw [if_neg c23] at H
                  exact absurd H (by simp)

/-- THE ONE PURE STATEMENT of laws_FnSjStringExact: yours. -/
def laws_FnSjStringExact.Pure : Prop := ∀ (a0 : ByteArray), a0.size ≤ 140737488351232 → ∃ k, laws_FnSjStringExact.f k a0 = some true
theorem laws_FnSjStringExact.walk (P : laws_FnSjStringExact.Pure) (a0 : ByteArray) (w : World) (hG : Laid w) (w0 : a0.size ≤ 140737488351232) :
    Calls Tryd.prog 3 #[.string a0] w fun e w' => e = .returned (.bool true) ∧ Below w.heap.size w w' := by
  obtain ⟨k, h⟩ := P a0 w0
  refine (laws_FnSjStringExact.calls k a0 true w hG h).mono ?_
  rintro e w' ⟨rfl, hd⟩
  exact ⟨rfl, hd⟩

end Go.Proofs.YtegbajfmhkmolaaDoor.Q
