/- The words, walks and laws that the proof rests on, laid together (part 3). -/
import Derived.Test.YtlokkefnbffjnaaDoorKFnFjValid2
section
namespace Go.Proofs.YtlokkefnbffjnaaDoor.J
open Go.RowKit Go.Proofs.YtlokkefnbffjnaaDoorW.PrintWords Go.Proofs.YtlokkefnbffjnaaDoorW.PrintLast Go.Proofs.YtlokkefnbffjnaaDoorW.PrintMore
attribute [local go_sem] max2_int min2_int max_two min_two max_three min_three max_four min_four
set_option linter.unusedVariables false
set_option linter.unusedSimpArgs false
attribute [-simp] ByteArray.size_extract
mutual
def spec_unit.j0 : Nat → ByteArray → Int → Bool → Option (Int × Bool)
  | 0, _, _, _ => none
  | k + 1, x0, x1, x27 => if x27 = true then (some (0, false)) else (spec_unit.l0 k x0 x1 0 (wrap64 (x1 + 2)))
def spec_unit.l0 : Nat → ByteArray → Int → Int → Int → Option (Int × Bool)
  | 0, _, _, _, _ => none
  | k + 1, x0, x1, x6, x7 => if x7 < (wrap64 (x1 + 6)) then (if 0 ≤ x7 then (if x7 < (x0.size : Int) then ((spec_hexDigit.f k (bt x0 x7)).bind fun bt101 => (if bt101.2 = true then (spec_unit.l0 k x0 x1 (wrap64 ((wrap64 (x6 * 16)) + bt101.1)) (wrap64 (x7 + 1))) else (some (0, false)))) else (none)) else (none)) else (some (x6, true))
end
def spec_unit.f (k : Nat) (a0 : ByteArray) (a1 : Int) : Option (Int × Bool) := if (wrap64 ((a0.size : Int) - a1)) < 6 then (spec_unit.j0 k a0 a1 true) else (if 0 ≤ a1 then (if a1 < (a0.size : Int) then (if (bt a0 a1) = 92 then (if 0 ≤ (wrap64 (a1 + 1)) then (if (wrap64 (a1 + 1)) < (a0.size : Int) then (spec_unit.j0 k a0 a1 ((bt a0 (wrap64 (a1 + 1))) != 117)) else (none)) else (none)) else (spec_unit.j0 k a0 a1 true)) else (none)) else (none))
theorem spec_unit.mono_l : ∀ k, (∀ y0 y1 y2, LeO (spec_unit.j0 k y0 y1 y2) (spec_unit.j0 (k + 1) y0 y1 y2)) ∧ (∀ y0 y1 y2 y3, LeO (spec_unit.l0 k y0 y1 y2 y3) (spec_unit.l0 (k + 1) y0 y1 y2 y3))
 | 0 => ⟨fun _ _ _ r h => by simp [spec_unit.j0] at h, fun _ _ _ _ r h => by simp [spec_unit.l0] at h⟩
 | k + 1 => by
  obtain ⟨ih0, ih1⟩ := spec_unit.mono_l k
  refine ⟨?_, ?_⟩
  ·intro y0 y1 y2
   unfold spec_unit.j0
   repeat' first
   | (with_reducible exact ih0 _ _ _)
   | (with_reducible exact ih1 _ _ _ _)
   | (with_reducible exact spec_hexDigit.mono _ _)
   | (with_reducible exact LeO.refl _)
   | (with_reducible exact LeO.none _)
   | (with_reducible refine LeO.ite ?_ ?_)
   | (with_reducible refine LeO.bind ?_ (fun _ => ?_))
   | exact ih0 _ _ _
   | exact ih1 _ _ _ _
   | exact spec_hexDigit.mono _ _
   | exact LeO.none _
   | refine LeO.ite ?_ ?_
   | refine LeO.bind ?_ (fun _ => ?_)
  ·intro y0 y1 y2 y3
   unfold spec_unit.l0
   repeat' first
   | (with_reducible exact ih0 _ _ _)
   | (with_reducible exact ih1 _ _ _ _)
   | (with_reducible exact spec_hexDigit.mono _ _)
   | (with_reducible exact LeO.refl _)
   | (with_reducible exact LeO.none _)
   | (with_reducible refine LeO.ite ?_ ?_)
   | (with_reducible refine LeO.bind ?_ (fun _ => ?_))
   | exact ih0 _ _ _
   | exact ih1 _ _ _ _
   | exact spec_hexDigit.mono _ _
   | exact LeO.none _
   | refine LeO.ite ?_ ?_
   | refine LeO.bind ?_ (fun _ => ?_)
theorem spec_unit.mono : ∀ a0 a1 k, LeO (spec_unit.f k a0 a1) (spec_unit.f (k + 1) a0 a1) := by
 intro a0 a1 k
 obtain ⟨ih0, ih1⟩ := spec_unit.mono_l k
 unfold spec_unit.f
 repeat' first
  | (with_reducible exact ih0 _ _ _)
  | (with_reducible exact ih1 _ _ _ _)
  | (with_reducible exact spec_hexDigit.mono _ _)
  | (with_reducible exact LeO.refl _)
  | (with_reducible exact LeO.none _)
  | (with_reducible refine LeO.ite ?_ ?_)
  | (with_reducible refine LeO.bind ?_ (fun _ => ?_))
  | exact ih0 _ _ _
  | exact ih1 _ _ _ _
  | exact spec_hexDigit.mono _ _
  | exact LeO.none _
  | refine LeO.ite ?_ ?_
  | refine LeO.bind ?_ (fun _ => ?_)
set_option maxHeartbeats 8000000 in
set_option maxRecDepth 100000 in
theorem spec_unit.calls (k : Nat) (a0 : ByteArray) (a1 : Int) (r1 : Int) (r2 : Bool) (w : World) (h : spec_unit.f k a0 a1 = some (r1, r2)) :
 Calls Tryd.prog 48 #[.string a0, .int .i64 a1] w fun e w' => e = .returned (.tuple #[.int .i64 r1, .bool r2]) ∧ Drawn0 w w' := by
 have H : (if (wrap64 ((a0.size : Int) - a1)) < 6 then (spec_unit.j0 k a0 a1 true) else (if 0 ≤ a1 then (if a1 < (a0.size : Int) then (if (bt a0 a1) = 92 then (if 0 ≤ (wrap64 (a1 + 1)) then (if (wrap64 (a1 + 1)) < (a0.size : Int) then (spec_unit.j0 k a0 a1 ((bt a0 (wrap64 (a1 + 1))) != 117)) else (none)) else (none)) else (spec_unit.j0 k a0 a1 true)) else (none)) else (none))) = some (r1, r2) := h
 clear h
 have HC3 := mk0 H
 clear H
 go_enter Tryd.func48, Tryd.ntmps48
 go_upto_region 1 with (fail)
 go_cut [27] (fun v27 wc => ∃ (kq : Nat) (x27_2 : Bool), v27 = .bool x27_2 ∧ Aside0 (spec_unit.j0 kq a0 a1 x27_2 = some (r1, r2)) ∧ Aside0 (kq ≤ k) ∧ Drawn0 w wc)
 case first =>
  have H := HC3.out
  clear HC3
  by_cases c4 : (wrap64 ((a0.size : Int) - a1)) < 6
  ·rw [if_pos c4] at H
   have c4b0 : decide ((wrap64 ((a0.size : Int) - a1)) < 6) = true := decide_eq_true c4
   clear c4
   (skip)
   have H' := mk0 H
   clear H
   go_wp2
   go_meet
   case rel => exact ⟨_, (true), (by rfl), H', ⟨by omega⟩, by repeat (first | exact Drawn0.refl _ | apply Drawn0.step)⟩
  rw [if_neg c4] at H
  have c4b0 : decide ((wrap64 ((a0.size : Int) - a1)) < 6) = false := decide_eq_false c4
  clear c4
  (skip)
  by_cases c5 : 0 ≤ a1
  rotate_left
  ·rw [if_neg c5] at H
   exact absurd H (by simp)
  rw [if_pos c5] at H
  have c5b0 : decide (0 ≤ a1) = true := decide_eq_true c5
  clear c5
  by_cases c6 : a1 < (a0.size : Int)
  rotate_left
  ·rw [if_neg c6] at H
   exact absurd H (by simp)
  rw [if_pos c6] at H
  have c6b0 : decide (a1 < (a0.size : Int)) = true := decide_eq_true c6
  clear c6
  by_cases c8 : (bt a0 a1) = 92
  rotate_left
  ·rw [if_neg c8] at H
   have c8b0 : ((bt a0 a1) == 92) = false := beq_eq_false_iff_ne.mpr c8
   have c8b1 : ((bt a0 a1) != 92) = true := bne_iff_ne.mpr c8
   have H' := mk0 H
   clear H
   have p7 : 0 ≤ (a1 : Int) := of_decide_eq_true zq5
   have q7 : a1 < (a0.size : Int) := of_decide_eq_true zq5
   have hx7 := bt_at a0 a1
   replace p7 := eq_true p7
   replace q7 := eq_true q7
   go_wp2
   go_meet
   case rel => exact ⟨_, (true), (by rfl), H', ⟨by omega⟩, by repeat (first | exact Drawn0.refl _ | apply Drawn0.step)⟩
  rw [if_pos c8] at H
  have c8b0 : ((bt a0 a1) == 92) = true := beq_iff_eq.mpr c8
  have c8b1 : ((bt a0 a1) != 92) = false := bne_eq_false_iff_eq.mpr c8
  clear c8
  obtain ⟨ji9, hji9⟩ : ∃ j_ : Int, (wrap64 (a1 + 1)) = j_ := ⟨_, rfl⟩
  replace H : (if 0 ≤ (ji9) then (if (ji9) < (a0.size : Int) then (spec_unit.j0 k a0 a1 ((bt a0 (ji9)) != 117)) else (none)) else (none)) = some (r1, r2) := by (rw [hji9] at H; exact H)
  have hji9w : (IntKind.i64.wrap (a1 + 1)) = ji9 := (i64_w _).trans hji9
  by_cases c10 : 0 ≤ (ji9)
  rotate_left
  ·rw [if_neg c10] at H
   exact absurd H (by simp)
  rw [if_pos c10] at H
  have c10b0 : decide (0 ≤ (ji9)) = true := decide_eq_true c10
  clear c10
  by_cases c11 : (ji9) < (a0.size : Int)
  rotate_left
  ·rw [if_neg c11] at H
   exact absurd H (by simp)
  rw [if_pos c11] at H
  have c11b0 : decide ((ji9) < (a0.size : Int)) = true := decide_eq_true c11
  clear c11
  have H' := mk0 H
  clear H
  have p7 : 0 ≤ (a1 : Int) := of_decide_eq_true zq5
  have q7 : a1 < (a0.size : Int) := of_decide_eq_true zq5
  have hx7 := bt_at a0 a1
  replace p7 := eq_true p7
  replace q7 := eq_true q7
  have p12 : 0 ≤ ((ji9) : Int) := of_decide_eq_true zq5
  have q12 : (ji9) < (a0.size : Int) := of_decide_eq_true zq5
  have hx12 := bt_at a0 (ji9)
  replace p12 := eq_true p12
  replace q12 := eq_true q12
  go_wp2
  (try simp only [← hji9])
  go_meet
  case rel => exact ⟨_, (((bt a0 (ji9)) != 117)), (by (simp only [← hji9] <;> (first | rfl | (simp; done)))), (by exact H'), ⟨by omega⟩, by repeat (first | exact Drawn0.refl _ | apply Drawn0.step)⟩
 case rest =>
  clear HC3
  obtain ⟨kq, x27_2, rfl, HA, HJ2, ⟨mc2, rfl⟩⟩ := hcut
  cases kq with
  | zero => exact absurd HA.out (by simp [spec_unit.j0])
  | succ kj2 =>
   have H := HA.out
   clear HA
   simp only [spec_unit.j0] at H
   by_cases c13 : x27_2 = true
   ·subst c13
    rw [if_pos rfl] at H
    simp only [Option.some.injEq, Prod.mk.injEq] at H
    obtain ⟨rfl, rfl⟩ := H
    go_wp2
    go_ret2
    exact ⟨by rfl, by repeat (first | exact Drawn0.refl _ | apply Drawn0.step)⟩
   replace c13 := Bool.eq_false_iff.mpr c13
   subst c13
   rw [if_neg (show ¬ (false = true) by decide)] at H
   have H' := mk0 H
   clear H
   go_wp2
   go_loopg [6, 7] kj2 (fun kq v6 v7 w' => ∃ (x6_2 : Int) (x7_2 : Int), v6 = .int .i64 x6_2 ∧ v7 = .int .i64 x7_2 ∧ Aside0 (spec_unit.l0 kq a0 a1 x6_2 x7_2 = some (r1, r2)) ∧ Aside0 (kq ≤ kj2) ∧ Drawn0 w w')
   case atStart => exact ⟨(0), (wrap64 (a1 + 2)), (by rfl), (by rfl), H', ⟨Nat.le_refl _⟩, by repeat (first | exact Drawn0.refl _ | apply Drawn0.step)⟩
   case round =>
    clear H'
    obtain ⟨x6_2, x7_2, rfl, rfl, HA, HK2, ⟨m2, rfl⟩⟩ := hrel
    cases gk with
    | zero => exact absurd HA.out (by simp [spec_unit.l0])
    | succ k2 =>
     have H := HA.out
     clear HA
     simp only [spec_unit.l0] at H
     by_cases c14 : x7_2 < (wrap64 (a1 + 6))
     rotate_left
     ·rw [if_neg c14] at H
      have c14b0 : decide (x7_2 < (wrap64 (a1 + 6))) = false := decide_eq_false c14
      clear c14
      simp only [Option.some.injEq, Prod.mk.injEq] at H
      obtain ⟨rfl, rfl⟩ := H
      go_wp2
      go_ret2
      exact ⟨by rfl, by repeat (first | exact Drawn0.refl _ | apply Drawn0.step)⟩
     rw [if_pos c14] at H
     have c14b0 : decide (x7_2 < (wrap64 (a1 + 6))) = true := decide_eq_true c14
     clear c14
     by_cases c15 : 0 ≤ x7_2
     rotate_left
     ·rw [if_neg c15] at H
      exact absurd H (by simp)
     rw [if_pos c15] at H
     have c15b0 : decide (0 ≤ x7_2) = true := decide_eq_true c15
     clear c15
     by_cases c16 : x7_2 < (a0.size : Int)
     rotate_left
     ·rw [if_neg c16] at H
      exact absurd H (by simp)
     rw [if_pos c16] at H
     have c16b0 : decide (x7_2 < (a0.size : Int)) = true := decide_eq_true c16
     clear c16
     replace H := Option.bind_eq_some_iff.mp H
     obtain ⟨⟨t101, t102⟩, A180, H⟩ := H
     (try dsimp only at H)
     have A18 := mk0 A180
     clear A180
     by_cases c19 : t102 = true
     rotate_left
     ·replace c19 := Bool.eq_false_iff.mpr c19
      subst c19
      rw [if_neg (show ¬ (false = true) by decide)] at H
      simp only [Option.some.injEq, Prod.mk.injEq] at H
      obtain ⟨rfl, rfl⟩ := H
      have p17 : 0 ≤ (x7_2 : Int) := of_decide_eq_true zq5
      have q17 : x7_2 < (a0.size : Int) := of_decide_eq_true zq5
      have hx17 := bt_at a0 x7_2
      replace p17 := eq_true p17
      replace q17 := eq_true q17
      go_wp2_with (first | ((with_reducible refine gate_callee (f := 47) rfl ?_); refine goesL_ (some 40) rfl rfl Tryd.func47 zq28 rfl #[.int .u8 (bt a0 x7_2)] rfl zq0 ?_; (with_reducible refine (spec_hexDigit.calls k2 (bt a0 x7_2) t101 false _ A18.out).mono ?_); rintro e w' ⟨rfl, ⟨nd, rfl⟩⟩; refine ⟨_, rfl, ?_⟩))
      go_ret2
      exact ⟨by rfl, by repeat (first | exact Drawn0.refl _ | apply Drawn0.step)⟩
     subst c19
     rw [if_pos rfl] at H
     have H' := mk0 H
     clear H
     have p17 : 0 ≤ (x7_2 : Int) := of_decide_eq_true zq5
     have q17 : x7_2 < (a0.size : Int) := of_decide_eq_true zq5
     have hx17 := bt_at a0 x7_2
     replace p17 := eq_true p17
     replace q17 := eq_true q17
     go_wp2_with (first | ((with_reducible refine gate_callee (f := 47) rfl ?_); refine goesL_ (some 40) rfl rfl Tryd.func47 zq28 rfl #[.int .u8 (bt a0 x7_2)] rfl zq0 ?_; (with_reducible refine (spec_hexDigit.calls k2 (bt a0 x7_2) t101 true _ A18.out).mono ?_); rintro e w' ⟨rfl, ⟨nd, rfl⟩⟩; refine ⟨_, rfl, ?_⟩))
     go_roundg k2
     case measure => have := HJ2.out; have := HK2.out; omega
     case rel => exact ⟨(wrap64 ((wrap64 (x6_2 * 16)) + t101)), (wrap64 (x7_2 + 1)), (by rfl), (by rfl), H', ⟨by have := HJ2.out; have := HK2.out; omega⟩, by repeat (first | exact Drawn0.refl _ | apply Drawn0.step)⟩
def spec_short.f (a0 : Int) : Option (Int) := if a0 = 98 then (some 8) else (if a0 = 102 then (some 12) else (if a0 = 110 then (some 10) else (if a0 = 114 then (some 13) else (if a0 = 116 then (some 9) else (some a0)))))
set_option maxHeartbeats 8000000 in
set_option maxRecDepth 100000 in
theorem spec_short.calls (a0 : Int) (r : Int) (w : World) (h : spec_short.f a0 = some r) :
 Calls Tryd.prog 49 #[.int .u8 a0] w fun e w' => e = .returned (.int .u8 r) ∧ Drawn0 w w' := by
 have H : (if a0 = 98 then (some 8) else (if a0 = 102 then (some 12) else (if a0 = 110 then (some 10) else (if a0 = 114 then (some 13) else (if a0 = 116 then (some 9) else (some a0)))))) = some r := h
 clear h
 by_cases c2 : a0 = 98
 ·rw [if_pos c2] at H
  have c2b0 : (a0 == 98) = true := beq_iff_eq.mpr c2
  have c2b1 : (a0 != 98) = false := bne_eq_false_iff_eq.mpr c2
  clear c2
  obtain rfl := Option.some.inj H
  go_enter Tryd.func49, Tryd.ntmps49
  go_wp2
  go_ret
  exact ⟨by rfl, by repeat (first | exact Drawn0.refl _ | apply Drawn0.step)⟩
 rw [if_neg c2] at H
 have c2b0 : (a0 == 98) = false := beq_eq_false_iff_ne.mpr c2
 have c2b1 : (a0 != 98) = true := bne_iff_ne.mpr c2
 by_cases c3 : a0 = 102
 ·rw [if_pos c3] at H
  have c3b0 : (a0 == 102) = true := beq_iff_eq.mpr c3
  have c3b1 : (a0 != 102) = false := bne_eq_false_iff_eq.mpr c3
  clear c3
  obtain rfl := Option.some.inj H
  go_enter Tryd.func49, Tryd.ntmps49
  go_wp2
  go_ret
  exact ⟨by rfl, by repeat (first | exact Drawn0.refl _ | apply Drawn0.step)⟩
 rw [if_neg c3] at H
 have c3b0 : (a0 == 102) = false := beq_eq_false_iff_ne.mpr c3
 have c3b1 : (a0 != 102) = true := bne_iff_ne.mpr c3
 by_cases c4 : a0 = 110
 ·rw [if_pos c4] at H
  have c4b0 : (a0 == 110) = true := beq_iff_eq.mpr c4
  have c4b1 : (a0 != 110) = false := bne_eq_false_iff_eq.mpr c4
  clear c4
  obtain rfl := Option.some.inj H
  go_enter Tryd.func49, Tryd.ntmps49
  go_wp2
  go_ret
  exact ⟨by rfl, by repeat (first | exact Drawn0.refl _ | apply Drawn0.step)⟩
 rw [if_neg c4] at H
 have c4b0 : (a0 == 110) = false := beq_eq_false_iff_ne.mpr c4
 have c4b1 : (a0 != 110) = true := bne_iff_ne.mpr c4
 by_cases c5 : a0 = 114
 ·rw [if_pos c5] at H
  have c5b0 : (a0 == 114) = true := beq_iff_eq.mpr c5
  have c5b1 : (a0 != 114) = false := bne_eq_false_iff_eq.mpr c5
  clear c5
  obtain rfl := Option.some.inj H
  go_enter Tryd.func49, Tryd.ntmps49
  go_wp2
  go_ret
  exact ⟨by rfl, by repeat (first | exact Drawn0.refl _ | apply Drawn0.step)⟩
 rw [if_neg c5] at H
 have c5b0 : (a0 == 114) = false := beq_eq_false_iff_ne.mpr c5
 have c5b1 : (a0 != 114) = true := bne_iff_ne.mpr c5
 by_cases c6 : a0 = 116
 rotate_left
 ·rw [if_neg c6] at H
  have c6b0 : (a0 == 116) = false := beq_eq_false_iff_ne.mpr c6
  have c6b1 : (a0 != 116) = true := bne_iff_ne.mpr c6
  obtain rfl := Option.some.inj H
  go_enter Tryd.func49, Tryd.ntmps49
  go_wp2
  go_ret
  exact ⟨by rfl, by repeat (first | exact Drawn0.refl _ | apply Drawn0.step)⟩
 rw [if_pos c6] at H
 have c6b0 : (a0 == 116) = true := beq_iff_eq.mpr c6
 have c6b1 : (a0 != 116) = false := bne_eq_false_iff_eq.mpr c6
 clear c6
 obtain rfl := Option.some.inj H
 go_enter Tryd.func49, Tryd.ntmps49
 go_wp2
 go_ret
 exact ⟨by rfl, by repeat (first | exact Drawn0.refl _ | apply Drawn0.step)⟩
def spec_high.f (a0 : Int) : Option (Bool) := if 55296 ≤ a0 then (some (decide (a0 ≤ 56319))) else (some false)
set_option maxHeartbeats 8000000 in
set_option maxRecDepth 100000 in
theorem spec_high.calls (a0 : Int) (r : Bool) (w : World) (h : spec_high.f a0 = some r) :
 Calls Tryd.prog 50 #[.int .i64 a0] w fun e w' => e = .returned (.bool r) ∧ Drawn0 w w' := by
 have H : (if 55296 ≤ a0 then (some (decide (a0 ≤ 56319))) else (some false)) = some r := h
 clear h
 by_cases c2 : 55296 ≤ a0
 ·rw [if_pos c2] at H
  have c2b0 : decide (55296 ≤ a0) = true := decide_eq_true c2
  clear c2
  obtain rfl := Option.some.inj H
  go_enter Tryd.func50, Tryd.ntmps50
  go_wp2
  go_ret
  exact ⟨by rfl, by repeat (first | exact Drawn0.refl _ | apply Drawn0.step)⟩
 rw [if_neg c2] at H
 have c2b0 : decide (55296 ≤ a0) = false := decide_eq_false c2
 clear c2
 obtain rfl := Option.some.inj H
 go_enter Tryd.func50, Tryd.ntmps50
 go_wp2
 go_ret
 exact ⟨by rfl, by repeat (first | exact Drawn0.refl _ | apply Drawn0.step)⟩
def spec_low.f (a0 : Int) : Option (Bool) := if 56320 ≤ a0 then (some (decide (a0 ≤ 57343))) else (some false)
set_option maxHeartbeats 8000000 in
set_option maxRecDepth 100000 in
theorem spec_low.calls (a0 : Int) (r : Bool) (w : World) (h : spec_low.f a0 = some r) :
 Calls Tryd.prog 51 #[.int .i64 a0] w fun e w' => e = .returned (.bool r) ∧ Drawn0 w w' := by
 have H : (if 56320 ≤ a0 then (some (decide (a0 ≤ 57343))) else (some false)) = some r := h
 clear h
 by_cases c2 : 56320 ≤ a0
 ·rw [if_pos c2] at H
  have c2b0 : decide (56320 ≤ a0) = true := decide_eq_true c2
  clear c2
  obtain rfl := Option.some.inj H
  go_enter Tryd.func51, Tryd.ntmps51
  go_wp2
  go_ret
  exact ⟨by rfl, by repeat (first | exact Drawn0.refl _ | apply Drawn0.step)⟩
 rw [if_neg c2] at H
 have c2b0 : decide (56320 ≤ a0) = false := decide_eq_false c2
 clear c2
 obtain rfl := Option.some.inj H
 go_enter Tryd.func51, Tryd.ntmps51
 go_wp2
 go_ret
 exact ⟨by rfl, by repeat (first | exact Drawn0.refl _ | apply Drawn0.step)⟩
def spec_appendUTF8.j0 : Nat → List Int → Int → Bool → Option (List Int)
  | 0, _, _, _ => none
  | k + 1, x0, x1, x27 => if x27 = true then ((some (([239, 191, 189] : List Int) : List Int)).bind fun y112 => (if x0.length + y112.length < 140737488355328 then (some (x0 ++ y112)) else (none))) else (if x1 < 65536 then ((some (([(wrap64 (224 + (wrap64 (Int.tdiv x1 4096)))) % 256, (wrap64 (128 + (Int.tmod (wrap64 (Int.tdiv x1 64)) 64))) % 256, (wrap64 (128 + (Int.tmod x1 64))) % 256] : List Int) : List Int)).bind fun y118 => (if x0.length + y118.length < 140737488355328 then (some (x0 ++ y118)) else (none))) else ((some (([(wrap64 (240 + (wrap64 (Int.tdiv x1 262144)))) % 256, (wrap64 (128 + (Int.tmod (wrap64 (Int.tdiv x1 4096)) 64))) % 256, (wrap64 (128 + (Int.tmod (wrap64 (Int.tdiv x1 64)) 64))) % 256, (wrap64 (128 + (Int.tmod x1 64))) % 256] : List Int) : List Int)).bind fun y124 => (if x0.length + y124.length < 140737488355328 then (some (x0 ++ y124)) else (none))))
def spec_appendUTF8.f (k : Nat) (l0 : List Int) (a1 : Int) : Option (List Int) := if a1 < 128 then (if l0.length < 140737488355328 then (some (l0 ++ [(a1) % 256])) else (none)) else (if a1 < 2048 then ((some (([(wrap64 (192 + (wrap64 (Int.tdiv a1 64)))) % 256, (wrap64 (128 + (Int.tmod a1 64))) % 256] : List Int) : List Int)).bind fun y104 => (if l0.length + y104.length < 140737488355328 then (some (l0 ++ y104)) else (none))) else ((spec_high.f a1).bind fun t110 => (if t110 = true then (spec_appendUTF8.j0 k l0 a1 true) else ((spec_low.f a1).bind fun t111 => (spec_appendUTF8.j0 k l0 a1 t111)))))
theorem spec_appendUTF8.mono_l : ∀ k, (∀ y0 y1 y2, LeO (spec_appendUTF8.j0 k y0 y1 y2) (spec_appendUTF8.j0 (k + 1) y0 y1 y2))
 | 0 => fun _ _ _ r h => by simp [spec_appendUTF8.j0] at h
 | k + 1 => by
  have ih0 := spec_appendUTF8.mono_l k
  ·intro y0 y1 y2
   unfold spec_appendUTF8.j0
   repeat' first
   | (with_reducible exact ih0 _ _ _)
   | (with_reducible exact LeO.refl _)
   | (with_reducible exact LeO.none _)
   | (with_reducible refine LeO.ite ?_ ?_)
   | (with_reducible refine LeO.bind ?_ (fun _ => ?_))
   | exact ih0 _ _ _
   | exact LeO.none _
   | refine LeO.ite ?_ ?_
   | refine LeO.bind ?_ (fun _ => ?_)
theorem spec_appendUTF8.mono : ∀ a0 a1 k, LeO (spec_appendUTF8.f k a0 a1) (spec_appendUTF8.f (k + 1) a0 a1) := by
 intro a0 a1 k
 have ih0 := spec_appendUTF8.mono_l k
 unfold spec_appendUTF8.f
 repeat' first
  | (with_reducible exact ih0 _ _ _)
  | (with_reducible exact LeO.refl _)
  | (with_reducible exact LeO.none _)
  | (with_reducible refine LeO.ite ?_ ?_)
  | (with_reducible refine LeO.bind ?_ (fun _ => ?_))
  | exact ih0 _ _ _
  | exact LeO.none _
  | refine LeO.ite ?_ ?_
  | refine LeO.bind ?_ (fun _ => ?_)
set_option maxHeartbeats 8000000 in
set_option maxRecDepth 100000 in
theorem spec_appendUTF8.calls (k : Nat) (P0_ : Nat → Prop) (u9000_ : Value) (l0 : List Int) (a1 : Int) (r : List Int) (w0 w : World) (hB : Below w0.heap.size w0 w) (ho0 : Kd.R (Kd.int .u8) 5 w w0.heap.size P0_ u9000_ l0) (h : spec_appendUTF8.f k l0 a1 = some r) :
 Calls Tryd.prog 52 #[u9000_, .int .i64 a1] w fun e w' => ∃ v0_ : Value, e = .returned (v0_) ∧ Kd.R (Kd.int .u8) 5 w' w0.heap.size (fun k_ => (P0_ k_ ∨ w.heap.size ≤ k_)) v0_ r ∧ Below w0.heap.size w0 w' ∧ Kept w w' (fun k_ => P0_ k_) := by
 have HO0 := mk0 (show Kd.R (Kd.int .u8) 5 w w0.heap.size (fun k_ => (P0_ k_ ∨ w.heap.size ≤ k_)) u9000_ l0 from Kd.R_mono ho0 (fun k_ hk => (.inl hk)))
 have HK := mk0 (Kept.refl w (fun k_ => P0_ k_))
 have HW0 := mk0 hB.size
 have HB := mk0 hB
 clear hB
 have H : (if a1 < 128 then (if l0.length < 140737488355328 then (some (l0 ++ [(a1) % 256])) else (none)) else (if a1 < 2048 then ((some (([(wrap64 (192 + (wrap64 (Int.tdiv a1 64)))) % 256, (wrap64 (128 + (Int.tmod a1 64))) % 256] : List Int) : List Int)).bind fun y104 => (if l0.length + y104.length < 140737488355328 then (some (l0 ++ y104)) else (none))) else ((spec_high.f a1).bind fun t110 => (if t110 = true then (spec_appendUTF8.j0 k l0 a1 true) else ((spec_low.f a1).bind fun t111 => (spec_appendUTF8.j0 k l0 a1 t111)))))) = some r := h
 clear h
 by_cases c3 : a1 < 128
 ·rw [if_pos c3] at H
  have c3b0 : decide (a1 < 128) = true := decide_eq_true c3
  clear c3
  by_cases c4 : l0.length < 140737488355328
  rotate_left
  ·rw [if_neg c4] at H
   exact absurd H (by simp)
  rw [if_pos c4] at H
  have LMc4 := mk0 c4
  clear c4
  obtain ⟨y101, hy101⟩ : ∃ y_ : List Int, y_ = (l0 ++ [(a1) % 256]) := ⟨_, rfl⟩
  replace H : (some y101) = some r := by (rw [hy101]; with_reducible exact H)
  have Ny101 := mk0 hy101
  clear hy101
  obtain rfl := Option.some.inj H
  go_enter Tryd.func52, Tryd.ntmps52
  go_wp2_with (first | ((with_reducible refine gate_builtin (b := .append) (xs := #[.tmp 8, .tmp 11]) rfl ?_); at_builtin; refine Kd.R_append (Kd.int .u8) (w0 := w0) w0.heap.size rfl (.tmp 8) (.tmp 11) 29 5 (.int .u8 0) 1 rfl Tryd.underlying29 info5 rfl zq49 (by omega) u9000_ l0 ((a1) % 256) [.int .u8 ((a1) % 256)] (fun k_ => (P0_ k_ ∨ w.heap.size ≤ k_)) (fun _ => False) rfl rfl ?aP (fun _ hk => hk.elim) ?aF ?aO ?aB ?aS ?aL ?_; (case aP => exact rfl); (case aB => exact zq2); (case aF => exact (fun k_ hk => (.inr (Nat.le_trans (by exact HK.out.1) hk)))); (case aO => exact zq57); (case aS => exact (below_size zq2)); (case aL => have := LMc4.out; omega); intro v102 w5 ho hb hg hat; rw [← Ny101.out] at ho; have n0_ := mk0 (hb); have n1_ := mk0 (Kept.of_grown (S := (fun k_ => P0_ k_)) hg zq34 (fun k_ e_ => (HO0.out.1 k_ e_))); have n2_ := mk0 (ho); clear HB HK HO0; have HB := n0_; have HK := n1_; have HO103 := n2_; clear n0_ n1_ n2_; clear ho hb hg hat))
  go_ret
  exact ⟨_, by rfl, by (with_reducible repeat (first | apply Kd.R_alloc | apply Kd.R_drewN | apply Kd.R_drew)); exact HO103.out, by repeat (first | (with_reducible first | exact HB.out | apply below_alloc | apply pw_below_drewN | apply below_drew1) | exact HB.out), by repeat (first | (with_reducible first | exact HK.out | apply Kept.alloc | apply Kept.drewN | apply Kept.drew) | exact HK.out)⟩
 rw [if_neg c3] at H
 have c3b0 : decide (a1 < 128) = false := decide_eq_false c3
 clear c3
 by_cases c6 : a1 < 2048
 ·rw [if_pos c6] at H
  have c6b0 : decide (a1 < 2048) = true := decide_eq_true c6
  clear c6
  obtain ⟨y104, hy104⟩ : ∃ y_ : List Int, y_ = (([(wrap64 (192 + (wrap64 (Int.tdiv a1 64)))) % 256, (wrap64 (128 + (Int.tmod a1 64))) % 256] : List Int)) := ⟨_, rfl⟩
  replace H : (if l0.length + y104.length < 140737488355328 then (some (l0 ++ y104)) else (none)) = some r := by (have H2_ := (Option.bind_some _ _).symm.trans H; rw [hy104]; with_reducible exact H2_)
  have Ny104 := mk0 hy104
  clear hy104
  by_cases c7 : l0.length + y104.length < 140737488355328
  rotate_left
  ·rw [if_neg c7] at H
   exact absurd H (by simp)
  rw [if_pos c7] at H
  have LMc7 := mk0 c7
  clear c7
  obtain ⟨y107, hy107⟩ : ∃ y_ : List Int, y_ = (l0 ++ y104) := ⟨_, rfl⟩
  replace H : (some y107) = some r := by (rw [hy107]; with_reducible exact H)
  have Ny107 := mk0 hy107
  clear hy107
  obtain rfl := Option.some.inj H
  go_enter Tryd.func52, Tryd.ntmps52
  go_wp2_with (first | ((with_reducible refine gate_dst (N := 25) rfl ?_); refine Kd.R_lit (Kd.int .u8) _ 5 ?hg (N := 25) ?hd (xs := ([(wrap64 (192 + (wrap64 (Int.tdiv a1 64)))) % 256, (wrap64 (128 + (Int.tmod a1 64))) % 256] : List Int)) (inner := [.int .u8 ((wrap64 (192 + (wrap64 (Int.tdiv a1 64)))) % 256), .int .u8 ((wrap64 (128 + (Int.tmod a1 64))) % 256)]) (ok := fun _ => True) (okp := fun _ => True) ?hr ?hp (fun _ hk => hk) trivial (Below.refl _ _) (Nat.le_refl _) (by simp) ?_; (case hd => rfl); (case hg => rfl); (case hr => exact zq32); (case hp => exact (Reps.one (show Kd.M (Kd.int .u8) _ _ _ ((wrap64 (192 + (wrap64 (Int.tdiv a1 64)))) % 256) [.int .u8 ((wrap64 (192 + (wrap64 (Int.tdiv a1 64)))) % 256)] from rfl) (Reps.one (show Kd.M (Kd.int .u8) _ _ _ ((wrap64 (128 + (Int.tmod a1 64))) % 256) [.int .u8 ((wrap64 (128 + (Int.tmod a1 64))) % 256)] from rfl) (Reps.none _ _)))); intro v105 w8 ho9 hb hg_ hnew_; clear hg_ hnew_; (first | rw [← Ny104.out] at ho9 | (simp only [Int.reduceToNat] at ho9; rw [← Ny104.out] at ho9)); have HO106 := mk0 (Kd.R_lower (Kd.R_new' (Kd.R_newM (M := fun k_ => (P0_ k_ ∨ w.heap.size ≤ k_)) ho9 (by exact HK.out.1) (fun k_ h_ => .inr h_)) (Kd.R_lt zq57)) (below_size zq2)); replace HO0 := mk0 (Kd.R_elder' zq57 (Kd.R_base ho9) hb); replace HK := mk0 (Kept.below (S := (fun k_ => P0_ k_)) zq34 hb); replace HB := mk0 (below_step zq2 hb); clear hb ho9; obtain ⟨Ao11, co11, eo11⟩ := Kd.R_slice HO106.out; subst eo11) | ((with_reducible refine gate_builtin (b := .append) (xs := #[.tmp 16, .tmp 25]) rfl ?_); at_builtin; refine Kd.R_append_rows (Kd.int .u8) (w0 := w0) w0.heap.size rfl (.tmp 16) (.tmp 25) 29 5 (.int .u8 0) 1 rfl Tryd.underlying29 info5 rfl zq49 (by omega) u9000_ l0 y104 _ _ _ (fun k_ => (P0_ k_ ∨ w.heap.size ≤ k_) ∧ some k_ ≠ (.slice Ao11 y104.length co11 : Value).ownBlock) (fun _ => False) rfl rfl ?aO ?aR (fun _ _ h => h) (fun _ h => h.elim) ?aF ?aB ?aS ?aL ?_; (case aR => repeat (first | exact (Kd.R_reads' HO106.out).2.2 | (with_reducible refine Kd.C_alloc ?_ _) | (with_reducible refine Kd.C_drewN ?_ _) | (with_reducible refine Kd.C_drew ?_))); (case aB => exact zq2); (case aF => exact (fun k_ hk => ⟨(.inr (Nat.le_trans (by exact HK.out.1) hk)), Kd.fresh' (Kd.R_lt (by (with_reducible repeat (first | apply Kd.R_alloc | apply Kd.R_drewN | apply Kd.R_drew)); exact HO106.out)) k_ hk⟩)); (case aO => exact zq57); (case aS => exact (below_size zq2)); (case aL => have := LMc7.out; omega); intro v108 w10 ho hb hg hat; rw [← Ny107.out] at ho; have n0_ := mk0 (Kd.R_after (ok := (fun k_ => (P0_ k_ ∨ w.heap.size ≤ k_))) (by (with_reducible repeat (first | apply Kd.R_alloc | apply Kd.R_drewN | apply Kd.R_drew)); exact Kd.R_mono HO106.out (fun _ hk => ⟨hk.1.1, hk.2⟩)) hg hat); have n1_ := mk0 (hb); have n2_ := mk0 (Kept.of_grown (S := (fun k_ => P0_ k_)) hg zq34 (fun k_ e_ => (HO0.out.1 k_ e_).1)); have n3_ := mk0 (ho); clear HO106 HB HK HO0; have HO106 := n0_; have HB := n1_; have HK := n2_; have HO109 := n3_; clear n0_ n1_ n2_ n3_; clear ho hb hg hat))
  go_ret
  exact ⟨_, by rfl, by (with_reducible repeat (first | apply Kd.R_alloc | apply Kd.R_drewN | apply Kd.R_drew)); exact Kd.R_mono HO109.out (fun _ hk => hk.1), by repeat (first | (with_reducible first | exact HB.out | apply below_alloc | apply pw_below_drewN | apply below_drew1) | exact HB.out), by repeat (first | (with_reducible first | exact HK.out | apply Kept.alloc | apply Kept.drewN | apply Kept.drew) | exact HK.out)⟩
 rw [if_neg c6] at H
 have c6b0 : decide (a1 < 2048) = false := decide_eq_false c6
 clear c6
 have HC12 := mk0 H
 clear H
 go_enter Tryd.func52, Tryd.ntmps52
 go_upto_region 5 with (fail)
 go_cut [27] (fun v27 wc => ∃ (kq : Nat) (x27_11 : Bool), v27 = .bool x27_11 ∧ Aside0 (spec_appendUTF8.j0 kq l0 a1 x27_11 = some r) ∧ Aside0 (kq ≤ k) ∧ Aside0 (Kd.R (Kd.int .u8) 5 wc w0.heap.size (fun k_ => (P0_ k_ ∨ w.heap.size ≤ k_)) u9000_ l0) ∧ Aside0 (Kept w wc (fun k_ => P0_ k_)) ∧ Aside0 (Below w0.heap.size w0 wc))
 case first =>
  have H := HC12.out
  clear HC12
  replace H := Option.bind_eq_some_iff.mp H
  obtain ⟨t110, A130, H⟩ := H
  (try dsimp only at H)
  have A13 := mk0 A130
  clear A130
  by_cases c14 : t110 = true
  ·subst c14
   rw [if_pos rfl] at H
   have H' := mk0 H
   clear H
   go_wp2_with (first | ((with_reducible refine gate_callee (f := 50) rfl ?_); refine goesL_ (some 29) rfl rfl Tryd.func50 zq28 rfl #[.int .i64 a1] rfl zq0 ?_; (with_reducible refine (spec_high.calls a1 true _ A13.out).mono ?_); rintro e w' ⟨rfl, ⟨nd, rfl⟩⟩; refine ⟨_, rfl, ?_⟩))
   go_meet
   case rel => exact ⟨_, (true), (by rfl), H', ⟨by omega⟩, ⟨by (with_reducible repeat (first | apply Kd.R_alloc | apply Kd.R_drewN | apply Kd.R_drew)); exact HO0.out⟩, ⟨by repeat (first | (with_reducible first | exact HK.out | apply Kept.alloc | apply Kept.drewN | apply Kept.drew) | exact HK.out)⟩, ⟨by repeat (first | (with_reducible first | exact HB.out | apply below_alloc | apply pw_below_drewN | apply below_drew1) | exact HB.out)⟩⟩
  replace c14 := Bool.eq_false_iff.mpr c14
  subst c14
  rw [if_neg (show ¬ (false = true) by decide)] at H
  replace H := Option.bind_eq_some_iff.mp H
  obtain ⟨t111, A150, H⟩ := H
  (try dsimp only at H)
  have A15 := mk0 A150
  clear A150
  have H' := mk0 H
  clear H
  go_wp2_with (first | ((with_reducible refine gate_callee (f := 50) rfl ?_); refine goesL_ (some 29) rfl rfl Tryd.func50 zq28 rfl #[.int .i64 a1] rfl zq0 ?_; (with_reducible refine (spec_high.calls a1 false _ A13.out).mono ?_); rintro e w' ⟨rfl, ⟨nd, rfl⟩⟩; refine ⟨_, rfl, ?_⟩) | (go_at_call 51; (with_reducible refine (spec_low.calls a1 t111 _ A15.out).mono ?_); rintro e w' ⟨rfl, ⟨nd, rfl⟩⟩))
  go_meet
  case rel => exact ⟨_, (t111), (by rfl), H', ⟨by omega⟩, ⟨by (with_reducible repeat (first | apply Kd.R_alloc | apply Kd.R_drewN | apply Kd.R_drew)); exact HO0.out⟩, ⟨by repeat (first | (with_reducible first | exact HK.out | apply Kept.alloc | apply Kept.drewN | apply Kept.drew) | exact HK.out)⟩, ⟨by repeat (first | (with_reducible first | exact HB.out | apply below_alloc | apply pw_below_drewN | apply below_drew1) | exact HB.out)⟩⟩
 case rest =>
  clear HC12 c3b0 c6b0
  obtain ⟨kq, x27_11, rfl, HA, HJ11, HO_0, HK, HB⟩ := hcut
  cases kq with
  | zero => exact absurd HA.out (by simp [spec_appendUTF8.j0])
  | succ kj11 =>
   have H := HA.out
   clear HA
   simp only [spec_appendUTF8.j0] at H
   by_cases c16 : x27_11 = true
   ·subst c16
    rw [if_pos rfl] at H
    obtain ⟨y112, hy112⟩ : ∃ y_ : List Int, y_ = (([239, 191, 189] : List Int)) := ⟨_, rfl⟩
    replace H : (if l0.length + y112.length < 140737488355328 then (some (l0 ++ y112)) else (none)) = some r := by (have H2_ := (Option.bind_some _ _).symm.trans H; rw [hy112]; with_reducible exact H2_)
    have Ny112 := mk0 hy112
    clear hy112
    by_cases c17 : l0.length + y112.length < 140737488355328
    rotate_left
    ·rw [if_neg c17] at H
     exact absurd H (by simp)
    rw [if_pos c17] at H
    have LMc17 := mk0 c17
    clear c17
    obtain ⟨y115, hy115⟩ : ∃ y_ : List Int, y_ = (l0 ++ y112) := ⟨_, rfl⟩
    replace H : (some y115) = some r := by (rw [hy115]; with_reducible exact H)
    have Ny115 := mk0 hy115
    clear hy115
    obtain rfl := Option.some.inj H
    go_wp2_with (first | ((with_reducible refine gate_dst (N := 35) rfl ?_); refine Kd.R_lit (Kd.int .u8) _ 5 ?hg (N := 35) ?hd (xs := ([239, 191, 189] : List Int)) (inner := [.int .u8 239, .int .u8 191, .int .u8 189]) (ok := fun _ => True) (okp := fun _ => True) ?hr ?hp (fun _ hk => hk) trivial (Below.refl _ _) (Nat.le_refl _) (by simp) ?_; (case hd => rfl); (case hg => rfl); (case hr => exact zq32); (case hp => exact (Reps.one (show Kd.M (Kd.int .u8) _ _ _ 239 [.int .u8 239] from rfl) (Reps.one (show Kd.M (Kd.int .u8) _ _ _ 191 [.int .u8 191] from rfl) (Reps.one (show Kd.M (Kd.int .u8) _ _ _ 189 [.int .u8 189] from rfl) (Reps.none _ _))))); intro v113 w18 ho19 hb hg_ hnew_; clear hg_ hnew_; (first | rw [← Ny112.out] at ho19 | (simp only [Int.reduceToNat] at ho19; rw [← Ny112.out] at ho19)); have HO114 := mk0 (Kd.R_lower (Kd.R_new' (Kd.R_newM (M := fun k_ => (P0_ k_ ∨ w.heap.size ≤ k_)) ho19 (by exact HK.out.1) (fun k_ h_ => .inr h_)) (Kd.R_lt zq38)) (below_size zq2)); replace HO_0 := mk0 (Kd.R_elder' zq38 (Kd.R_base ho19) hb); replace HK := mk0 (Kept.below (S := (fun k_ => P0_ k_)) zq34 hb); replace HB := mk0 (below_step zq2 hb); clear hb ho19; obtain ⟨Ao21, co21, eo21⟩ := Kd.R_slice HO114.out; subst eo21) | ((with_reducible refine gate_builtin (b := .append) (xs := #[.tmp 34, .tmp 35]) rfl ?_); at_builtin; refine Kd.R_append_rows (Kd.int .u8) (w0 := w0) w0.heap.size rfl (.tmp 34) (.tmp 35) 29 5 (.int .u8 0) 1 rfl Tryd.underlying29 info5 rfl zq49 (by omega) u9000_ l0 y112 _ _ _ (fun k_ => (P0_ k_ ∨ w.heap.size ≤ k_) ∧ some k_ ≠ (.slice Ao21 y112.length co21 : Value).ownBlock) (fun _ => False) rfl rfl ?aO ?aR (fun _ _ h => h) (fun _ h => h.elim) ?aF ?aB ?aS ?aL ?_; (case aR => repeat (first | exact (Kd.R_reads' HO114.out).2.2 | (with_reducible refine Kd.C_alloc ?_ _) | (with_reducible refine Kd.C_drewN ?_ _) | (with_reducible refine Kd.C_drew ?_))); (case aB => exact zq2); (case aF => exact (fun k_ hk => ⟨(.inr (Nat.le_trans (by exact HK.out.1) hk)), Kd.fresh' (Kd.R_lt (by (with_reducible repeat (first | apply Kd.R_alloc | apply Kd.R_drewN | apply Kd.R_drew)); exact HO114.out)) k_ hk⟩)); (case aO => exact zq38); (case aS => exact (below_size zq2)); (case aL => have := LMc17.out; omega); intro v116 w20 ho hb hg hat; rw [← Ny115.out] at ho; have n0_ := mk0 (Kd.R_after (ok := (fun k_ => (P0_ k_ ∨ w.heap.size ≤ k_))) (by (with_reducible repeat (first | apply Kd.R_alloc | apply Kd.R_drewN | apply Kd.R_drew)); exact Kd.R_mono HO114.out (fun _ hk => ⟨hk.1.1, hk.2⟩)) hg hat); have n1_ := mk0 (hb); have n2_ := mk0 (Kept.of_grown (S := (fun k_ => P0_ k_)) hg zq34 (fun k_ e_ => (HO_0.out.1 k_ e_).1)); have n3_ := mk0 (ho); clear HO114 HB HK HO_0; have HO114 := n0_; have HB := n1_; have HK := n2_; have HO117 := n3_; clear n0_ n1_ n2_ n3_; clear ho hb hg hat))
    go_ret
    exact ⟨_, by rfl, by (with_reducible repeat (first | apply Kd.R_alloc | apply Kd.R_drewN | apply Kd.R_drew)); exact Kd.R_mono HO117.out (fun _ hk => hk.1), by repeat (first | (with_reducible first | exact HB.out | apply below_alloc | apply pw_below_drewN | apply below_drew1) | exact HB.out), by repeat (first | (with_reducible first | exact HK.out | apply Kept.alloc | apply Kept.drewN | apply Kept.drew) | exact HK.out)⟩
   replace c16 := Bool.eq_false_iff.mpr c16
   subst c16
   rw [if_neg (show ¬ (false = true) by decide)] at H
   by_cases c22 : a1 < 65536
   ·rw [if_pos c22] at H
    have c22b0 : decide (a1 < 65536) = true := decide_eq_true c22
    clear c22
    obtain ⟨y118, hy118⟩ : ∃ y_ : List Int, y_ = (([(wrap64 (224 + (wrap64 (Int.tdiv a1 4096)))) % 256, (wrap64 (128 + (Int.tmod (wrap64 (Int.tdiv a1 64)) 64))) % 256, (wrap64 (128 + (Int.tmod a1 64))) % 256] : List Int)) := ⟨_, rfl⟩
    replace H : (if l0.length + y118.length < 140737488355328 then (some (l0 ++ y118)) else (none)) = some r := by (have H2_ := (Option.bind_some _ _).symm.trans H; rw [hy118]; with_reducible exact H2_)
    have Ny118 := mk0 hy118
    clear hy118
    by_cases c23 : l0.length + y118.length < 140737488355328
    rotate_left
    ·rw [if_neg c23] at H
     exact absurd H (by simp)
    rw [if_pos c23] at H
    have LMc23 := mk0 c23
    clear c23
    obtain ⟨y121, hy121⟩ : ∃ y_ : List Int, y_ = (l0 ++ y118) := ⟨_, rfl⟩
    replace H : (some y121) = some r := by (rw [hy121]; with_reducible exact H)
    have Ny121 := mk0 hy121
    clear hy121
    obtain rfl := Option.some.inj H
    go_wp2_with (first | ((with_reducible refine gate_dst (N := 54) rfl ?_); refine Kd.R_lit (Kd.int .u8) _ 5 ?hg (N := 54) ?hd (xs := ([(wrap64 (224 + (wrap64 (Int.tdiv a1 4096)))) % 256, (wrap64 (128 + (Int.tmod (wrap64 (Int.tdiv a1 64)) 64))) % 256, (wrap64 (128 + (Int.tmod a1 64))) % 256] : List Int)) (inner := [.int .u8 ((wrap64 (224 + (wrap64 (Int.tdiv a1 4096)))) % 256), .int .u8 ((wrap64 (128 + (Int.tmod (wrap64 (Int.tdiv a1 64)) 64))) % 256), .int .u8 ((wrap64 (128 + (Int.tmod a1 64))) % 256)]) (ok := fun _ => True) (okp := fun _ => True) ?hr ?hp (fun _ hk => hk) trivial (Below.refl _ _) (Nat.le_refl _) (by simp) ?_; (case hd => rfl); (case hg => rfl); (case hr => exact zq32); (case hp => exact (Reps.one (show Kd.M (Kd.int .u8) _ _ _ ((wrap64 (224 + (wrap64 (Int.tdiv a1 4096)))) % 256) [.int .u8 ((wrap64 (224 + (wrap64 (Int.tdiv a1 4096)))) % 256)] from rfl) (Reps.one (show Kd.M (Kd.int .u8) _ _ _ ((wrap64 (128 + (Int.tmod (wrap64 (Int.tdiv a1 64)) 64))) % 256) [.int .u8 ((wrap64 (128 + (Int.tmod (wrap64 (Int.tdiv a1 64)) 64))) % 256)] from rfl) (Reps.one (show Kd.M (Kd.int .u8) _ _ _ ((wrap64 (128 + (Int.tmod a1 64))) % 256) [.int .u8 ((wrap64 (128 + (Int.tmod a1 64))) % 256)] from rfl) (Reps.none _ _))))); intro v119 w24 ho25 hb hg_ hnew_; clear hg_ hnew_; (first | rw [← Ny118.out] at ho25 | (simp only [Int.reduceToNat] at ho25; rw [← Ny118.out] at ho25)); have HO120 := mk0 (Kd.R_lower (Kd.R_new' (Kd.R_newM (M := fun k_ => (P0_ k_ ∨ w.heap.size ≤ k_)) ho25 (by exact HK.out.1) (fun k_ h_ => .inr h_)) (Kd.R_lt zq38)) (below_size zq2)); replace HO_0 := mk0 (Kd.R_elder' zq38 (Kd.R_base ho25) hb); replace HK := mk0 (Kept.below (S := (fun k_ => P0_ k_)) zq34 hb); replace HB := mk0 (below_step zq2 hb); clear hb ho25; obtain ⟨Ao27, co27, eo27⟩ := Kd.R_slice HO120.out; subst eo27) | ((with_reducible refine gate_builtin (b := .append) (xs := #[.tmp 40, .tmp 54]) rfl ?_); at_builtin; refine Kd.R_append_rows (Kd.int .u8) (w0 := w0) w0.heap.size rfl (.tmp 40) (.tmp 54) 29 5 (.int .u8 0) 1 rfl Tryd.underlying29 info5 rfl zq49 (by omega) u9000_ l0 y118 _ _ _ (fun k_ => (P0_ k_ ∨ w.heap.size ≤ k_) ∧ some k_ ≠ (.slice Ao27 y118.length co27 : Value).ownBlock) (fun _ => False) rfl rfl ?aO ?aR (fun _ _ h => h) (fun _ h => h.elim) ?aF ?aB ?aS ?aL ?_; (case aR => repeat (first | exact (Kd.R_reads' HO120.out).2.2 | (with_reducible refine Kd.C_alloc ?_ _) | (with_reducible refine Kd.C_drewN ?_ _) | (with_reducible refine Kd.C_drew ?_))); (case aB => exact zq2); (case aF => exact (fun k_ hk => ⟨(.inr (Nat.le_trans (by exact HK.out.1) hk)), Kd.fresh' (Kd.R_lt (by (with_reducible repeat (first | apply Kd.R_alloc | apply Kd.R_drewN | apply Kd.R_drew)); exact HO120.out)) k_ hk⟩)); (case aO => exact zq38); (case aS => exact (below_size zq2)); (case aL => have := LMc23.out; omega); intro v122 w26 ho hb hg hat; rw [← Ny121.out] at ho; have n0_ := mk0 (Kd.R_after (ok := (fun k_ => (P0_ k_ ∨ w.heap.size ≤ k_))) (by (with_reducible repeat (first | apply Kd.R_alloc | apply Kd.R_drewN | apply Kd.R_drew)); exact Kd.R_mono HO120.out (fun _ hk => ⟨hk.1.1, hk.2⟩)) hg hat); have n1_ := mk0 (hb); have n2_ := mk0 (Kept.of_grown (S := (fun k_ => P0_ k_)) hg zq34 (fun k_ e_ => (HO_0.out.1 k_ e_).1)); have n3_ := mk0 (ho); clear HO120 HB HK HO_0; have HO120 := n0_; have HB := n1_; have HK := n2_; have HO123 := n3_; clear n0_ n1_ n2_ n3_; clear ho hb hg hat))
    go_ret
    exact ⟨_, by rfl, by (with_reducible repeat (first | apply Kd.R_alloc | apply Kd.R_drewN | apply Kd.R_drew)); exact Kd.R_mono HO123.out (fun _ hk => hk.1), by repeat (first | (with_reducible first | exact HB.out | apply below_alloc | apply pw_below_drewN | apply below_drew1) | exact HB.out), by repeat (first | (with_reducible first | exact HK.out | apply Kept.alloc | apply Kept.drewN | apply Kept.drew) | exact HK.out)⟩
   rw [if_neg c22] at H
   have c22b0 : decide (a1 < 65536) = false := decide_eq_false c22
   clear c22
   obtain ⟨y124, hy124⟩ : ∃ y_ : List Int, y_ = (([(wrap64 (240 + (wrap64 (Int.tdiv a1 262144)))) % 256, (wrap64 (128 + (Int.tmod (wrap64 (Int.tdiv a1 4096)) 64))) % 256, (wrap64 (128 + (Int.tmod (wrap64 (Int.tdiv a1 64)) 64))) % 256, (wrap64 (128 + (Int.tmod a1 64))) % 256] : List Int)) := ⟨_, rfl⟩
   replace H : (if l0.length + y124.length < 140737488355328 then (some (l0 ++ y124)) else (none)) = some r := by (have H2_ := (Option.bind_some _ _).symm.trans H; rw [hy124]; with_reducible exact H2_)
   have Ny124 := mk0 hy124
   clear hy124
   by_cases c28 : l0.length + y124.length < 140737488355328
   rotate_left
   ·rw [if_neg c28] at H
    exact absurd H (by simp)
   rw [if_pos c28] at H
   have LMc28 := mk0 c28
   clear c28
   obtain ⟨y127, hy127⟩ : ∃ y_ : List Int, y_ = (l0 ++ y124) := ⟨_, rfl⟩
   replace H : (some y127) = some r := by (rw [hy127]; with_reducible exact H)
   have Ny127 := mk0 hy127
   clear hy127
   obtain rfl := Option.some.inj H
   go_wp2_with (first | ((with_reducible refine gate_dst (N := 75) rfl ?_); refine Kd.R_lit (Kd.int .u8) _ 5 ?hg (N := 75) ?hd (xs := ([(wrap64 (240 + (wrap64 (Int.tdiv a1 262144)))) % 256, (wrap64 (128 + (Int.tmod (wrap64 (Int.tdiv a1 4096)) 64))) % 256, (wrap64 (128 + (Int.tmod (wrap64 (Int.tdiv a1 64)) 64))) % 256, (wrap64 (128 + (Int.tmod a1 64))) % 256] : List Int)) (inner := [.int .u8 ((wrap64 (240 + (wrap64 (Int.tdiv a1 262144)))) % 256), .int .u8 ((wrap64 (128 + (Int.tmod (wrap64 (Int.tdiv a1 4096)) 64))) % 256), .int .u8 ((wrap64 (128 + (Int.tmod (wrap64 (Int.tdiv a1 64)) 64))) % 256), .int .u8 ((wrap64 (128 + (Int.tmod a1 64))) % 256)]) (ok := fun _ => True) (okp := fun _ => True) ?hr ?hp (fun _ hk => hk) trivial (Below.refl _ _) (Nat.le_refl _) (by simp) ?_; (case hd => rfl); (case hg => rfl); (case hr => exact zq32); (case hp => exact (Reps.one (show Kd.M (Kd.int .u8) _ _ _ ((wrap64 (240 + (wrap64 (Int.tdiv a1 262144)))) % 256) [.int .u8 ((wrap64 (240 + (wrap64 (Int.tdiv a1 262144)))) % 256)] from rfl) (Reps.one (show Kd.M (Kd.int .u8) _ _ _ ((wrap64 (128 + (Int.tmod (wrap64 (Int.tdiv a1 4096)) 64))) % 256) [.int .u8 ((wrap64 (128 + (Int.tmod (wrap64 (Int.tdiv a1 4096)) 64))) % 256)] from rfl) (Reps.one (show Kd.M (Kd.int .u8) _ _ _ ((wrap64 (128 + (Int.tmod (wrap64 (Int.tdiv a1 64)) 64))) % 256) [.int .u8 ((wrap64 (128 + (Int.tmod (wrap64 (Int.tdiv a1 64)) 64))) % 256)] from rfl) (Reps.one (show Kd.M (Kd.int .u8) _ _ _ ((wrap64 (128 + (Int.tmod a1 64))) % 256) [.int .u8 ((wrap64 (128 + (Int.tmod a1 64))) % 256)] from rfl) (Reps.none _ _)))))); intro v125 w29 ho30 hb hg_ hnew_; clear hg_ hnew_; (first | rw [← Ny124.out] at ho30 | (simp only [Int.reduceToNat] at ho30; rw [← Ny124.out] at ho30)); have HO126 := mk0 (Kd.R_lower (Kd.R_new' (Kd.R_newM (M := fun k_ => (P0_ k_ ∨ w.heap.size ≤ k_)) ho30 (by exact HK.out.1) (fun k_ h_ => .inr h_)) (Kd.R_lt zq38)) (below_size zq2)); replace HO_0 := mk0 (Kd.R_elder' zq38 (Kd.R_base ho30) hb); replace HK := mk0 (Kept.below (S := (fun k_ => P0_ k_)) zq34 hb); replace HB := mk0 (below_step zq2 hb); clear hb ho30; obtain ⟨Ao32, co32, eo32⟩ := Kd.R_slice HO126.out; subst eo32) | ((with_reducible refine gate_builtin (b := .append) (xs := #[.tmp 56, .tmp 75]) rfl ?_); at_builtin; refine Kd.R_append_rows (Kd.int .u8) (w0 := w0) w0.heap.size rfl (.tmp 56) (.tmp 75) 29 5 (.int .u8 0) 1 rfl Tryd.underlying29 info5 rfl zq49 (by omega) u9000_ l0 y124 _ _ _ (fun k_ => (P0_ k_ ∨ w.heap.size ≤ k_) ∧ some k_ ≠ (.slice Ao32 y124.length co32 : Value).ownBlock) (fun _ => False) rfl rfl ?aO ?aR (fun _ _ h => h) (fun _ h => h.elim) ?aF ?aB ?aS ?aL ?_; (case aR => repeat (first | exact (Kd.R_reads' HO126.out).2.2 | (with_reducible refine Kd.C_alloc ?_ _) | (with_reducible refine Kd.C_drewN ?_ _) | (with_reducible refine Kd.C_drew ?_))); (case aB => exact zq2); (case aF => exact (fun k_ hk => ⟨(.inr (Nat.le_trans (by exact HK.out.1) hk)), Kd.fresh' (Kd.R_lt (by (with_reducible repeat (first | apply Kd.R_alloc | apply Kd.R_drewN | apply Kd.R_drew)); exact HO126.out)) k_ hk⟩)); (case aO => exact zq38); (case aS => exact (below_size zq2)); (case aL => have := LMc28.out; omega); intro v128 w31 ho hb hg hat; rw [← Ny127.out] at ho; have n0_ := mk0 (Kd.R_after (ok := (fun k_ => (P0_ k_ ∨ w.heap.size ≤ k_))) (by (with_reducible repeat (first | apply Kd.R_alloc | apply Kd.R_drewN | apply Kd.R_drew)); exact Kd.R_mono HO126.out (fun _ hk => ⟨hk.1.1, hk.2⟩)) hg hat); have n1_ := mk0 (hb); have n2_ := mk0 (Kept.of_grown (S := (fun k_ => P0_ k_)) hg zq34 (fun k_ e_ => (HO_0.out.1 k_ e_).1)); have n3_ := mk0 (ho); clear HO126 HB HK HO_0; have HO126 := n0_; have HB := n1_; have HK := n2_; have HO129 := n3_; clear n0_ n1_ n2_ n3_; clear ho hb hg hat))
   go_ret
   exact ⟨_, by rfl, by (with_reducible repeat (first | apply Kd.R_alloc | apply Kd.R_drewN | apply Kd.R_drew)); exact Kd.R_mono HO129.out (fun _ hk => hk.1), by repeat (first | (with_reducible first | exact HB.out | apply below_alloc | apply pw_below_drewN | apply below_drew1) | exact HB.out), by repeat (first | (with_reducible first | exact HK.out | apply Kept.alloc | apply Kept.drewN | apply Kept.drew) | exact HK.out)⟩
def spec_Unquote.l0 : Nat → List Int → ByteArray → Int → Option (ByteArray)
  | 0, _, _, _ => none
  | k + 1, x3, x4, x5 => if x5 < (x4.size : Int) then (if 0 ≤ x5 then (if (bt x4 x5) = 92 then ((spec_unit.f k x4 x5).bind fun bt104 => (if bt104.2 = true then ((spec_unit.f k x4 (wrap64 (x5 + 6))).bind fun bt110 => (if bt110.2 = true then ((spec_high.f bt104.1).bind fun t112 => (if t112 = true then ((spec_low.f bt110.1).bind fun t113 => (if t113 = true then ((spec_appendUTF8.f k x3 (wrap64 ((wrap64 (65536 + (wrap64 ((wrap64 (bt104.1 - 55296)) * 1024)))) + (wrap64 (bt110.1 - 56320))))).bind fun t114 => (spec_Unquote.l0 k t114 x4 (wrap64 ((wrap64 (x5 + 6)) + 6)))) else ((spec_appendUTF8.f k x3 bt104.1).bind fun t117 => (spec_Unquote.l0 k t117 x4 (wrap64 (x5 + 6)))))) else ((spec_appendUTF8.f k x3 bt104.1).bind fun t120 => (spec_Unquote.l0 k t120 x4 (wrap64 (x5 + 6)))))) else ((spec_appendUTF8.f k x3 bt104.1).bind fun t123 => (spec_Unquote.l0 k t123 x4 (wrap64 (x5 + 6)))))) else (if 0 ≤ (wrap64 (x5 + 1)) then (if (wrap64 (x5 + 1)) < (x4.size : Int) then ((spec_short.f (bt x4 (wrap64 (x5 + 1)))).bind fun t106 => (if x3.length < 140737488355328 then (spec_Unquote.l0 k (x3 ++ [t106]) x4 (wrap64 (x5 + 2))) else (none))) else (none)) else (none)))) else (if x3.length < 140737488355328 then (spec_Unquote.l0 k (x3 ++ [bt x4 x5]) x4 (wrap64 (x5 + 1))) else (none))) else (none)) else (some (strOfNums x3))
def spec_Unquote.f (k : Nat) (a0 : ByteArray) : Option (ByteArray) := if 1 ≤ (wrap64 ((a0.size : Int) - 1)) then (if (wrap64 ((a0.size : Int) - 1)) ≤ (a0.size : Int) then (spec_Unquote.l0 k ([] : List Int) (a0.extract 1 ((wrap64 ((a0.size : Int) - 1)) : Int).toNat) 0) else (none)) else (none)
theorem spec_Unquote.mono_l : ∀ k, (∀ y0 y1 y2, LeO (spec_Unquote.l0 k y0 y1 y2) (spec_Unquote.l0 (k + 1) y0 y1 y2))
 | 0 => fun _ _ _ r h => by simp [spec_Unquote.l0] at h
 | k + 1 => by
  have ih0 := spec_Unquote.mono_l k
  ·intro y0 y1 y2
   unfold spec_Unquote.l0
   repeat' first
   | (with_reducible exact ih0 _ _ _)
   | (with_reducible exact spec_appendUTF8.mono _ _ _)
   | (with_reducible exact spec_unit.mono _ _ _)
   | (with_reducible exact LeO.refl _)
   | (with_reducible exact LeO.none _)
   | (with_reducible refine LeO.ite ?_ ?_)
   | (with_reducible refine LeO.bind ?_ (fun _ => ?_))
   | exact ih0 _ _ _
   | exact spec_appendUTF8.mono _ _ _
   | exact spec_unit.mono _ _ _
   | exact LeO.none _
   | refine LeO.ite ?_ ?_
   | refine LeO.bind ?_ (fun _ => ?_)
theorem spec_Unquote.mono : ∀ a0 k, LeO (spec_Unquote.f k a0) (spec_Unquote.f (k + 1) a0) := by
 intro a0 k
 have ih0 := spec_Unquote.mono_l k
 unfold spec_Unquote.f
 repeat' first
  | (with_reducible exact ih0 _ _ _)
  | (with_reducible exact spec_appendUTF8.mono _ _ _)
  | (with_reducible exact spec_unit.mono _ _ _)
  | (with_reducible exact LeO.refl _)
  | (with_reducible exact LeO.none _)
  | (with_reducible refine LeO.ite ?_ ?_)
  | (with_reducible refine LeO.bind ?_ (fun _ => ?_))
  | exact ih0 _ _ _
  | exact spec_appendUTF8.mono _ _ _
  | exact spec_unit.mono _ _ _
  | exact LeO.none _
  | refine LeO.ite ?_ ?_
  | refine LeO.bind ?_ (fun _ => ?_)
set_option maxHeartbeats 8000000 in
set_option maxRecDepth 100000 in
theorem spec_Unquote.calls (k : Nat) (a0 : ByteArray) (r : ByteArray) (w : World) (h : spec_Unquote.f k a0 = some r) :
 Calls Tryd.prog 27 #[.string a0] w fun e w' => e = .returned (.string r) ∧ Below w.heap.size w w' := by
 have HB := mk0 (Below.refl w.heap.size w)
 have H : (if 1 ≤ (wrap64 ((a0.size : Int) - 1)) then (if (wrap64 ((a0.size : Int) - 1)) ≤ (a0.size : Int) then (spec_Unquote.l0 k ([] : List Int) (a0.extract 1 ((wrap64 ((a0.size : Int) - 1)) : Int).toNat) 0) else (none)) else (none)) = some r := h
 clear h
 by_cases c2 : 1 ≤ (wrap64 ((a0.size : Int) - 1))
 rotate_left
 ·rw [if_neg c2] at H
  exact absurd H (by simp)
 rw [if_pos c2] at H
 have c2b0 := eq_true c2
 have c2b1 : decide (1 ≤ (wrap64 ((a0.size : Int) - 1))) = true := decide_eq_true c2
 clear c2
 by_cases c3 : (wrap64 ((a0.size : Int) - 1)) ≤ (a0.size : Int)
 rotate_left
 ·rw [if_neg c3] at H
  exact absurd H (by simp)
 rw [if_pos c3] at H
 have c3b0 := eq_true c3
 have c3b1 : decide ((wrap64 ((a0.size : Int) - 1)) ≤ (a0.size : Int)) = true := decide_eq_true c3
 clear c3
 have H' := mk0 H
 clear H
 go_enter Tryd.func27, Tryd.ntmps27
 go_wp2
 generalize (a0.extract 1 ((wrap64 ((a0.size : Int) - 1)) : Int).toNat) = X_1 at *
 go_loopg [3, 5] k (fun kq v3 v5 w' => ∃ (x3_1 : List Int) (x5_1 : Int), v5 = .int .i64 x5_1 ∧ Aside0 (spec_Unquote.l0 kq x3_1 X_1 x5_1 = some r) ∧ Aside0 (kq ≤ k) ∧ Aside0 (Kd.R (Kd.int .u8) 5 w' w.heap.size (fun _ => True) v3 x3_1) ∧ Aside0 (Below w.heap.size w w'))
 case atStart => exact ⟨(([] : List Int)), (0), (by rfl), H', ⟨Nat.le_refl _⟩, ⟨by exact Kd.R_nil _ _ _ _ _⟩, ⟨by repeat (first | (with_reducible first | exact HB.out | apply below_alloc | apply pw_below_drewN | apply below_drew1) | exact HB.out)⟩⟩
 case round =>
  clear H'
  clear c2b0 c2b1 c3b0 c3b1
  obtain ⟨x3_1, x5_1, rfl, HA, HK1, HO_3, HB⟩ := hrel
  cases gk with
  | zero => exact absurd HA.out (by simp [spec_Unquote.l0])
  | succ k1 =>
   have H := HA.out
   clear HA
   simp only [spec_Unquote.l0] at H
   by_cases c4 : x5_1 < (X_1.size : Int)
   rotate_left
   ·rw [if_neg c4] at H
    have c4b0 : decide (x5_1 < (X_1.size : Int)) = false := decide_eq_false c4
    clear c4
    obtain rfl := Option.some.inj H
    have hcv38 := own_string (P := Tryd.prog) Tryd.underlying29 Tryd.underlying5 Tryd.underlying9 (Kd.own_of_R HO_3.out)
    go_wp2
    go_ret
    exact ⟨by rfl, by repeat (first | (with_reducible first | exact HB.out | apply below_alloc | apply pw_below_drewN | apply below_drew1) | exact HB.out)⟩
   rw [if_pos c4] at H
   have c4b0 : decide (x5_1 < (X_1.size : Int)) = true := decide_eq_true c4
   clear c4
   by_cases c5 : 0 ≤ x5_1
   rotate_left
   ·rw [if_neg c5] at H
    exact absurd H (by simp)
   rw [if_pos c5] at H
   have c5b0 : decide (0 ≤ x5_1) = true := decide_eq_true c5
   clear c5
   by_cases c7 : (bt X_1 x5_1) = 92
   rotate_left
   ·rw [if_neg c7] at H
    have c7b0 : ((bt X_1 x5_1) == 92) = false := beq_eq_false_iff_ne.mpr c7
    have c7b1 : ((bt X_1 x5_1) != 92) = true := bne_iff_ne.mpr c7
    by_cases c36 : x3_1.length < 140737488355328
    rotate_left
    ·rw [if_neg c36] at H
     exact absurd H (by simp)
    rw [if_pos c36] at H
    have LMc36 := mk0 c36
    clear c36
    obtain ⟨y101, hy101⟩ : ∃ y_ : List Int, y_ = (x3_1 ++ [bt X_1 x5_1]) := ⟨_, rfl⟩
    replace H : (spec_Unquote.l0 k1 y101 X_1 (wrap64 (x5_1 + 1))) = some r := by (rw [hy101]; with_reducible exact H)
    have Ny101 := mk0 hy101
    clear hy101
    have H' := mk0 H
    clear H
    have p6 : 0 ≤ (x5_1 : Int) := of_decide_eq_true zq5
    have q6 : x5_1 < (X_1.size : Int) := of_decide_eq_true zq5
    have hx6 := bt_at X_1 x5_1
    replace p6 := eq_true p6
    replace q6 := eq_true q6
    have p35 : 0 ≤ (x5_1 : Int) := of_decide_eq_true zq5
    have q35 : x5_1 < (X_1.size : Int) := of_decide_eq_true zq5
    have hx35 := bt_at X_1 x5_1
    replace p35 := eq_true p35
    replace q35 := eq_true q35
    go_wp2_with (first | ((with_reducible refine gate_builtin (b := .append) (xs := #[.tmp 23, .tmp 27]) rfl ?_); at_builtin; refine Kd.R_append (Kd.int .u8) (w0 := w) w.heap.size rfl (.tmp 23) (.tmp 27) 29 5 (.int .u8 0) 1 rfl Tryd.underlying29 info5 rfl zq49 (by omega) u3 x3_1 (bt X_1 x5_1) [.int .u8 (bt X_1 x5_1)] (fun _ => True) (fun _ => False) rfl rfl ?aP (fun _ hk => hk.elim) ?aF ?aO ?aB ?aS ?aL ?_; (case aP => exact rfl); (case aB => exact zq2); (case aF => exact (fun _ _ => trivial)); (case aO => exact (by (with_reducible repeat (first | apply Kd.R_alloc | apply Kd.R_drewN | apply Kd.R_drew)); exact HO_3.out)); (case aS => exact (below_size zq2)); (case aL => have := LMc36.out; omega); intro v102 w37 ho hb hg hat; rw [← Ny101.out] at ho; have n0_ := mk0 (hb); have n1_ := mk0 (ho); clear HB HO_3; have HB := n0_; have HO103 := n1_; clear n0_ n1_; clear ho hb hg hat))
    go_roundg k1
    case measure => have := HK1.out; omega
    case rel => exact ⟨(y101), (wrap64 (x5_1 + 1)), (by rfl), H', ⟨by have := HK1.out; omega⟩, ⟨by (with_reducible repeat (first | apply Kd.R_alloc | apply Kd.R_drewN | apply Kd.R_drew)); exact HO103.out⟩, ⟨by repeat (first | (with_reducible first | exact HB.out | apply below_alloc | apply pw_below_drewN | apply below_drew1) | exact HB.out)⟩⟩
   rw [if_pos c7] at H
   have c7b0 : ((bt X_1 x5_1) == 92) = true := beq_iff_eq.mpr c7
   have c7b1 : ((bt X_1 x5_1) != 92) = false := bne_eq_false_iff_eq.mpr c7
   clear c7
   replace H := Option.bind_eq_some_iff.mp H
   obtain ⟨⟨t104, t105⟩, A80, H⟩ := H
   (try dsimp only at H)
   have A8 := mk0 A80
   clear A80
   by_cases c9 : t105 = true
   rotate_left
   ·replace c9 := Bool.eq_false_iff.mpr c9
    subst c9
    rw [if_neg (show ¬ (false = true) by decide)] at H
    obtain ⟨ji28, hji28⟩ : ∃ j_ : Int, (wrap64 (x5_1 + 1)) = j_ := ⟨_, rfl⟩
    replace H : (if 0 ≤ (ji28) then (if (ji28) < (X_1.size : Int) then ((spec_short.f (bt X_1 (ji28))).bind fun t106 => (if x3_1.length < 140737488355328 then (spec_Unquote.l0 k1 (x3_1 ++ [t106]) X_1 (wrap64 (x5_1 + 2))) else (none))) else (none)) else (none)) = some r := by (rw [hji28] at H; exact H)
    (try rw [hji28] at A8)
    have hji28w : (IntKind.i64.wrap (x5_1 + 1)) = ji28 := (i64_w _).trans hji28
    by_cases c29 : 0 ≤ (ji28)
    rotate_left
    ·rw [if_neg c29] at H
     exact absurd H (by simp)
    rw [if_pos c29] at H
    have c29b0 : decide (0 ≤ (ji28)) = true := decide_eq_true c29
    clear c29
    by_cases c30 : (ji28) < (X_1.size : Int)
    rotate_left
    ·rw [if_neg c30] at H
     exact absurd H (by simp)
    rw [if_pos c30] at H
    have c30b0 : decide ((ji28) < (X_1.size : Int)) = true := decide_eq_true c30
    clear c30
    replace H := Option.bind_eq_some_iff.mp H
    obtain ⟨t106, A320, H⟩ := H
    (try dsimp only at H)
    have A32 := mk0 A320
    clear A320
    by_cases c33 : x3_1.length < 140737488355328
    rotate_left
    ·rw [if_neg c33] at H
     exact absurd H (by simp)
    rw [if_pos c33] at H
    have LMc33 := mk0 c33
    clear c33
    obtain ⟨y107, hy107⟩ : ∃ y_ : List Int, y_ = (x3_1 ++ [t106]) := ⟨_, rfl⟩
    replace H : (spec_Unquote.l0 k1 y107 X_1 (wrap64 (x5_1 + 2))) = some r := by (rw [hy107]; with_reducible exact H)
    have Ny107 := mk0 hy107
    clear hy107
    have H' := mk0 H
    clear H
    have p6 : 0 ≤ (x5_1 : Int) := of_decide_eq_true zq5
    have q6 : x5_1 < (X_1.size : Int) := of_decide_eq_true zq5
    have hx6 := bt_at X_1 x5_1
    replace p6 := eq_true p6
    replace q6 := eq_true q6
    go_wp2_with (first | ((with_reducible refine gate_callee (f := 48) rfl ?_); refine goesL_ (some 34) rfl rfl Tryd.func48 zq28 rfl #[.string X_1, .int .i64 x5_1] rfl zq0 ?_; (with_reducible refine (spec_unit.calls k1 X_1 x5_1 t104 false _ A8.out).mono ?_); rintro e w' ⟨rfl, ⟨nd, rfl⟩⟩; refine ⟨_, rfl, ?_⟩; have p31 : 0 ≤ ((ji28) : Int) := of_decide_eq_true zq5; have q31 : (ji28) < (X_1.size : Int) := of_decide_eq_true zq5; have hx31 := bt_at X_1 (ji28); replace p31 := eq_true p31; replace q31 := eq_true q31) | ((with_reducible refine gate_callee (f := 49) rfl ?_); refine goesL_ (some 44) rfl rfl Tryd.func49 zq28 rfl #[.int .u8 (bt X_1 (ji28))] rfl (by (try simp only [List.map_toArray, List.map_cons, List.map_nil]); first | done | (simp only [hji28]; rfl) | rfl | (simp only [List.length_drop, List.length_take]; rfl)) ?_; (with_reducible refine (spec_short.calls (bt X_1 (ji28)) t106 _ A32.out).mono ?_); rintro e w' ⟨rfl, ⟨nd, rfl⟩⟩; refine ⟨_, rfl, ?_⟩) | ((with_reducible refine gate_builtin (b := .append) (xs := #[.tmp 39, .tmp 45]) rfl ?_); at_builtin; refine Kd.R_append (Kd.int .u8) (w0 := w) w.heap.size rfl (.tmp 39) (.tmp 45) 29 5 (.int .u8 0) 1 rfl Tryd.underlying29 info5 rfl zq49 (by omega) u3 x3_1 t106 [.int .u8 t106] (fun _ => True) (fun _ => False) rfl rfl ?aP (fun _ hk => hk.elim) ?aF ?aO ?aB ?aS ?aL ?_; (case aP => exact rfl); (case aB => exact zq2); (case aF => exact (fun _ _ => trivial)); (case aO => exact (by (with_reducible repeat (first | apply Kd.R_alloc | apply Kd.R_drewN | apply Kd.R_drew)); exact HO_3.out)); (case aS => exact (below_size zq2)); (case aL => have := LMc33.out; omega); intro v108 w34 ho hb hg hat; rw [← Ny107.out] at ho; have n0_ := mk0 (hb); have n1_ := mk0 (ho); clear HB HO_3; have HB := n0_; have HO109 := n1_; clear n0_ n1_; clear ho hb hg hat))
    (try simp only [← hji28])
    go_roundg k1
    case measure => have := HK1.out; omega
    case rel => exact ⟨(y107), (wrap64 (x5_1 + 2)), (by rfl), (by exact H'), ⟨by have := HK1.out; omega⟩, ⟨by (with_reducible repeat (first | apply Kd.R_alloc | apply Kd.R_drewN | apply Kd.R_drew)); exact HO109.out⟩, ⟨by repeat (first | (with_reducible first | exact HB.out | apply below_alloc | apply pw_below_drewN | apply below_drew1) | exact HB.out)⟩⟩
   subst c9
   rw [if_pos rfl] at H
   replace H := Option.bind_eq_some_iff.mp H
   obtain ⟨⟨t110, t111⟩, A100, H⟩ := H
   (try dsimp only at H)
   have A10 := mk0 A100
   clear A100
   by_cases c11 : t111 = true
   rotate_left
   ·replace c11 := Bool.eq_false_iff.mpr c11
    subst c11
    rw [if_neg (show ¬ (false = true) by decide)] at H
    replace H := Option.bind_eq_some_iff.mp H
    obtain ⟨t123, A250, H⟩ := H
    (try dsimp only at H)
    have A25 := mk0 A250
    clear A250
    have H' := mk0 H
    clear H
    have p6 : 0 ≤ (x5_1 : Int) := of_decide_eq_true zq5
    have q6 : x5_1 < (X_1.size : Int) := of_decide_eq_true zq5
    have hx6 := bt_at X_1 x5_1
    replace p6 := eq_true p6
    replace q6 := eq_true q6
    go_wp2_with (first | ((with_reducible refine gate_callee (f := 48) rfl ?_); refine goesL_ (some 34) rfl rfl Tryd.func48 zq28 rfl #[.string X_1, .int .i64 x5_1] rfl zq0 ?_; (with_reducible refine (spec_unit.calls k1 X_1 x5_1 t104 true _ A8.out).mono ?_); rintro e w' ⟨rfl, ⟨nd, rfl⟩⟩; refine ⟨_, rfl, ?_⟩) | ((with_reducible refine gate_callee (f := 48) rfl ?_); refine goesL_ (some 54) rfl rfl Tryd.func48 zq28 rfl #[.string X_1, .int .i64 (wrap64 (x5_1 + 6))] rfl zq0 ?_; (with_reducible refine (spec_unit.calls k1 X_1 (wrap64 (x5_1 + 6)) t110 false _ A10.out).mono ?_); rintro e w' ⟨rfl, ⟨nd, rfl⟩⟩; refine ⟨_, rfl, ?_⟩; obtain ⟨Ao26, co26, eo26⟩ := Kd.R_slice HO_3.out; subst eo26) | ((with_reducible refine gate_callee (f := 52) rfl ?_); refine goesL_ (some 77) rfl rfl Tryd.func52 zq28 rfl #[.slice Ao26 x3_1.length co26, .int .i64 t104] rfl zq0 ?_; (with_reducible refine (spec_appendUTF8.calls k1 (fun k_ => some k_ = (.slice Ao26 x3_1.length co26 : Value).ownBlock) (.slice Ao26 x3_1.length co26) x3_1 t104 t123 w _ ?side1 ?side2 A25.out).mono ?_); (case side1 => exact zq2); (case side2 => exact Kd.R_tight rfl HO_3.out); rintro e w27 ⟨v124, rfl, ho0, hb, hkp⟩; refine ⟨_, rfl, ?_⟩; have n0_ := mk0 (Kd.R_mono (ok' := fun k_ => True) ho0 (fun k_ hk_ => trivial)); have n1_ := mk0 (hb); clear HB HO_3; have HO125 := n0_; have HB := n1_; clear n0_ n1_; clear hb hkp ho0))
    go_roundg k1
    case measure => have := HK1.out; omega
    case rel => exact ⟨(t123), (wrap64 (x5_1 + 6)), (by rfl), H', ⟨by have := HK1.out; omega⟩, ⟨by (with_reducible repeat (first | apply Kd.R_alloc | apply Kd.R_drewN | apply Kd.R_drew)); exact HO125.out⟩, ⟨by repeat (first | (with_reducible first | exact HB.out | apply below_alloc | apply pw_below_drewN | apply below_drew1) | exact HB.out)⟩⟩
   subst c11
   rw [if_pos rfl] at H
   replace H := Option.bind_eq_some_iff.mp H
   obtain ⟨t112, A120, H⟩ := H
   (try dsimp only at H)
   have A12 := mk0 A120
   clear A120
   by_cases c13 : t112 = true
   rotate_left
   ·replace c13 := Bool.eq_false_iff.mpr c13
    subst c13
    rw [if_neg (show ¬ (false = true) by decide)] at H
    replace H := Option.bind_eq_some_iff.mp H
    obtain ⟨t120, A220, H⟩ := H
    (try dsimp only at H)
    have A22 := mk0 A220
    clear A220
    have H' := mk0 H
    clear H
    have p6 : 0 ≤ (x5_1 : Int) := of_decide_eq_true zq5
    have q6 : x5_1 < (X_1.size : Int) := of_decide_eq_true zq5
    have hx6 := bt_at X_1 x5_1
    replace p6 := eq_true p6
    replace q6 := eq_true q6
    go_wp2_with (first | ((with_reducible refine gate_callee (f := 48) rfl ?_); refine goesL_ (some 34) rfl rfl Tryd.func48 zq28 rfl #[.string X_1, .int .i64 x5_1] rfl zq0 ?_; (with_reducible refine (spec_unit.calls k1 X_1 x5_1 t104 true _ A8.out).mono ?_); rintro e w' ⟨rfl, ⟨nd, rfl⟩⟩; refine ⟨_, rfl, ?_⟩) | ((with_reducible refine gate_callee (f := 48) rfl ?_); refine goesL_ (some 54) rfl rfl Tryd.func48 zq28 rfl #[.string X_1, .int .i64 (wrap64 (x5_1 + 6))] rfl zq0 ?_; (with_reducible refine (spec_unit.calls k1 X_1 (wrap64 (x5_1 + 6)) t110 true _ A10.out).mono ?_); rintro e w' ⟨rfl, ⟨nd, rfl⟩⟩; refine ⟨_, rfl, ?_⟩) | (go_at_call 50; (with_reducible refine (spec_high.calls t104 false _ A12.out).mono ?_); rintro e w' ⟨rfl, ⟨nd, rfl⟩⟩; obtain ⟨Ao23, co23, eo23⟩ := Kd.R_slice HO_3.out; subst eo23) | ((with_reducible refine gate_callee (f := 52) rfl ?_); refine goesL_ (some 77) rfl rfl Tryd.func52 zq28 rfl #[.slice Ao23 x3_1.length co23, .int .i64 t104] rfl zq0 ?_; (with_reducible refine (spec_appendUTF8.calls k1 (fun k_ => some k_ = (.slice Ao23 x3_1.length co23 : Value).ownBlock) (.slice Ao23 x3_1.length co23) x3_1 t104 t120 w _ ?side1 ?side2 A22.out).mono ?_); (case side1 => exact zq2); (case side2 => exact Kd.R_tight rfl HO_3.out); rintro e w24 ⟨v121, rfl, ho0, hb, hkp⟩; refine ⟨_, rfl, ?_⟩; have n0_ := mk0 (Kd.R_mono (ok' := fun k_ => True) ho0 (fun k_ hk_ => trivial)); have n1_ := mk0 (hb); clear HB HO_3; have HO122 := n0_; have HB := n1_; clear n0_ n1_; clear hb hkp ho0))
    go_roundg k1
    case measure => have := HK1.out; omega
    case rel => exact ⟨(t120), (wrap64 (x5_1 + 6)), (by rfl), H', ⟨by have := HK1.out; omega⟩, ⟨by (with_reducible repeat (first | apply Kd.R_alloc | apply Kd.R_drewN | apply Kd.R_drew)); exact HO122.out⟩, ⟨by repeat (first | (with_reducible first | exact HB.out | apply below_alloc | apply pw_below_drewN | apply below_drew1) | exact HB.out)⟩⟩
   subst c13
   rw [if_pos rfl] at H
   replace H := Option.bind_eq_some_iff.mp H
   obtain ⟨t113, A140, H⟩ := H
   (try dsimp only at H)
   have A14 := mk0 A140
   clear A140
   by_cases c15 : t113 = true
   rotate_left
   ·replace c15 := Bool.eq_false_iff.mpr c15
    subst c15
    rw [if_neg (show ¬ (false = true) by decide)] at H
    replace H := Option.bind_eq_some_iff.mp H
    obtain ⟨t117, A190, H⟩ := H
    (try dsimp only at H)
    have A19 := mk0 A190
    clear A190
    have H' := mk0 H
    clear H
    have p6 : 0 ≤ (x5_1 : Int) := of_decide_eq_true zq5
    have q6 : x5_1 < (X_1.size : Int) := of_decide_eq_true zq5
    have hx6 := bt_at X_1 x5_1
    replace p6 := eq_true p6
    replace q6 := eq_true q6
    go_wp2_with (first | ((with_reducible refine gate_callee (f := 48) rfl ?_); refine goesL_ (some 34) rfl rfl Tryd.func48 zq28 rfl #[.string X_1, .int .i64 x5_1] rfl zq0 ?_; (with_reducible refine (spec_unit.calls k1 X_1 x5_1 t104 true _ A8.out).mono ?_); rintro e w' ⟨rfl, ⟨nd, rfl⟩⟩; refine ⟨_, rfl, ?_⟩) | ((with_reducible refine gate_callee (f := 48) rfl ?_); refine goesL_ (some 54) rfl rfl Tryd.func48 zq28 rfl #[.string X_1, .int .i64 (wrap64 (x5_1 + 6))] rfl zq0 ?_; (with_reducible refine (spec_unit.calls k1 X_1 (wrap64 (x5_1 + 6)) t110 true _ A10.out).mono ?_); rintro e w' ⟨rfl, ⟨nd, rfl⟩⟩; refine ⟨_, rfl, ?_⟩) | (go_at_call 50; (with_reducible refine (spec_high.calls t104 true _ A12.out).mono ?_); rintro e w' ⟨rfl, ⟨nd, rfl⟩⟩) | (go_at_call 51; (with_reducible refine (spec_low.calls t110 false _ A14.out).mono ?_); rintro e w' ⟨rfl, ⟨nd, rfl⟩⟩; obtain ⟨Ao20, co20, eo20⟩ := Kd.R_slice HO_3.out; subst eo20) | ((with_reducible refine gate_callee (f := 52) rfl ?_); refine goesL_ (some 77) rfl rfl Tryd.func52 zq28 rfl #[.slice Ao20 x3_1.length co20, .int .i64 t104] rfl zq0 ?_; (with_reducible refine (spec_appendUTF8.calls k1 (fun k_ => some k_ = (.slice Ao20 x3_1.length co20 : Value).ownBlock) (.slice Ao20 x3_1.length co20) x3_1 t104 t117 w _ ?side1 ?side2 A19.out).mono ?_); (case side1 => exact zq2); (case side2 => exact Kd.R_tight rfl HO_3.out); rintro e w21 ⟨v118, rfl, ho0, hb, hkp⟩; refine ⟨_, rfl, ?_⟩; have n0_ := mk0 (Kd.R_mono (ok' := fun k_ => True) ho0 (fun k_ hk_ => trivial)); have n1_ := mk0 (hb); clear HB HO_3; have HO119 := n0_; have HB := n1_; clear n0_ n1_; clear hb hkp ho0))
    go_roundg k1
    case measure => have := HK1.out; omega
    case rel => exact ⟨(t117), (wrap64 (x5_1 + 6)), (by rfl), H', ⟨by have := HK1.out; omega⟩, ⟨by (with_reducible repeat (first | apply Kd.R_alloc | apply Kd.R_drewN | apply Kd.R_drew)); exact HO119.out⟩, ⟨by repeat (first | (with_reducible first | exact HB.out | apply below_alloc | apply pw_below_drewN | apply below_drew1) | exact HB.out)⟩⟩
   subst c15
   rw [if_pos rfl] at H
   replace H := Option.bind_eq_some_iff.mp H
   obtain ⟨t114, A160, H⟩ := H
   (try dsimp only at H)
   have A16 := mk0 A160
   clear A160
   have H' := mk0 H
   clear H
   have p6 : 0 ≤ (x5_1 : Int) := of_decide_eq_true zq5
   have q6 : x5_1 < (X_1.size : Int) := of_decide_eq_true zq5
   have hx6 := bt_at X_1 x5_1
   replace p6 := eq_true p6
   replace q6 := eq_true q6
   go_wp2_with (first | ((with_reducible refine gate_callee (f := 48) rfl ?_); refine goesL_ (some 34) rfl rfl Tryd.func48 zq28 rfl #[.string X_1, .int .i64 x5_1] rfl zq0 ?_; (with_reducible refine (spec_unit.calls k1 X_1 x5_1 t104 true _ A8.out).mono ?_); rintro e w' ⟨rfl, ⟨nd, rfl⟩⟩; refine ⟨_, rfl, ?_⟩) | ((with_reducible refine gate_callee (f := 48) rfl ?_); refine goesL_ (some 54) rfl rfl Tryd.func48 zq28 rfl #[.string X_1, .int .i64 (wrap64 (x5_1 + 6))] rfl zq0 ?_; (with_reducible refine (spec_unit.calls k1 X_1 (wrap64 (x5_1 + 6)) t110 true _ A10.out).mono ?_); rintro e w' ⟨rfl, ⟨nd, rfl⟩⟩; refine ⟨_, rfl, ?_⟩) | (go_at_call 50; (with_reducible refine (spec_high.calls t104 true _ A12.out).mono ?_); rintro e w' ⟨rfl, ⟨nd, rfl⟩⟩) | (go_at_call 51; (with_reducible refine (spec_low.calls t110 true _ A14.out).mono ?_); rintro e w' ⟨rfl, ⟨nd, rfl⟩⟩; obtain ⟨Ao17, co17, eo17⟩ := Kd.R_slice HO_3.out; subst eo17) | ((with_reducible refine gate_callee (f := 52) rfl ?_); refine goesL_ (some 77) rfl rfl Tryd.func52 zq28 rfl #[.slice Ao17 x3_1.length co17, .int .i64 (wrap64 ((wrap64 (65536 + (wrap64 ((wrap64 (t104 - 55296)) * 1024)))) + (wrap64 (t110 - 56320))))] rfl zq0 ?_; (with_reducible refine (spec_appendUTF8.calls k1 (fun k_ => some k_ = (.slice Ao17 x3_1.length co17 : Value).ownBlock) (.slice Ao17 x3_1.length co17) x3_1 (wrap64 ((wrap64 (65536 + (wrap64 ((wrap64 (t104 - 55296)) * 1024)))) + (wrap64 (t110 - 56320)))) t114 w _ ?side1 ?side2 A16.out).mono ?_); (case side1 => exact zq2); (case side2 => exact Kd.R_tight rfl HO_3.out); rintro e w18 ⟨v115, rfl, ho0, hb, hkp⟩; refine ⟨_, rfl, ?_⟩; have n0_ := mk0 (Kd.R_mono (ok' := fun k_ => True) ho0 (fun k_ hk_ => trivial)); have n1_ := mk0 (hb); clear HB HO_3; have HO116 := n0_; have HB := n1_; clear n0_ n1_; clear hb hkp ho0))
   go_roundg k1
   case measure => have := HK1.out; omega
   case rel => exact ⟨(t114), (wrap64 ((wrap64 (x5_1 + 6)) + 6)), (by rfl), H', ⟨by have := HK1.out; omega⟩, ⟨by (with_reducible repeat (first | apply Kd.R_alloc | apply Kd.R_drewN | apply Kd.R_drew)); exact HO116.out⟩, ⟨by repeat (first | (with_reducible first | exact HB.out | apply below_alloc | apply pw_below_drewN | apply below_drew1) | exact HB.out)⟩⟩
mutual
def spec_Tree.j0 : Nat → ByteArray → Int → Int → Int → List (S122) → List (S38) → Int → ByteArray → Option (Int × ByteArray × List ByteArray × (List (S34)))
  | 0, _, _, _, _, _, _, _, _ => none
  | k + 1, x0, x102000, x102001, x102002, x102003, x102004, x104000, x104001 => spec_Tree.l0 k x0 0 x102000 x102001 x102002 x102003 x102004 x104000 x104001 ([] : List ByteArray)
def spec_Tree.l0 : Nat → ByteArray → Int → Int → Int → Int → List (S122) → List (S38) → Int → ByteArray → List ByteArray → Option (Int × ByteArray × List ByteArray × (List (S34)))
  | 0, _, _, _, _, _, _, _, _, _, _ => none
  | k + 1, x0, x6, x102000, x102001, x102002, x102003, x102004, x104000, x104001, x104002 => if x6 < (x102003.length : Int) then (if 0 ≤ x6 then (if 0 ≤ ((rd_T122 x102003 x6).f0) then (if ((rd_T122 x102003 x6).f0) ≤ ((rd_T122 x102003 x6).f1) then (if ((rd_T122 x102003 x6).f1) ≤ (x0.size : Int) then ((spec_Unquote.f k (x0.extract (((rd_T122 x102003 x6).f0) : Int).toNat (((rd_T122 x102003 x6).f1) : Int).toNat)).bind fun t107 => (if x104002.length < 8796093022208 then (spec_Tree.l0 k x0 (wrap64 (x6 + 1)) x102000 x102001 x102002 x102003 x102004 x104000 x104001 (x104002 ++ [t107])) else (none))) else (none)) else (none)) else (none)) else (none)) else (spec_Tree.l1 k x0 0 x102000 x102001 x102002 x102003 x102004 x104000 x104001 x104002 ([] : List (S34)))
def spec_Tree.l1 : Nat → ByteArray → Int → Int → Int → Int → List (S122) → List (S38) → Int → ByteArray → List ByteArray → List (S34) → Option (Int × ByteArray × List ByteArray × (List (S34)))
  | 0, _, _, _, _, _, _, _, _, _, _, _ => none
  | k + 1, x0, x7, x102000, x102001, x102002, x102003, x102004, x104000, x104001, x104002, x104003 => if x7 < (x102004.length : Int) then (if 0 ≤ x7 then ((spec_Tree.f k x0 ((rd_T38 x102004 x7).f0) ((rd_T38 x102004 x7).f1) ((rd_T38 x102004 x7).f2) ((rd_T38 x102004 x7).f3) ((rd_T38 x102004 x7).f4)).bind fun bt112 => (if x104003.length < 1954687338268 then (spec_Tree.l1 k x0 (wrap64 (x7 + 1)) x102000 x102001 x102002 x102003 x102004 x104000 x104001 x104002 (x104003 ++ [(⟨bt112.1, bt112.2.1, bt112.2.2.1, bt112.2.2.2⟩ : S34)])) else (none))) else (none)) else (some (x104000, x104001, x104002, x104003))
def spec_Tree.f : Nat → ByteArray → Int → Int → Int → List (S122) → List (S38) → Option (Int × ByteArray × List ByteArray × (List (S34)))
  | 0, _, _, _, _, _, _ => none
  | k + 1, a0, a1_0, a1_1, a1_2, l1_3, l1_4 => if a1_0 = 3 then (if 0 ≤ a1_1 then (if a1_1 ≤ a1_2 then (if a1_2 ≤ (a0.size : Int) then (spec_Tree.j0 k a0 a1_0 a1_1 a1_2 l1_3 l1_4 a1_0 (a0.extract (a1_1 : Int).toNat (a1_2 : Int).toNat)) else (none)) else (none)) else (none)) else (if a1_0 = 4 then (if 0 ≤ a1_1 then (if a1_1 ≤ a1_2 then (if a1_2 ≤ (a0.size : Int) then ((spec_Unquote.f k (a0.extract (a1_1 : Int).toNat (a1_2 : Int).toNat)).bind fun t104 => (spec_Tree.j0 k a0 a1_0 a1_1 a1_2 l1_3 l1_4 a1_0 t104)) else (none)) else (none)) else (none)) else (spec_Tree.j0 k a0 a1_0 a1_1 a1_2 l1_3 l1_4 a1_0 (⟨#[]⟩ : ByteArray)))
end
theorem spec_Tree.mono_l : ∀ k, (∀ y0 y1 y2 y3 y4 y5, LeO (spec_Tree.f k y0 y1 y2 y3 y4 y5) (spec_Tree.f (k + 1) y0 y1 y2 y3 y4 y5)) ∧ (∀ y0 y1 y2 y3 y4 y5 y6 y7, LeO (spec_Tree.j0 k y0 y1 y2 y3 y4 y5 y6 y7) (spec_Tree.j0 (k + 1) y0 y1 y2 y3 y4 y5 y6 y7)) ∧ (∀ y0 y1 y2 y3 y4 y5 y6 y7 y8 y9, LeO (spec_Tree.l0 k y0 y1 y2 y3 y4 y5 y6 y7 y8 y9) (spec_Tree.l0 (k + 1) y0 y1 y2 y3 y4 y5 y6 y7 y8 y9)) ∧ (∀ y0 y1 y2 y3 y4 y5 y6 y7 y8 y9 y10, LeO (spec_Tree.l1 k y0 y1 y2 y3 y4 y5 y6 y7 y8 y9 y10) (spec_Tree.l1 (k + 1) y0 y1 y2 y3 y4 y5 y6 y7 y8 y9 y10))
 | 0 => ⟨fun _ _ _ _ _ _ r h => by simp [spec_Tree.f] at h, fun _ _ _ _ _ _ _ _ r h => by simp [spec_Tree.j0] at h, fun _ _ _ _ _ _ _ _ _ _ r h => by simp [spec_Tree.l0] at h, fun _ _ _ _ _ _ _ _ _ _ _ r h => by simp [spec_Tree.l1] at h⟩
 | k + 1 => by
  obtain ⟨ih0, ih1, ih2, ih3⟩ := spec_Tree.mono_l k
  refine ⟨?_, ?_, ?_, ?_⟩
  ·intro y0 y1 y2 y3 y4 y5
   unfold spec_Tree.f
   repeat' first
   | (with_reducible exact ih0 _ _ _ _ _ _)
   | (with_reducible exact ih1 _ _ _ _ _ _ _ _)
   | (with_reducible exact ih2 _ _ _ _ _ _ _ _ _ _)
   | (with_reducible exact ih3 _ _ _ _ _ _ _ _ _ _ _)
   | (with_reducible exact spec_Unquote.mono _ _)
   | (with_reducible exact LeO.refl _)
   | (with_reducible exact LeO.none _)
   | (with_reducible refine LeO.ite ?_ ?_)
   | (with_reducible refine LeO.bind ?_ (fun _ => ?_))
   | exact ih0 _ _ _ _ _ _
   | exact ih1 _ _ _ _ _ _ _ _
   | exact ih2 _ _ _ _ _ _ _ _ _ _
   | exact ih3 _ _ _ _ _ _ _ _ _ _ _
   | exact spec_Unquote.mono _ _
   | exact LeO.none _
   | refine LeO.ite ?_ ?_
   | refine LeO.bind ?_ (fun _ => ?_)
  ·intro y0 y1 y2 y3 y4 y5 y6 y7
   unfold spec_Tree.j0
   repeat' first
   | (with_reducible exact ih0 _ _ _ _ _ _)
   | (with_reducible exact ih1 _ _ _ _ _ _ _ _)
   | (with_reducible exact ih2 _ _ _ _ _ _ _ _ _ _)
   | (with_reducible exact ih3 _ _ _ _ _ _ _ _ _ _ _)
   | (with_reducible exact spec_Unquote.mono _ _)
   | (with_reducible exact LeO.refl _)
   | (with_reducible exact LeO.none _)
   | (with_reducible refine LeO.ite ?_ ?_)
   | (with_reducible refine LeO.bind ?_ (fun _ => ?_))
   | exact ih0 _ _ _ _ _ _
   | exact ih1 _ _ _ _ _ _ _ _
   | exact ih2 _ _ _ _ _ _ _ _ _ _
   | exact ih3 _ _ _ _ _ _ _ _ _ _ _
   | exact spec_Unquote.mono _ _
   | exact LeO.none _
   | refine LeO.ite ?_ ?_
   | refine LeO.bind ?_ (fun _ => ?_)
  ·intro y0 y1 y2 y3 y4 y5 y6 y7 y8 y9
   unfold spec_Tree.l0
   repeat' first
   | (with_reducible exact ih0 _ _ _ _ _ _)
   | (with_reducible exact ih1 _ _ _ _ _ _ _ _)
   | (with_reducible exact ih2 _ _ _ _ _ _ _ _ _ _)
   | (with_reducible exact ih3 _ _ _ _ _ _ _ _ _ _ _)
   | (with_reducible exact spec_Unquote.mono _ _)
   | (with_reducible exact LeO.refl _)
   | (with_reducible exact LeO.none _)
   | (with_reducible refine LeO.ite ?_ ?_)
   | (with_reducible refine LeO.bind ?_ (fun _ => ?_))
   | exact ih0 _ _ _ _ _ _
   | exact ih1 _ _ _ _ _ _ _ _
   | exact ih2 _ _ _ _ _ _ _ _ _ _
   | exact ih3 _ _ _ _ _ _ _ _ _ _ _
   | exact spec_Unquote.mono _ _
   | exact LeO.none _
   | refine LeO.ite ?_ ?_
   | refine LeO.bind ?_ (fun _ => ?_)
  ·intro y0 y1 y2 y3 y4 y5 y6 y7 y8 y9 y10
   unfold spec_Tree.l1
   repeat' first
   | (with_reducible exact ih0 _ _ _ _ _ _)
   | (with_reducible exact ih1 _ _ _ _ _ _ _ _)
   | (with_reducible exact ih2 _ _ _ _ _ _ _ _ _ _)
   | (with_reducible exact ih3 _ _ _ _ _ _ _ _ _ _ _)
   | (with_reducible exact spec_Unquote.mono _ _)
   | (with_reducible exact LeO.refl _)
   | (with_reducible exact LeO.none _)
   | (with_reducible refine LeO.ite ?_ ?_)
   | (with_reducible refine LeO.bind ?_ (fun _ => ?_))
   | exact ih0 _ _ _ _ _ _
   | exact ih1 _ _ _ _ _ _ _ _
   | exact ih2 _ _ _ _ _ _ _ _ _ _
   | exact ih3 _ _ _ _ _ _ _ _ _ _ _
   | exact spec_Unquote.mono _ _
   | exact LeO.none _
   | refine LeO.ite ?_ ?_
   | refine LeO.bind ?_ (fun _ => ?_)
theorem spec_Tree.mono : ∀ a0 a1 a2 a3 a4 a5 k, LeO (spec_Tree.f k a0 a1 a2 a3 a4 a5) (spec_Tree.f (k + 1) a0 a1 a2 a3 a4 a5) := by
 intro a0 a1 a2 a3 a4 a5 k
 obtain ⟨ih0, ih1, ih2, ih3⟩ := spec_Tree.mono_l k
 exact ih0 a0 a1 a2 a3 a4 a5
def spec_Tree.T10 : Bool × List (List Nat × List Nat) := (true, [([], []), ([0], [0]), ([], []), ([], []), ([3], [3]), ([], []), ([4, 5], [4, 5]), ([6], [6]), ([7], [7]), ([], []), ([9], [9]), ([], []), ([10, 11], [10, 11]), ([12], [12]), ([13], [13]), ([2, 8, 14], [2, 8, 14]), ([15], [15]), ([16], [16]), ([1, 17, 16], [1, 17]), ([0, 1, 2, 3, 4, 5, 6, 7, 8, 9, 10, 11, 12, 13, 14, 15, 16, 17, 18], []), ([19, 18, 18, 0, 1, 2, 3, 4, 5, 6, 7, 8, 9, 10, 11, 12, 13, 14, 15, 16, 17, 18], [18, 19])])
def spec_Tree.B10 : List Nat := [0, 1, 0, 0, 8, 0, 56, 120, 248, 0, 512, 0, 3584, 7680, 15872, 32764, 65532, 131068, 262143, 524287, 1048575]
theorem spec_Tree.tab10 : rtab .any (opsOf Tryd.f44 10) = spec_Tree.T10 := by kernel_rfl
theorem spec_Tree.bits10 : waitsOk spec_Tree.T10.2 spec_Tree.B10 = true := by kernel_rfl
def spec_Tree.T14 : Bool × List (List Nat × List Nat) := (true, [([], []), ([0], [0]), ([], []), ([], []), ([3], [3]), ([], []), ([4, 5], [4, 5]), ([6], [6]), ([2, 7], [2, 7]), ([8], [8]), ([1, 9, 8], [1, 9]), ([0, 1, 2, 3, 4, 5, 6, 7, 8, 9, 10], []), ([11, 10, 10, 0, 1, 2, 3, 4, 5, 6, 7, 8, 9, 10], [10, 11])])
def spec_Tree.B14 : List Nat := [0, 1, 0, 0, 8, 0, 56, 120, 252, 508, 1023, 2047, 4095]
theorem spec_Tree.tab14 : rtab .any (opsOf Tryd.f44 14) = spec_Tree.T14 := by kernel_rfl
theorem spec_Tree.bits14 : waitsOk spec_Tree.T14.2 spec_Tree.B14 = true := by kernel_rfl
set_option maxHeartbeats 8000000 in
set_option maxRecDepth 100000 in
theorem spec_Tree.calls (k : Nat) : ∀ (a0 : ByteArray) (a1_0 : Int) (a1_1 : Int) (a1_2 : Int) (A1_3 : Option Addr) (c1_3 : Nat) (l1_3 : List (S122)) (A1_4 : Option Addr) (c1_4 : Nat) (l1_4 : List (S38)) (r1 : Int) (r2 : ByteArray) (r3 : List ByteArray) (r4 : List (S34)) (w : World) (hr1_3 : Kd.C k122 w A1_3 l1_3.length l1_3) (hc1_3 : l1_3.length ≤ c1_3) (hr1_4 : Kd.C k38 w A1_4 l1_4.length l1_4) (hc1_4 : l1_4.length ≤ c1_4) (h : spec_Tree.f k a0 a1_0 a1_1 a1_2 l1_3 l1_4 = some (r1, r2, r3, r4)),
 Calls Tryd.prog 44 #[.string a0, .agg #[.int .i64 a1_0, .int .i64 a1_1, .int .i64 a1_2, .slice A1_3 l1_3.length c1_3, .slice A1_4 l1_4.length c1_4]] w fun e w' => ∃ v2_ v3_ : Value, e = .returned (.agg #[.int .i64 r1, .string r2, v2_, v3_]) ∧ Kd.R Kd.string 9 w' w.heap.size (fun _ => True) v2_ r3 ∧ Kd.R k34 34 w' w.heap.size (fun k_ => some k_ ≠ (v2_ : Value).ownBlock) v3_ r4 ∧ Below w.heap.size w w' := by
 induction k using Nat.strongRecOn with
 | _ k ih =>
 intro a0 a1_0 a1_1 a1_2 A1_3 c1_3 l1_3 A1_4 c1_4 l1_4 r1 r2 r3 r4 w hr1_3 hc1_3 hr1_4 hc1_4 h
 cases k with
 | zero => exact absurd h (by simp [spec_Tree.f])
 | succ k =>
 simp only [spec_Tree.f] at h
 have hu38 := Tryd.underlying38
 have hu34 := Tryd.underlying34
 have HR1_3 := mk0 hr1_3
 have HC1_3 := mk0 hc1_3
 clear hr1_3 hc1_3
 have HR1_4 := mk0 hr1_4
 have HC1_4 := mk0 hc1_4
 clear hr1_4 hc1_4
 have HB := mk0 (Below.refl w.heap.size w)
 have H : (if a1_0 = 3 then (if 0 ≤ a1_1 then (if a1_1 ≤ a1_2 then (if a1_2 ≤ (a0.size : Int) then (spec_Tree.j0 k a0 a1_0 a1_1 a1_2 l1_3 l1_4 a1_0 (a0.extract (a1_1 : Int).toNat (a1_2 : Int).toNat)) else (none)) else (none)) else (none)) else (if a1_0 = 4 then (if 0 ≤ a1_1 then (if a1_1 ≤ a1_2 then (if a1_2 ≤ (a0.size : Int) then ((spec_Unquote.f k (a0.extract (a1_1 : Int).toNat (a1_2 : Int).toNat)).bind fun t104 => (spec_Tree.j0 k a0 a1_0 a1_1 a1_2 l1_3 l1_4 a1_0 t104)) else (none)) else (none)) else (none)) else (spec_Tree.j0 k a0 a1_0 a1_1 a1_2 l1_3 l1_4 a1_0 (⟨#[]⟩ : ByteArray)))) = some (r1, r2, r3, r4) := h
 clear h
 have HC3 := mk0 H
 clear H
 go_enter Tryd.func44, Tryd.ntmps44
 go_upto_block 0 with (first | ((with_reducible refine gate_dst (N := 3) rfl ?_); refine box_event ?hg (N := 3) ?hd (cs := #[.int .i64 a1_0, .int .i64 a1_1, .int .i64 a1_2, .slice A1_3 l1_3.length c1_3, .slice A1_4 l1_4.length c1_4]) (t := 38) ?hr ?_; (case hd => rfl); (case hg => rfl); (case hr => exact zq32); intro gb101 hg w4 hbox hb; have BK101 := mk0 (hbox); have GW101 := mk0 ((zq63 : w.heap.size ≤ gb101)); have GE101 := mk0 ((zq63 : w.heap.size ≤ gb101)); replace HB := mk0 (below_step zq2 hb); clear hb hbox hg) | ((with_reducible refine gate_dst (N := 4) rfl ?_); refine box_event ?hg (N := 4) ?hd (cs := #[.int .i64 0, .string (⟨#[]⟩ : ByteArray), .slice none 0 0, .slice none 0 0]) (t := 34) ?hr ?_; (case hd => rfl); (case hg => rfl); (case hr => exact zq32); intro gb102 hg w5 hbox hb; have BK102 := mk0 (hbox); have GW102 := mk0 ((zq73 : w.heap.size ≤ gb102)); have GE102 := mk0 ((zq73 : w.heap.size ≤ gb102)); replace HB := mk0 (below_step zq20 hb); have NB101_102 := mk0 ((zq64 : gb101 ≠ gb102)); have NB102_101 := mk0 ((zq65 : gb102 ≠ gb101)); replace BK101 := mk0 (blk_below (g := gb101) (o := .cells #[.int .i64 a1_0, .int .i64 a1_1, .int .i64 a1_2, .slice A1_3 l1_3.length c1_3, .slice A1_4 l1_4.length c1_4] 38 (0, 0)) zq9 hb); clear hb hbox hg; have hnb6 := NB101_102.out; have hnc6 := NB102_101.out; have hcz7_0 : w5.cell? ⟨gb101, 0, none⟩ = some (.int .i64 a1_0) := (blk_cell BK101.out 0).trans rfl; have hcz7_1 : w5.cell? ⟨gb101, 1, none⟩ = some (.int .i64 a1_1) := (blk_cell BK101.out 1).trans rfl; have hcz7_2 : w5.cell? ⟨gb101, 2, none⟩ = some (.int .i64 a1_2) := (blk_cell BK101.out 2).trans rfl; have hcz7_3 : w5.cell? ⟨gb101, 3, none⟩ = some (.slice A1_3 l1_3.length c1_3) := (blk_cell BK101.out 3).trans rfl; have hcz7_4 : w5.cell? ⟨gb101, 4, none⟩ = some (.slice A1_4 l1_4.length c1_4) := (blk_cell BK101.out 4).trans rfl; have hfz7_0 := blk_frozen BK101.out 0; have hfz7_1 := blk_frozen BK101.out 1; have hfz7_2 := blk_frozen BK101.out 2; have hfz7_3 := blk_frozen BK101.out 3; have hfz7_4 := blk_frozen BK101.out 4) | ((with_reducible refine gate_dst (N := 5) rfl ?_); refine box_event ?hg (N := 5) ?hd (cs := #[.int .i64 0, .string (⟨#[]⟩ : ByteArray), .slice none 0 0, .slice none 0 0]) (t := 34) ?hr ?_; (case hd => rfl); (case hg => rfl); (case hr => exact zq32); intro gb103 hg w8 hbox hb; have BK103 := mk0 (hbox); have GW103 := mk0 ((by rw [hg]; exact (below_size zq51) : w.heap.size ≤ gb103)); have GE103 := mk0 ((by rw [hg]; exact (below_size zq51) : w.heap.size ≤ gb103)); replace HB := mk0 (below_step zq51 hb); have NB101_103 := mk0 ((zq64 : gb101 ≠ gb103)); have NB103_101 := mk0 ((zq65 : gb103 ≠ gb101)); replace BK101 := mk0 (blk_below (g := gb101) (o := .cells #[.int .i64 a1_0, .int .i64 a1_1, .int .i64 a1_2, .slice A1_3 l1_3.length c1_3, .slice A1_4 l1_4.length c1_4] 38 (0, 0)) zq9 hb); have NB102_103 := mk0 ((by rw [hg]; exact Nat.ne_of_lt (blk_lt (g := gb102) (o := .cells #[.int .i64 0, .string (⟨#[]⟩ : ByteArray), .slice none 0 0, .slice none 0 0] 34 (0, 0)) zq23) : gb102 ≠ gb103)); have NB103_102 := mk0 ((by rw [hg]; exact Nat.ne_of_gt (blk_lt (g := gb102) (o := .cells #[.int .i64 0, .string (⟨#[]⟩ : ByteArray), .slice none 0 0, .slice none 0 0] 34 (0, 0)) zq23) : gb103 ≠ gb102)); replace BK102 := mk0 (blk_below (g := gb102) (o := .cells #[.int .i64 0, .string (⟨#[]⟩ : ByteArray), .slice none 0 0, .slice none 0 0] 34 (0, 0)) zq23 hb); clear hb hbox hg; have hnb9 := NB103_101.out; have hnc9 := NB101_103.out; have hnb10 := NB103_102.out; have hnc10 := NB102_103.out; have hcz11_0 : w8.cell? ⟨gb103, 0, none⟩ = some (.int .i64 0) := (blk_cell BK103.out 0).trans rfl; have hcz11_1 : w8.cell? ⟨gb103, 1, none⟩ = some (.string (⟨#[]⟩ : ByteArray)) := (blk_cell BK103.out 1).trans rfl; have hcz11_2 : w8.cell? ⟨gb103, 2, none⟩ = some (.slice none 0 0) := (blk_cell BK103.out 2).trans rfl; have hcz11_3 : w8.cell? ⟨gb103, 3, none⟩ = some (.slice none 0 0) := (blk_cell BK103.out 3).trans rfl; have hfz11_0 := blk_frozen BK103.out 0; have hfz11_1 := blk_frozen BK103.out 1; have hfz11_2 := blk_frozen BK103.out 2; have hfz11_3 := blk_frozen BK103.out 3; have hcz12_0 : w8.cell? ⟨gb101, 0, none⟩ = some (.int .i64 a1_0) := (blk_cell BK101.out 0).trans rfl; have hcz12_1 : w8.cell? ⟨gb101, 1, none⟩ = some (.int .i64 a1_1) := (blk_cell BK101.out 1).trans rfl; have hcz12_2 : w8.cell? ⟨gb101, 2, none⟩ = some (.int .i64 a1_2) := (blk_cell BK101.out 2).trans rfl; have hcz12_3 : w8.cell? ⟨gb101, 3, none⟩ = some (.slice A1_3 l1_3.length c1_3) := (blk_cell BK101.out 3).trans rfl; have hcz12_4 : w8.cell? ⟨gb101, 4, none⟩ = some (.slice A1_4 l1_4.length c1_4) := (blk_cell BK101.out 4).trans rfl; have hfz12_0 := blk_frozen BK101.out 0; have hfz12_1 := blk_frozen BK101.out 1; have hfz12_2 := blk_frozen BK101.out 2; have hfz12_3 := blk_frozen BK101.out 3; have hfz12_4 := blk_frozen BK101.out 4))
 (try simp only [Act.put, List.setIfInBounds_toArray, List.set_cons_zero, List.set_cons_succ])
 go_cut [] (fun wc => ∃ (kq : Nat) (x104001_2 : ByteArray), Aside0 (spec_Tree.j0 kq a0 a1_0 a1_1 a1_2 l1_3 l1_4 a1_0 x104001_2 = some (r1, r2, r3, r4)) ∧ Aside0 (kq ≤ k) ∧ Aside0 (wc.heap[gb101]? = some (.cells #[.int .i64 a1_0, .int .i64 a1_1, .int .i64 a1_2, (.slice A1_3 l1_3.length c1_3), (.slice A1_4 l1_4.length c1_4)] 38 (0, 0))) ∧ Aside0 (wc.heap[gb102]? = some (.cells #[.int .i64 0, .string (⟨#[]⟩ : ByteArray), (.slice none 0 0), (.slice none 0 0)] 34 (0, 0))) ∧ Aside0 (wc.heap[gb103]? = some (.cells #[.int .i64 a1_0, .string x104001_2, (.slice none 0 0), (.slice none 0 0)] 34 (0, 0))) ∧ Aside0 (Below w.heap.size w wc))
 case first =>
  have H := HC3.out
  clear HC3
  by_cases c13 : a1_0 = 3
  ·rw [if_pos c13] at H
   have c13b0 : (a1_0 == 3) = true := beq_iff_eq.mpr c13
   have c13b1 : (a1_0 != 3) = false := bne_eq_false_iff_eq.mpr c13
   clear c13
   (skip)
   by_cases c14 : 0 ≤ a1_1
   rotate_left
   ·rw [if_neg c14] at H
    exact absurd H (by simp)
   rw [if_pos c14] at H
   have c14b0 := eq_true c14
   have c14b1 : decide (0 ≤ a1_1) = true := decide_eq_true c14
   clear c14
   by_cases c15 : a1_1 ≤ a1_2
   rotate_left
   ·rw [if_neg c15] at H
    exact absurd H (by simp)
   rw [if_pos c15] at H
   have c15b0 := eq_true c15
   have c15b1 : decide (a1_1 ≤ a1_2) = true := decide_eq_true c15
   clear c15
   by_cases c16 : a1_2 ≤ (a0.size : Int)
   rotate_left
   ·rw [if_neg c16] at H
    exact absurd H (by simp)
   rw [if_pos c16] at H
   have c16b0 := eq_true c16
   have c16b1 : decide (a1_2 ≤ (a0.size : Int)) = true := decide_eq_true c16
   clear c16
   have H' := mk0 H
   clear H
   have hnb17 := NB101_102.out
   have hnc17 := NB102_101.out
   have hnb18 := NB101_103.out
   have hnc18 := NB103_101.out
   have hcz19_0 : w8.cell? ⟨gb101, 0, none⟩ = some (.int .i64 a1_0) := (blk_cell BK101.out 0).trans rfl
   have hcz19_1 : w8.cell? ⟨gb101, 1, none⟩ = some (.int .i64 a1_1) := (blk_cell BK101.out 1).trans rfl
   have hcz19_2 : w8.cell? ⟨gb101, 2, none⟩ = some (.int .i64 a1_2) := (blk_cell BK101.out 2).trans rfl
   have hcz19_3 : w8.cell? ⟨gb101, 3, none⟩ = some (.slice A1_3 l1_3.length c1_3) := (blk_cell BK101.out 3).trans rfl
   have hcz19_4 : w8.cell? ⟨gb101, 4, none⟩ = some (.slice A1_4 l1_4.length c1_4) := (blk_cell BK101.out 4).trans rfl
   have hfz19_0 := blk_frozen BK101.out 0
   have hfz19_1 := blk_frozen BK101.out 1
   have hfz19_2 := blk_frozen BK101.out 2
   have hfz19_3 := blk_frozen BK101.out 3
   have hfz19_4 := blk_frozen BK101.out 4
   have hnb20 := NB103_102.out
   have hnc20 := NB102_103.out
   have hcz21_0 : w8.cell? ⟨gb103, 0, none⟩ = some (.int .i64 0) := (blk_cell BK103.out 0).trans rfl
   have hcz21_1 : w8.cell? ⟨gb103, 1, none⟩ = some (.string (⟨#[]⟩ : ByteArray)) := (blk_cell BK103.out 1).trans rfl
   have hcz21_2 : w8.cell? ⟨gb103, 2, none⟩ = some (.slice none 0 0) := (blk_cell BK103.out 2).trans rfl
   have hcz21_3 : w8.cell? ⟨gb103, 3, none⟩ = some (.slice none 0 0) := (blk_cell BK103.out 3).trans rfl
   have hfz21_0 := blk_frozen BK103.out 0
   have hfz21_1 := blk_frozen BK103.out 1
   have hfz21_2 := blk_frozen BK103.out 2
   have hfz21_3 := blk_frozen BK103.out 3
   go_wp2
   go_meet
   case rel => exact ⟨_, (a0.extract (a1_1 : Int).toNat (a1_2 : Int).toNat), H', ⟨by omega⟩, ⟨by (with_reducible repeat (first | refine blk_drewN ?_ _ | refine blk_drew ?_ | refine blk_alloc ?_ _)); refine blk_far ?_ NB101_103.out _; (with_reducible repeat (first | refine blk_drewN ?_ _ | refine blk_drew ?_ | refine blk_alloc ?_ _)); refine blk_far ?_ NB101_103.out _; (with_reducible repeat (first | refine blk_drewN ?_ _ | refine blk_drew ?_ | refine blk_alloc ?_ _)); refine blk_far ?_ NB101_103.out _; (with_reducible repeat (first | refine blk_drewN ?_ _ | refine blk_drew ?_ | refine blk_alloc ?_ _)); refine blk_far ?_ NB101_103.out _; (with_reducible repeat (first | refine blk_drewN ?_ _ | refine blk_drew ?_ | refine blk_alloc ?_ _)); refine blk_far ?_ NB101_103.out _; (with_reducible repeat (first | refine blk_drewN ?_ _ | refine blk_drew ?_ | refine blk_alloc ?_ _)); exact BK101.out⟩, ⟨by (with_reducible repeat (first | refine blk_drewN ?_ _ | refine blk_drew ?_ | refine blk_alloc ?_ _)); refine blk_far ?_ NB102_103.out _; (with_reducible repeat (first | refine blk_drewN ?_ _ | refine blk_drew ?_ | refine blk_alloc ?_ _)); refine blk_far ?_ NB102_103.out _; (with_reducible repeat (first | refine blk_drewN ?_ _ | refine blk_drew ?_ | refine blk_alloc ?_ _)); refine blk_far ?_ NB102_103.out _; (with_reducible repeat (first | refine blk_drewN ?_ _ | refine blk_drew ?_ | refine blk_alloc ?_ _)); refine blk_far ?_ NB102_103.out _; (with_reducible repeat (first | refine blk_drewN ?_ _ | refine blk_drew ?_ | refine blk_alloc ?_ _)); refine blk_far ?_ NB102_103.out _; (with_reducible repeat (first | refine blk_drewN ?_ _ | refine blk_drew ?_ | refine blk_alloc ?_ _)); exact BK102.out⟩, ⟨by (with_reducible repeat (first | refine blk_drewN ?_ _ | refine blk_drew ?_ | refine blk_alloc ?_ _)); refine blk_put (cs := #[.int .i64 a1_0, .string (⟨#[]⟩ : ByteArray), .slice none 0 0, .slice none 0 0]) ?_ 1 _ rfl; (with_reducible repeat (first | refine blk_drewN ?_ _ | refine blk_drew ?_ | refine blk_alloc ?_ _)); refine blk_put (cs := #[.int .i64 a1_0, .string (⟨#[]⟩ : ByteArray), .slice none 0 0, .slice none 0 0]) ?_ 3 _ rfl; (with_reducible repeat (first | refine blk_drewN ?_ _ | refine blk_drew ?_ | refine blk_alloc ?_ _)); refine blk_put (cs := #[.int .i64 a1_0, .string (⟨#[]⟩ : ByteArray), .slice none 0 0, .slice none 0 0]) ?_ 2 _ rfl; (with_reducible repeat (first | refine blk_drewN ?_ _ | refine blk_drew ?_ | refine blk_alloc ?_ _)); refine blk_put (cs := #[.int .i64 a1_0, .string (⟨#[]⟩ : ByteArray), .slice none 0 0, .slice none 0 0]) ?_ 1 _ rfl; (with_reducible repeat (first | refine blk_drewN ?_ _ | refine blk_drew ?_ | refine blk_alloc ?_ _)); refine blk_put (cs := #[.int .i64 0, .string (⟨#[]⟩ : ByteArray), .slice none 0 0, .slice none 0 0]) ?_ 0 _ rfl; (with_reducible repeat (first | refine blk_drewN ?_ _ | refine blk_drew ?_ | refine blk_alloc ?_ _)); exact BK103.out⟩, ⟨by repeat (first | (with_reducible first | exact HB.out | apply below_alloc | apply pw_below_drewN | apply below_drew1 | refine below_set ?_ GE101.out | refine below_set ?_ GE102.out | refine below_set ?_ GE103.out) | exact HB.out)⟩⟩
  rw [if_neg c13] at H
  have c13b0 : (a1_0 == 3) = false := beq_eq_false_iff_ne.mpr c13
  have c13b1 : (a1_0 != 3) = true := bne_iff_ne.mpr c13
  (skip)
  by_cases c22 : a1_0 = 4
  rotate_left
  ·rw [if_neg c22] at H
   have c22b0 : (a1_0 == 4) = false := beq_eq_false_iff_ne.mpr c22
   have c22b1 : (a1_0 != 4) = true := bne_iff_ne.mpr c22
   have H' := mk0 H
   clear H
   go_wp2
   go_meet
   case rel => exact ⟨_, ((⟨#[]⟩ : ByteArray)), H', ⟨by omega⟩, ⟨by (with_reducible repeat (first | refine blk_drewN ?_ _ | refine blk_drew ?_ | refine blk_alloc ?_ _)); refine blk_far ?_ NB101_103.out _; (with_reducible repeat (first | refine blk_drewN ?_ _ | refine blk_drew ?_ | refine blk_alloc ?_ _)); refine blk_far ?_ NB101_103.out _; (with_reducible repeat (first | refine blk_drewN ?_ _ | refine blk_drew ?_ | refine blk_alloc ?_ _)); refine blk_far ?_ NB101_103.out _; (with_reducible repeat (first | refine blk_drewN ?_ _ | refine blk_drew ?_ | refine blk_alloc ?_ _)); refine blk_far ?_ NB101_103.out _; (with_reducible repeat (first | refine blk_drewN ?_ _ | refine blk_drew ?_ | refine blk_alloc ?_ _)); exact BK101.out⟩, ⟨by (with_reducible repeat (first | refine blk_drewN ?_ _ | refine blk_drew ?_ | refine blk_alloc ?_ _)); refine blk_far ?_ NB102_103.out _; (with_reducible repeat (first | refine blk_drewN ?_ _ | refine blk_drew ?_ | refine blk_alloc ?_ _)); refine blk_far ?_ NB102_103.out _; (with_reducible repeat (first | refine blk_drewN ?_ _ | refine blk_drew ?_ | refine blk_alloc ?_ _)); refine blk_far ?_ NB102_103.out _; (with_reducible repeat (first | refine blk_drewN ?_ _ | refine blk_drew ?_ | refine blk_alloc ?_ _)); refine blk_far ?_ NB102_103.out _; (with_reducible repeat (first | refine blk_drewN ?_ _ | refine blk_drew ?_ | refine blk_alloc ?_ _)); exact BK102.out⟩, ⟨by (with_reducible repeat (first | refine blk_drewN ?_ _ | refine blk_drew ?_ | refine blk_alloc ?_ _)); refine blk_put (cs := #[.int .i64 a1_0, .string (⟨#[]⟩ : ByteArray), .slice none 0 0, .slice none 0 0]) ?_ 3 _ rfl; (with_reducible repeat (first | refine blk_drewN ?_ _ | refine blk_drew ?_ | refine blk_alloc ?_ _)); refine blk_put (cs := #[.int .i64 a1_0, .string (⟨#[]⟩ : ByteArray), .slice none 0 0, .slice none 0 0]) ?_ 2 _ rfl; (with_reducible repeat (first | refine blk_drewN ?_ _ | refine blk_drew ?_ | refine blk_alloc ?_ _)); refine blk_put (cs := #[.int .i64 a1_0, .string (⟨#[]⟩ : ByteArray), .slice none 0 0, .slice none 0 0]) ?_ 1 _ rfl; (with_reducible repeat (first | refine blk_drewN ?_ _ | refine blk_drew ?_ | refine blk_alloc ?_ _)); refine blk_put (cs := #[.int .i64 0, .string (⟨#[]⟩ : ByteArray), .slice none 0 0, .slice none 0 0]) ?_ 0 _ rfl; (with_reducible repeat (first | refine blk_drewN ?_ _ | refine blk_drew ?_ | refine blk_alloc ?_ _)); exact BK103.out⟩, ⟨by repeat (first | (with_reducible first | exact HB.out | apply below_alloc | apply pw_below_drewN | apply below_drew1 | refine below_set ?_ GE101.out | refine below_set ?_ GE102.out | refine below_set ?_ GE103.out) | exact HB.out)⟩⟩
  rw [if_pos c22] at H
  have c22b0 : (a1_0 == 4) = true := beq_iff_eq.mpr c22
  have c22b1 : (a1_0 != 4) = false := bne_eq_false_iff_eq.mpr c22
  clear c22
  by_cases c23 : 0 ≤ a1_1
  rotate_left
  ·rw [if_neg c23] at H
   exact absurd H (by simp)
  rw [if_pos c23] at H
  have c23b0 := eq_true c23
  have c23b1 : decide (0 ≤ a1_1) = true := decide_eq_true c23
  clear c23
  by_cases c24 : a1_1 ≤ a1_2
  rotate_left
  ·rw [if_neg c24] at H
   exact absurd H (by simp)
  rw [if_pos c24] at H
  have c24b0 := eq_true c24
  have c24b1 : decide (a1_1 ≤ a1_2) = true := decide_eq_true c24
  clear c24
  by_cases c25 : a1_2 ≤ (a0.size : Int)
  rotate_left
  ·rw [if_neg c25] at H
   exact absurd H (by simp)
  rw [if_pos c25] at H
  have c25b0 := eq_true c25
  have c25b1 : decide (a1_2 ≤ (a0.size : Int)) = true := decide_eq_true c25
  clear c25
  replace H := Option.bind_eq_some_iff.mp H
  obtain ⟨t104, A260, H⟩ := H
  (try dsimp only at H)
  have A26 := mk0 A260
  clear A260
  have H' := mk0 H
  clear H
  have hnb27 := NB101_102.out
  have hnc27 := NB102_101.out
  have hnb28 := NB101_103.out
  have hnc28 := NB103_101.out
  have hcz29_0 : w8.cell? ⟨gb101, 0, none⟩ = some (.int .i64 a1_0) := (blk_cell BK101.out 0).trans rfl
  have hcz29_1 : w8.cell? ⟨gb101, 1, none⟩ = some (.int .i64 a1_1) := (blk_cell BK101.out 1).trans rfl
  have hcz29_2 : w8.cell? ⟨gb101, 2, none⟩ = some (.int .i64 a1_2) := (blk_cell BK101.out 2).trans rfl
  have hcz29_3 : w8.cell? ⟨gb101, 3, none⟩ = some (.slice A1_3 l1_3.length c1_3) := (blk_cell BK101.out 3).trans rfl
  have hcz29_4 : w8.cell? ⟨gb101, 4, none⟩ = some (.slice A1_4 l1_4.length c1_4) := (blk_cell BK101.out 4).trans rfl
  have hfz29_0 := blk_frozen BK101.out 0
  have hfz29_1 := blk_frozen BK101.out 1
  have hfz29_2 := blk_frozen BK101.out 2
  have hfz29_3 := blk_frozen BK101.out 3
  have hfz29_4 := blk_frozen BK101.out 4
  go_wp2_with (first | ((with_reducible refine gate_callee (f := 27) rfl ?_); refine goesL_ (some 30) rfl rfl Tryd.func27 zq28 rfl #[.string (a0.extract (a1_1 : Int).toNat (a1_2 : Int).toNat)] rfl zq0 ?_; (with_reducible refine (spec_Unquote.calls k (a0.extract (a1_1 : Int).toNat (a1_2 : Int).toNat) t104 _ A26.out).mono ?_); rintro e w30 ⟨rfl, hb⟩; refine ⟨_, rfl, ?_⟩; replace BK101 := mk0 (blk_below (g := gb101) (o := .cells #[.int .i64 a1_0, .int .i64 a1_1, .int .i64 a1_2, .slice A1_3 l1_3.length c1_3, .slice A1_4 l1_4.length c1_4] 38 (0, 0)) (by (with_reducible repeat (first | refine blk_drewN ?_ _ | refine blk_drew ?_ | refine blk_alloc ?_ _)); refine blk_far ?_ NB101_103.out _; (with_reducible repeat (first | refine blk_drewN ?_ _ | refine blk_drew ?_ | refine blk_alloc ?_ _)); refine blk_far ?_ NB101_103.out _; (with_reducible repeat (first | refine blk_drewN ?_ _ | refine blk_drew ?_ | refine blk_alloc ?_ _)); refine blk_far ?_ NB101_103.out _; (with_reducible repeat (first | refine blk_drewN ?_ _ | refine blk_drew ?_ | refine blk_alloc ?_ _)); refine blk_far ?_ NB101_103.out _; (with_reducible repeat (first | refine blk_drewN ?_ _ | refine blk_drew ?_ | refine blk_alloc ?_ _)); exact BK101.out) hb); replace BK102 := mk0 (blk_below (g := gb102) (o := .cells #[.int .i64 0, .string (⟨#[]⟩ : ByteArray), .slice none 0 0, .slice none 0 0] 34 (0, 0)) (by (with_reducible repeat (first | refine blk_drewN ?_ _ | refine blk_drew ?_ | refine blk_alloc ?_ _)); refine blk_far ?_ NB102_103.out _; (with_reducible repeat (first | refine blk_drewN ?_ _ | refine blk_drew ?_ | refine blk_alloc ?_ _)); refine blk_far ?_ NB102_103.out _; (with_reducible repeat (first | refine blk_drewN ?_ _ | refine blk_drew ?_ | refine blk_alloc ?_ _)); refine blk_far ?_ NB102_103.out _; (with_reducible repeat (first | refine blk_drewN ?_ _ | refine blk_drew ?_ | refine blk_alloc ?_ _)); refine blk_far ?_ NB102_103.out _; (with_reducible repeat (first | refine blk_drewN ?_ _ | refine blk_drew ?_ | refine blk_alloc ?_ _)); exact BK102.out) hb); replace BK103 := mk0 (blk_below (g := gb103) (o := .cells #[.int .i64 a1_0, .string (⟨#[]⟩ : ByteArray), .slice none 0 0, .slice none 0 0] 34 (0, 0)) (by (with_reducible repeat (first | refine blk_drewN ?_ _ | refine blk_drew ?_ | refine blk_alloc ?_ _)); refine blk_put (cs := #[.int .i64 a1_0, .string (⟨#[]⟩ : ByteArray), .slice none 0 0, .slice none 0 0]) ?_ 3 _ rfl; (with_reducible repeat (first | refine blk_drewN ?_ _ | refine blk_drew ?_ | refine blk_alloc ?_ _)); refine blk_put (cs := #[.int .i64 a1_0, .string (⟨#[]⟩ : ByteArray), .slice none 0 0, .slice none 0 0]) ?_ 2 _ rfl; (with_reducible repeat (first | refine blk_drewN ?_ _ | refine blk_drew ?_ | refine blk_alloc ?_ _)); refine blk_put (cs := #[.int .i64 a1_0, .string (⟨#[]⟩ : ByteArray), .slice none 0 0, .slice none 0 0]) ?_ 1 _ rfl; (with_reducible repeat (first | refine blk_drewN ?_ _ | refine blk_drew ?_ | refine blk_alloc ?_ _)); refine blk_put (cs := #[.int .i64 0, .string (⟨#[]⟩ : ByteArray), .slice none 0 0, .slice none 0 0]) ?_ 0 _ rfl; (with_reducible repeat (first | refine blk_drewN ?_ _ | refine blk_drew ?_ | refine blk_alloc ?_ _)); exact BK103.out) hb); replace HB := mk0 (below_step zq24 hb); clear hb; have hnb31 := NB103_102.out; have hnc31 := NB102_103.out; have hcz32_0 : w30.cell? ⟨gb103, 0, none⟩ = some (.int .i64 a1_0) := (blk_cell BK103.out 0).trans rfl; have hcz32_1 : w30.cell? ⟨gb103, 1, none⟩ = some (.string (⟨#[]⟩ : ByteArray)) := (blk_cell BK103.out 1).trans rfl; have hcz32_2 : w30.cell? ⟨gb103, 2, none⟩ = some (.slice none 0 0) := (blk_cell BK103.out 2).trans rfl; have hcz32_3 : w30.cell? ⟨gb103, 3, none⟩ = some (.slice none 0 0) := (blk_cell BK103.out 3).trans rfl; have hfz32_0 := blk_frozen BK103.out 0; have hfz32_1 := blk_frozen BK103.out 1; have hfz32_2 := blk_frozen BK103.out 2; have hfz32_3 := blk_frozen BK103.out 3))
  go_meet
  case rel => exact ⟨_, (t104), H', ⟨by omega⟩, ⟨by (with_reducible repeat (first | refine blk_drewN ?_ _ | refine blk_drew ?_ | refine blk_alloc ?_ _)); refine blk_far ?_ NB101_103.out _; (with_reducible repeat (first | refine blk_drewN ?_ _ | refine blk_drew ?_ | refine blk_alloc ?_ _)); exact BK101.out⟩, ⟨by (with_reducible repeat (first | refine blk_drewN ?_ _ | refine blk_drew ?_ | refine blk_alloc ?_ _)); refine blk_far ?_ NB102_103.out _; (with_reducible repeat (first | refine blk_drewN ?_ _ | refine blk_drew ?_ | refine blk_alloc ?_ _)); exact BK102.out⟩, ⟨by (with_reducible repeat (first | refine blk_drewN ?_ _ | refine blk_drew ?_ | refine blk_alloc ?_ _)); refine blk_put (cs := #[.int .i64 a1_0, .string (⟨#[]⟩ : ByteArray), .slice none 0 0, .slice none 0 0]) ?_ 1 _ rfl; (with_reducible repeat (first | refine blk_drewN ?_ _ | refine blk_drew ?_ | refine blk_alloc ?_ _)); exact BK103.out⟩, ⟨by repeat (first | (with_reducible first | exact HB.out | apply below_alloc | apply pw_below_drewN | apply below_drew1 | refine below_set ?_ GE101.out | refine below_set ?_ GE102.out | refine below_set ?_ GE103.out) | exact HB.out)⟩⟩
 case rest =>
  clear HC3 hcz11_0 hcz11_1 hcz11_2 hcz11_3 hcz12_0 hcz12_1 hcz12_2 hcz12_3 hcz12_4 hcz7_0 hcz7_1 hcz7_2 hcz7_3 hcz7_4 hfz11_0 hfz11_1 hfz11_2 hfz11_3 hfz12_0 hfz12_1 hfz12_2 hfz12_3 hfz12_4 hfz7_0 hfz7_1 hfz7_2 hfz7_3 hfz7_4
  obtain ⟨kq, x104001_2, HA, HJ2, BK101, BK102, BK103, HB⟩ := hcut
  cases kq with
  | zero => exact absurd HA.out (by simp [spec_Tree.j0])
  | succ kj2 =>
   have H := HA.out
   clear HA
   simp only [spec_Tree.j0] at H
   have H' := mk0 H
   clear H
   go_wp2
   go_loopg [6] kj2 (fun kq v6 w' => ∃ (x6_2 : Int) (x104002_2 : List ByteArray) (u104002 : Value), v6 = .int .i64 x6_2 ∧ Aside0 (spec_Tree.l0 kq a0 x6_2 a1_0 a1_1 a1_2 l1_3 l1_4 a1_0 x104001_2 x104002_2 = some (r1, r2, r3, r4)) ∧ Aside0 (kq ≤ kj2) ∧ Aside0 (Kd.R Kd.string 9 w' w.heap.size (fun _ => True) u104002 x104002_2) ∧ Aside0 (w'.heap[gb101]? = some (.cells #[.int .i64 a1_0, .int .i64 a1_1, .int .i64 a1_2, (.slice A1_3 l1_3.length c1_3), (.slice A1_4 l1_4.length c1_4)] 38 (0, 0))) ∧ Aside0 (w'.heap[gb102]? = some (.cells #[.int .i64 0, .string (⟨#[]⟩ : ByteArray), (.slice none 0 0), (.slice none 0 0)] 34 (0, 0))) ∧ Aside0 (w'.heap[gb103]? = some (.cells #[.int .i64 a1_0, .string x104001_2, u104002, (.slice none 0 0)] 34 (0, 0))) ∧ Aside0 (Below w.heap.size w w'))
   case atStart => exact ⟨(0), (([] : List ByteArray)), (.slice none 0 0), (by rfl), H', ⟨Nat.le_refl _⟩, ⟨by exact Kd.R_nil _ _ _ _ _⟩, ⟨by (with_reducible repeat (first | refine blk_drewN ?_ _ | refine blk_drew ?_ | refine blk_alloc ?_ _)); exact BK101.out⟩, ⟨by (with_reducible repeat (first | refine blk_drewN ?_ _ | refine blk_drew ?_ | refine blk_alloc ?_ _)); exact BK102.out⟩, ⟨by (with_reducible repeat (first | refine blk_drewN ?_ _ | refine blk_drew ?_ | refine blk_alloc ?_ _)); exact BK103.out⟩, ⟨by repeat (first | (with_reducible first | exact HB.out | apply below_alloc | apply pw_below_drewN | apply below_drew1 | refine below_set ?_ GE101.out | refine below_set ?_ GE102.out | refine below_set ?_ GE103.out) | exact HB.out)⟩⟩
   case round =>
    clear H'
    obtain ⟨x6_2, x104002_2, u104002, rfl, HA, HK2, HO_104002, BK101, BK102, BK103, HB⟩ := hrel
    cases gk with
    | zero => exact absurd HA.out (by simp [spec_Tree.l0])
    | succ k2 =>
     have H := HA.out
     clear HA
     simp only [spec_Tree.l0] at H
     by_cases c33 : x6_2 < (l1_3.length : Int)
     ·rw [if_pos c33] at H
      have c33b0 : decide (x6_2 < (l1_3.length : Int)) = true := decide_eq_true c33
      clear c33
      by_cases c34 : 0 ≤ x6_2
      rotate_left
      ·rw [if_neg c34] at H
       exact absurd H (by simp)
      rw [if_pos c34] at H
      have c34b0 : decide (0 ≤ x6_2) = true := decide_eq_true c34
      clear c34
      by_cases c35 : 0 ≤ ((rd_T122 l1_3 x6_2).f0)
      rotate_left
      ·rw [if_neg c35] at H
       exact absurd H (by simp)
      rw [if_pos c35] at H
      have c35b0 := eq_true c35
      have c35b1 : decide (0 ≤ ((rd_T122 l1_3 x6_2).f0)) = true := decide_eq_true c35
      clear c35
      by_cases c36 : ((rd_T122 l1_3 x6_2).f0) ≤ ((rd_T122 l1_3 x6_2).f1)
      rotate_left
      ·rw [if_neg c36] at H
       exact absurd H (by simp)
      rw [if_pos c36] at H
      have c36b0 := eq_true c36
      have c36b1 : decide (((rd_T122 l1_3 x6_2).f0) ≤ ((rd_T122 l1_3 x6_2).f1)) = true := decide_eq_true c36
      clear c36
      by_cases c37 : ((rd_T122 l1_3 x6_2).f1) ≤ (a0.size : Int)
      rotate_left
      ·rw [if_neg c37] at H
       exact absurd H (by simp)
      rw [if_pos c37] at H
      have c37b0 := eq_true c37
      have c37b1 : decide (((rd_T122 l1_3 x6_2).f1) ≤ (a0.size : Int)) = true := decide_eq_true c37
      clear c37
      replace H := Option.bind_eq_some_iff.mp H
      obtain ⟨t107, A380, H⟩ := H
      (try dsimp only at H)
      have A38 := mk0 A380
      clear A380
      by_cases c39 : x104002_2.length < 8796093022208
      rotate_left
      ·rw [if_neg c39] at H
       exact absurd H (by simp)
      rw [if_pos c39] at H
      have LMc39 := mk0 c39
      clear c39
      obtain ⟨y108, hy108⟩ : ∃ y_ : List ByteArray, y_ = (x104002_2 ++ [t107]) := ⟨_, rfl⟩
      replace H : (spec_Tree.l0 k2 a0 (wrap64 (x6_2 + 1)) a1_0 a1_1 a1_2 l1_3 l1_4 a1_0 x104001_2 y108) = some (r1, r2, r3, r4) := by (rw [hy108]; with_reducible exact H)
      have Ny108 := mk0 hy108
      clear hy108
      have H' := mk0 H
      clear H
      have hnb40 := NB101_102.out
      have hnc40 := NB102_101.out
      have hnb41 := NB101_103.out
      have hnc41 := NB103_101.out
      have hcz42_0 : wr.cell? ⟨gb101, 0, none⟩ = some (.int .i64 a1_0) := (blk_cell BK101.out 0).trans rfl
      have hcz42_1 : wr.cell? ⟨gb101, 1, none⟩ = some (.int .i64 a1_1) := (blk_cell BK101.out 1).trans rfl
      have hcz42_2 : wr.cell? ⟨gb101, 2, none⟩ = some (.int .i64 a1_2) := (blk_cell BK101.out 2).trans rfl
      have hcz42_3 : wr.cell? ⟨gb101, 3, none⟩ = some (.slice A1_3 l1_3.length c1_3) := (blk_cell BK101.out 3).trans rfl
      have hcz42_4 : wr.cell? ⟨gb101, 4, none⟩ = some (.slice A1_4 l1_4.length c1_4) := (blk_cell BK101.out 4).trans rfl
      have hfz42_0 := blk_frozen BK101.out 0
      have hfz42_1 := blk_frozen BK101.out 1
      have hfz42_2 := blk_frozen BK101.out 2
      have hfz42_3 := blk_frozen BK101.out 3
      have hfz42_4 := blk_frozen BK101.out 4
      try go_wp2
      have n0_ := mk0 (Kd.R_drew HO_104002.out)
      have n1_ := mk0 (blk_drew BK101.out)
      have n2_ := mk0 (blk_drew BK102.out)
      have n3_ := mk0 (blk_drew BK103.out)
      have n4_ := mk0 (below_drew1 HB.out)
      clear HO_104002 BK101 BK102 BK103 HB
      have HO_104002 := n0_
      have BK101 := n1_
      have BK102 := n2_
      have BK103 := n3_
      have HB := n4_
      clear n0_ n1_ n2_ n3_ n4_
      have p105 : 0 ≤ (x6_2 : Int) := of_decide_eq_true zq5
      have q105 : x6_2 < (l1_3.length : Int) := of_decide_eq_true zq5
      obtain ⟨ad105, e105, hx105_0, hx105_1⟩ := at_T122 HR1_3.out x6_2 p105 q105
      have hw105_1 := hx105_1
      have hw105_0 := hx105_0
      cases e105
      replace hx105_0 := (HB.out.cell (World.block_lt_of_cell? w _ hx105_0)).trans hx105_0
      replace hx105_1 := (HB.out.cell (World.block_lt_of_cell? w _ hx105_1)).trans hx105_1
      replace p105 := eq_true p105
      replace q105 := eq_true q105
      have p106 : 0 ≤ (x6_2 : Int) := of_decide_eq_true zq5
      have q106 : x6_2 < (l1_3.length : Int) := of_decide_eq_true zq5
      obtain ⟨ad106, e106, hx106_0, hx106_1⟩ := at_T122 HR1_3.out x6_2 p106 q106
      have hw106_1 := hx106_1
      have hw106_0 := hx106_0
      obtain rfl : ad105 = ad106 := (by injection e106)
      replace hx106_0 := (HB.out.cell (World.block_lt_of_cell? w _ hx106_0)).trans hx106_0
      replace hx106_1 := (HB.out.cell (World.block_lt_of_cell? w _ hx106_1)).trans hx106_1
      replace p106 := eq_true p106
      replace q106 := eq_true q106
      refine start_ (n := 21) (S := fun w' => w'.cell? ⟨gb103, 0, none⟩ = some (.int .i64 a1_0) ∧ w'.cell? ⟨gb103, 1, none⟩ = some (.string x104001_2) ∧ w'.cell? ⟨gb103, 2, none⟩ = some (u104002) ∧ w'.cell? ⟨gb103, 3, none⟩ = some (.slice none 0 0) ∧ w'.cell? ⟨gb101, 0, none⟩ = some (.int .i64 a1_0) ∧ w'.cell? ⟨gb101, 1, none⟩ = some (.int .i64 a1_1) ∧ w'.cell? ⟨gb101, 2, none⟩ = some (.int .i64 a1_2) ∧ w'.cell? ⟨gb101, 3, none⟩ = some (.slice (some ad105) l1_3.length c1_3) ∧ w'.cell? ⟨gb101, 4, none⟩ = some (.slice A1_4 l1_4.length c1_4) ∧ w'.cell? (ad105.add ((x6_2).toNat * 2)) = some (.int .i64 ((rd_T122 l1_3 x6_2).f0)) ∧ w'.cell? ⟨(ad105.add ((x6_2).toNat * 2)).block, (ad105.add ((x6_2).toNat * 2)).off + 1, none⟩ = some (.int .i64 ((rd_T122 l1_3 x6_2).f1)) ∧ w'.cell? (ad105.add ((x6_2).toNat * 2)) = some (.int .i64 ((rd_T122 l1_3 x6_2).f0)) ∧ w'.cell? ⟨(ad105.add ((x6_2).toNat * 2)).block, (ad105.add ((x6_2).toNat * 2)).off + 1, none⟩ = some (.int .i64 ((rd_T122 l1_3 x6_2).f1))) (ds := [20]) #[false, false, false, false, false, false, false, false, false, false, false, false, false, false, false, false, false, false, false, false, false] zq28 rfl rfl ⟨(blk_cell BK103.out 0).trans rfl, (blk_cell BK103.out 1).trans rfl, (blk_cell BK103.out 2).trans rfl, (blk_cell BK103.out 3).trans rfl, (blk_cell BK101.out 0).trans rfl, (blk_cell BK101.out 1).trans rfl, (blk_cell BK101.out 2).trans rfl, (blk_cell BK101.out 3).trans rfl, (blk_cell BK101.out 4).trans rfl, ((HB.out.cell (World.block_lt_of_cell? w _ hw105_0)).trans hw105_0), ((HB.out.cell (World.block_lt_of_cell? w _ hw105_1)).trans hw105_1), ((HB.out.cell (World.block_lt_of_cell? w _ hw106_0)).trans hw106_0), ((HB.out.cell (World.block_lt_of_cell? w _ hw106_1)).trans hw106_1)⟩ (fun hHeld => ?_); refine with_tabW spec_Tree.tab10 spec_Tree.bits10 (fun HT_ HW_ => ?_)
      generalize wr.drew = w43 at HO_104002 BK101 BK102 BK103 HB hx105_0 hx105_1 hx106_0 hx106_1 hHeld ⊢
      refine pure_ (i := 0) (N := some 39) (v := ?_) (a' := ?_) #[true, false, false, false, false, false, false, false, false, false, false, false, false, false, false, false, false, false, false, false, false] rfl rfl (any_of HT_.out zq28) (fun _ _ _ h => h) (Or.inl ⟨by rfl, ?_⟩) ?_ ?_
      rotate_left
      ·intro w'
       go_simp
       with_reducible rfl
      rotate_left
      ·simp only [Act.put, List.setIfInBounds_toArray, List.set_cons_zero, List.set_cons_succ, i64_w, i32_w]
       rfl
      refine pure_ (i := 2) (N := some 41) (v := ?_) (a' := ?_) #[true, false, true, false, false, false, false, false, false, false, false, false, false, false, false, false, false, false, false, false, false] rfl rfl (any_of HT_.out zq28) (fun _ _ _ h => h) (Or.inl ⟨by rfl, ?_⟩) ?_ ?_
      rotate_left
      ·intro w'
       go_simp
       with_reducible rfl
      rotate_left
      ·simp only [Act.put, List.setIfInBounds_toArray, List.set_cons_zero, List.set_cons_succ, i64_w, i32_w]
       rfl
      refine pure_ (i := 3) (N := some 42) (v := ?_) (a' := ?_) #[true, false, true, true, false, false, false, false, false, false, false, false, false, false, false, false, false, false, false, false, false] rfl rfl (any_of HT_.out zq28) (fun _ _ _ h => h) (Or.inl ⟨by rfl, ?_⟩) ?_ ?_
      rotate_left
      ·intro w'
       go_simp
       with_reducible rfl
      rotate_left
      ·simp only [Act.put, List.setIfInBounds_toArray, List.set_cons_zero, List.set_cons_succ, i64_w, i32_w]
       rfl
      refine pure_ (i := 5) (N := some 44) (v := ?_) (a' := ?_) #[true, false, true, true, false, true, false, false, false, false, false, false, false, false, false, false, false, false, false, false, false] rfl rfl (any_of HT_.out zq28) (fun _ _ _ h => h) (Or.inl ⟨by rfl, ?_⟩) ?_ ?_
      rotate_left
      ·intro w'
       go_simp
       with_reducible rfl
      rotate_left
      ·simp only [Act.put, List.setIfInBounds_toArray, List.set_cons_zero, List.set_cons_succ, i64_w, i32_w]
       rfl
      refine pure_ (i := 9) (N := some 48) (v := ?_) (a' := ?_) #[true, false, true, true, false, true, false, false, false, true, false, false, false, false, false, false, false, false, false, false, false] rfl rfl (any_of HT_.out zq28) (fun _ _ _ h => h) (Or.inl ⟨by rfl, ?_⟩) ?_ ?_
      rotate_left
      ·intro w'
       go_simp
       with_reducible rfl
      rotate_left
      ·simp only [Act.put, List.setIfInBounds_toArray, List.set_cons_zero, List.set_cons_succ, i64_w, i32_w]
       rfl
      refine pure_ (i := 11) (N := some 50) (v := ?_) (a' := ?_) #[true, false, true, true, false, true, false, false, false, true, false, true, false, false, false, false, false, false, false, false, false] rfl rfl (any_of HT_.out zq28) (fun _ _ _ h => h) (Or.inl ⟨by rfl, ?_⟩) ?_ ?_
      rotate_left
      ·intro w'
       go_simp
       with_reducible rfl
      rotate_left
      ·simp only [Act.put, List.setIfInBounds_toArray, List.set_cons_zero, List.set_cons_succ, i64_w, i32_w]
       rfl
      refine take_ (i := 1) (N := some 40) (v := ?_) (a' := ?_) #[true, true, true, true, false, true, false, false, false, true, false, true, false, false, false, false, false, false, false, false, false] rfl rfl (take_ofW HT_.out HW_.out zq28) (fun _ _ _ h => h) (Or.inl ⟨by rfl, ?_⟩) hHeld ?_ ?_
      rotate_left
      ·rintro w' ⟨s0, s1, s2, s3, s4, s5, s6, s7, s8, s9, s10, s11, s12⟩
       go_simp
       with_reducible rfl
      rotate_left
      ·simp only [Act.put, List.setIfInBounds_toArray, List.set_cons_zero, List.set_cons_succ, i64_w, i32_w]
       rfl
      refine take_ (i := 4) (N := some 43) (v := ?_) (a' := ?_) #[true, true, true, true, true, true, false, false, false, true, false, true, false, false, false, false, false, false, false, false, false] rfl rfl (take_ofW HT_.out HW_.out zq28) (fun _ _ _ h => h) (Or.inl ⟨by rfl, ?_⟩) hHeld ?_ ?_
      rotate_left
      ·rintro w' ⟨s0, s1, s2, s3, s4, s5, s6, s7, s8, s9, s10, s11, s12⟩
       go_simp
       with_reducible rfl
      rotate_left
      ·simp only [Act.put, List.setIfInBounds_toArray, List.set_cons_zero, List.set_cons_succ, i64_w, i32_w]
       rfl
      refine pure_ (i := 6) (N := some 45) (v := ?_) (a' := ?_) #[true, true, true, true, true, true, true, false, false, true, false, true, false, false, false, false, false, false, false, false, false] rfl rfl (any_of HT_.out zq28) (fun _ _ _ h => h) (Or.inl ⟨by rfl, ?_⟩) ?_ ?_
      rotate_left
      ·intro w'
       go_simp
       with_reducible rfl
      rotate_left
      ·simp only [Act.put, List.setIfInBounds_toArray, List.set_cons_zero, List.set_cons_succ, i64_w, i32_w]
       rfl
      refine pure_ (i := 7) (N := some 46) (v := ?_) (a' := ?_) #[true, true, true, true, true, true, true, true, false, true, false, true, false, false, false, false, false, false, false, false, false] rfl rfl (any_of HT_.out zq28) (fun _ _ _ h => h) (Or.inl ⟨by rfl, ?_⟩) ?_ ?_
      rotate_left
      ·intro w'
       go_simp
       with_reducible rfl
      rotate_left
      ·simp only [Act.put, List.setIfInBounds_toArray, List.set_cons_zero, List.set_cons_succ, i64_w, i32_w]
       rfl
      refine take_ (i := 8) (N := some 47) (v := ?_) (a' := ?_) #[true, true, true, true, true, true, true, true, true, true, false, true, false, false, false, false, false, false, false, false, false] rfl rfl (take_ofW HT_.out HW_.out zq28) (fun _ _ _ h => h) (Or.inl ⟨by rfl, ?_⟩) hHeld ?_ ?_
      rotate_left
      ·rintro w' ⟨s0, s1, s2, s3, s4, s5, s6, s7, s8, s9, s10, s11, s12⟩
       go_simp
       with_reducible rfl
      rotate_left
      ·simp only [Act.put, List.setIfInBounds_toArray, List.set_cons_zero, List.set_cons_succ, i64_w, i32_w]
       rfl
      refine take_ (i := 10) (N := some 49) (v := ?_) (a' := ?_) #[true, true, true, true, true, true, true, true, true, true, true, true, false, false, false, false, false, false, false, false, false] rfl rfl (take_ofW HT_.out HW_.out zq28) (fun _ _ _ h => h) (Or.inl ⟨by rfl, ?_⟩) hHeld ?_ ?_
      rotate_left
      ·rintro w' ⟨s0, s1, s2, s3, s4, s5, s6, s7, s8, s9, s10, s11, s12⟩
       go_simp
       with_reducible rfl
      rotate_left
      ·simp only [Act.put, List.setIfInBounds_toArray, List.set_cons_zero, List.set_cons_succ, i64_w, i32_w]
       rfl
      refine pure_ (i := 12) (N := some 51) (v := ?_) (a' := ?_) #[true, true, true, true, true, true, true, true, true, true, true, true, true, false, false, false, false, false, false, false, false] rfl rfl (any_of HT_.out zq28) (fun _ _ _ h => h) (Or.inl ⟨by rfl, ?_⟩) ?_ ?_
      rotate_left
      ·intro w'
       go_simp
       with_reducible rfl
      rotate_left
      ·simp only [Act.put, List.setIfInBounds_toArray, List.set_cons_zero, List.set_cons_succ, i64_w, i32_w]
       rfl
      refine pure_ (i := 13) (N := some 52) (v := ?_) (a' := ?_) #[true, true, true, true, true, true, true, true, true, true, true, true, true, true, false, false, false, false, false, false, false] rfl rfl (any_of HT_.out zq28) (fun _ _ _ h => h) (Or.inl ⟨by rfl, ?_⟩) ?_ ?_
      rotate_left
      ·intro w'
       go_simp
       with_reducible rfl
      rotate_left
      ·simp only [Act.put, List.setIfInBounds_toArray, List.set_cons_zero, List.set_cons_succ, i64_w, i32_w]
       rfl
      refine take_ (i := 14) (N := some 53) (v := ?_) (a' := ?_) #[true, true, true, true, true, true, true, true, true, true, true, true, true, true, true, false, false, false, false, false, false] rfl rfl (take_ofW HT_.out HW_.out zq28) (fun _ _ _ h => h) (Or.inl ⟨by rfl, ?_⟩) hHeld ?_ ?_
      rotate_left
      ·rintro w' ⟨s0, s1, s2, s3, s4, s5, s6, s7, s8, s9, s10, s11, s12⟩
       go_simp
       with_reducible rfl
      rotate_left
      ·simp only [Act.put, List.setIfInBounds_toArray, List.set_cons_zero, List.set_cons_succ, i64_w, i32_w]
       rfl
      refine pure_ (i := 15) (N := some 54) (v := ?_) (a' := ?_) #[true, true, true, true, true, true, true, true, true, true, true, true, true, true, true, true, false, false, false, false, false] rfl rfl (any_of HT_.out zq28) (fun _ _ _ h => h) (Or.inl ⟨by rfl, ?_⟩) ?_ ?_
      rotate_left
      ·intro w'
       go_simp
       with_reducible rfl
      rotate_left
      ·simp only [Act.put, List.setIfInBounds_toArray, List.set_cons_zero, List.set_cons_succ, i64_w, i32_w]
       rfl
      refine one_ (i := 16) (N := some 55) #[true, true, true, true, true, true, true, true, true, true, true, true, true, true, true, true, true, false, false, false, false] rfl rfl (one_of HT_.out zq28) zq49 (fun K hK => ?_)
      refine goes_ Tryd.func27 zq28 rfl #[.string (a0.extract (((rd_T122 l1_3 x6_2).f0) : Int).toNat (((rd_T122 l1_3 x6_2).f1) : Int).toNat)] (by rfl) rfl rfl zq0 ?_
      with_reducible refine (spec_Unquote.calls k2 (a0.extract (((rd_T122 l1_3 x6_2).f0) : Int).toNat (((rd_T122 l1_3 x6_2).f1) : Int).toNat) t107 _ A38.out).mono ?_
      rintro e w44 ⟨rfl, hb⟩
      refine ⟨_, rfl, ?_⟩
      have n0_ := mk0 (Kd.R_below zq40 hb)
      have n1_ := mk0 (blk_below (g := gb101) (o := .cells #[.int .i64 a1_0, .int .i64 a1_1, .int .i64 a1_2, .slice (some ad105) l1_3.length c1_3, .slice A1_4 l1_4.length c1_4] 38 (0, 0)) zq9 hb)
      have n2_ := mk0 (blk_below (g := gb102) (o := .cells #[.int .i64 0, .string (⟨#[]⟩ : ByteArray), .slice none 0 0, .slice none 0 0] 34 (0, 0)) zq23 hb)
      have n3_ := mk0 (blk_below (g := gb103) (o := .cells #[.int .i64 a1_0, .string x104001_2, u104002, .slice none 0 0] 34 (0, 0)) zq43 hb)
      have n4_ := mk0 (below_step zq24 hb)
      clear HO_104002 BK101 BK102 BK103 HB
      have HO_104002 := n0_
      have BK101 := n1_
      have BK102 := n2_
      have BK103 := n3_
      have HB := n4_
      clear n0_ n1_ n2_ n3_ n4_ hb
      refine hK.out _ _ ⟨(blk_cell BK103.out 0).trans rfl, (blk_cell BK103.out 1).trans rfl, (blk_cell BK103.out 2).trans rfl, (blk_cell BK103.out 3).trans rfl, (blk_cell BK101.out 0).trans rfl, (blk_cell BK101.out 1).trans rfl, (blk_cell BK101.out 2).trans rfl, (blk_cell BK101.out 3).trans rfl, (blk_cell BK101.out 4).trans rfl, ((HB.out.cell (World.block_lt_of_cell? w _ hw105_0)).trans hw105_0), ((HB.out.cell (World.block_lt_of_cell? w _ hw105_1)).trans hw105_1), ((HB.out.cell (World.block_lt_of_cell? w _ hw106_0)).trans hw106_0), ((HB.out.cell (World.block_lt_of_cell? w _ hw106_1)).trans hw106_1)⟩ (fun hHeld => ?_)
      clear hK K
      refine norm_ (a' := ?_) ?_ ?_
      rotate_left
      ·show Act.put _ (some 55) _ = _
       simp only [Act.put, List.setIfInBounds_toArray, List.set_cons_zero, List.set_cons_succ, i64_w, i32_w]
       rfl
      refine one_ (i := 17) (N := some 56) #[true, true, true, true, true, true, true, true, true, true, true, true, true, true, true, true, true, true, false, false, false] rfl rfl (one_of HT_.out zq28) zq49 (fun K hK => ?_)
      refine value_ (w1 := ?_) (v := ?_) (by rfl) rfl ?_ ?_
      rotate_left 2
      ·go_simp
       constructor
       ·rfl
       ·rfl
      refine hK.out _ _ ⟨(blk_cell (blk_alloc BK103.out _) 0).trans rfl, (blk_cell (blk_alloc BK103.out _) 1).trans rfl, (blk_cell (blk_alloc BK103.out _) 2).trans rfl, (blk_cell (blk_alloc BK103.out _) 3).trans rfl, (blk_cell (blk_alloc BK101.out _) 0).trans rfl, (blk_cell (blk_alloc BK101.out _) 1).trans rfl, (blk_cell (blk_alloc BK101.out _) 2).trans rfl, (blk_cell (blk_alloc BK101.out _) 3).trans rfl, (blk_cell (blk_alloc BK101.out _) 4).trans rfl, (World.cell?_alloc_lt _ _ _ (World.block_lt_of_cell? _ _ (((HB.out.cell (World.block_lt_of_cell? w _ hw105_0)).trans hw105_0)))).trans (((HB.out.cell (World.block_lt_of_cell? w _ hw105_0)).trans hw105_0)), (World.cell?_alloc_lt _ _ _ (World.block_lt_of_cell? _ _ (((HB.out.cell (World.block_lt_of_cell? w _ hw105_1)).trans hw105_1)))).trans (((HB.out.cell (World.block_lt_of_cell? w _ hw105_1)).trans hw105_1)), (World.cell?_alloc_lt _ _ _ (World.block_lt_of_cell? _ _ (((HB.out.cell (World.block_lt_of_cell? w _ hw106_0)).trans hw106_0)))).trans (((HB.out.cell (World.block_lt_of_cell? w _ hw106_0)).trans hw106_0)), (World.cell?_alloc_lt _ _ _ (World.block_lt_of_cell? _ _ (((HB.out.cell (World.block_lt_of_cell? w _ hw106_1)).trans hw106_1)))).trans (((HB.out.cell (World.block_lt_of_cell? w _ hw106_1)).trans hw106_1))⟩ (fun hHeld => ?_)
      clear hK K
      refine norm_ (a' := ?_) ?_ ?_
      rotate_left
      ·show Act.put _ (some 56) _ = _
       simp only [Act.put, List.setIfInBounds_toArray, List.set_cons_zero, List.set_cons_succ, i64_w, i32_w]
       rfl
      refine one_ (i := 18) (N := some 57) #[true, true, true, true, true, true, true, true, true, true, true, true, true, true, true, true, true, true, true, false, false] rfl rfl (one_of HT_.out zq28) zq49 (fun K hK => ?_)
      refine Kd.R_append_step Kd.string (w0 := w) w.heap.size (by rfl) (.tmp 40) (.tmp 56) 31 9 (.string ⟨#[]⟩) 16 rfl Tryd.underlying31 info9 rfl zq49 (by omega) u104002 x104002_2 t107 [.string t107] (fun _ => True) (fun _ => False) rfl rfl ?aP (fun _ hk => hk.elim) ?aF ?aO ?aB ?aS ?aL ?_
      (case aP => exact rfl)
      (case aB => exact zq24)
      (case aF => exact (fun _ _ => trivial))
      (case aO => exact zq40)
      (case aS => exact (below_size zq24))
      (case aL => have := LMc39.out; omega)
      intro v109 w45 ho hb hg hat
      rw [← Ny108.out] at ho
      have n0_ := mk0 (blk_grown (g := gb101) (o := .cells #[.int .i64 a1_0, .int .i64 a1_1, .int .i64 a1_2, .slice (some ad105) l1_3.length c1_3, .slice A1_4 l1_4.length c1_4] 38 (0, 0)) zq9 hg (Kd.R_ne HO_104002.out BK101.out zq49))
      have n1_ := mk0 (blk_grown (g := gb102) (o := .cells #[.int .i64 0, .string (⟨#[]⟩ : ByteArray), .slice none 0 0, .slice none 0 0] 34 (0, 0)) zq23 hg (Kd.R_ne HO_104002.out BK102.out zq49))
      have n2_ := mk0 (blk_grown (g := gb103) (o := .cells #[.int .i64 a1_0, .string x104001_2, u104002, .slice none 0 0] 34 (0, 0)) zq43 hg (Kd.R_ne HO_104002.out BK103.out zq49))
      have n3_ := mk0 (hb)
      have n4_ := mk0 (ho)
      clear BK101 BK102 BK103 HB HO_104002
      have BK101 := n0_
      have BK102 := n1_
      have BK103 := n2_
      have HB := n3_
      have HO110 := n4_
      clear n0_ n1_ n2_ n3_ n4_ ho hb hg hat
      obtain ⟨Ao46, co46, eo46⟩ := Kd.R_slice HO110.out
      (subst eo46)
      refine hK.out _ _ ⟨(blk_cell BK103.out 0).trans rfl, (blk_cell BK103.out 1).trans rfl, (blk_cell BK103.out 2).trans rfl, (blk_cell BK103.out 3).trans rfl, (blk_cell BK101.out 0).trans rfl, (blk_cell BK101.out 1).trans rfl, (blk_cell BK101.out 2).trans rfl, (blk_cell BK101.out 3).trans rfl, (blk_cell BK101.out 4).trans rfl, ((HB.out.cell (World.block_lt_of_cell? w _ hw105_0)).trans hw105_0), ((HB.out.cell (World.block_lt_of_cell? w _ hw105_1)).trans hw105_1), ((HB.out.cell (World.block_lt_of_cell? w _ hw106_0)).trans hw106_0), ((HB.out.cell (World.block_lt_of_cell? w _ hw106_1)).trans hw106_1)⟩ (fun hHeld => ?_)
      clear hK K
      refine norm_ (a' := ?_) ?_ ?_
      rotate_left
      ·show Act.put _ (some 57) _ = _
       simp only [Act.put, List.setIfInBounds_toArray, List.set_cons_zero, List.set_cons_succ, i64_w, i32_w]
       rfl
      refine pure_ (i := 19) (N := some 58) (v := ?_) (a' := ?_) #[true, true, true, true, true, true, true, true, true, true, true, true, true, true, true, true, true, true, true, true, false] rfl rfl (any_of HT_.out zq28) (fun _ _ _ h => h) (Or.inl ⟨by rfl, ?_⟩) ?_ ?_
      rotate_left
      ·intro w'
       go_simp
       with_reducible rfl
      rotate_left
      ·simp only [Act.put, List.setIfInBounds_toArray, List.set_cons_zero, List.set_cons_succ, i64_w, i32_w]
       rfl
      refine last_ (i := 20) (N := none) #[true, true, true, true, true, true, true, true, true, true, true, true, true, true, true, true, true, true, true, true, true] rfl rfl (one_of HT_.out zq28) zq49 (fun K hK => ?_)
      have hs47 : w45.cell? ⟨gb103, 2, none⟩ = some (u104002) := (blk_cell BK103.out 2).trans rfl
      have hfs47 := blk_frozen BK103.out 2
      have hns47_0 := NB101_103.out
      have hns47_1 := NB102_103.out
      have hms47_0 := NB103_101.out
      have hms47_1 := NB103_102.out
      refine skip_ (w1 := ?_) (by rfl) rfl ?_ ?_
      rotate_left
      ·go_simp
       rfl
      refine hK.out _ _ ?_
      clear hK K
      refine done_ (done_of HT_.out zq28) ?_
      try go_wp2
      go_roundg k2
      case measure => have := HJ2.out; have := HK2.out; omega
      case rel => exact ⟨(wrap64 (x6_2 + 1)), (y108), (.slice Ao46 y108.length co46), (by rfl), H', ⟨by have := HJ2.out; have := HK2.out; omega⟩, ⟨by (with_reducible repeat (first | apply Kd.R_alloc | apply Kd.R_drewN | apply Kd.R_drew)); exact Kd.R_mono (Kd.R_far (p := ⟨gb103, 2, none⟩) (Kd.R_types HO110.out BK103.out zq49) (fun _ hk => hk.2) (.slice Ao46 y108.length co46)) (fun _ hk => trivial)⟩, ⟨by (with_reducible repeat (first | refine blk_drewN ?_ _ | refine blk_drew ?_ | refine blk_alloc ?_ _)); refine blk_far ?_ NB101_103.out _; (with_reducible repeat (first | refine blk_drewN ?_ _ | refine blk_drew ?_ | refine blk_alloc ?_ _)); exact BK101.out⟩, ⟨by (with_reducible repeat (first | refine blk_drewN ?_ _ | refine blk_drew ?_ | refine blk_alloc ?_ _)); refine blk_far ?_ NB102_103.out _; (with_reducible repeat (first | refine blk_drewN ?_ _ | refine blk_drew ?_ | refine blk_alloc ?_ _)); exact BK102.out⟩, ⟨by (with_reducible repeat (first | refine blk_drewN ?_ _ | refine blk_drew ?_ | refine blk_alloc ?_ _)); refine blk_put (cs := #[.int .i64 a1_0, .string x104001_2, u104002, .slice none 0 0]) ?_ 2 _ rfl; (with_reducible repeat (first | refine blk_drewN ?_ _ | refine blk_drew ?_ | refine blk_alloc ?_ _)); exact BK103.out⟩, ⟨by repeat (first | (with_reducible first | exact HB.out | apply below_alloc | apply pw_below_drewN | apply below_drew1 | refine below_set ?_ GE101.out | refine below_set ?_ GE102.out | refine below_set ?_ GE103.out) | exact HB.out)⟩⟩
     rw [if_neg c33] at H
     have c33b0 : decide (x6_2 < (l1_3.length : Int)) = false := decide_eq_false c33
     clear c33
     have H' := mk0 H
     clear H
     have hnb48 := NB101_102.out
     have hnc48 := NB102_101.out
     have hnb49 := NB101_103.out
     have hnc49 := NB103_101.out
     have hcz50_0 : wr.cell? ⟨gb101, 0, none⟩ = some (.int .i64 a1_0) := (blk_cell BK101.out 0).trans rfl
     have hcz50_1 : wr.cell? ⟨gb101, 1, none⟩ = some (.int .i64 a1_1) := (blk_cell BK101.out 1).trans rfl
     have hcz50_2 : wr.cell? ⟨gb101, 2, none⟩ = some (.int .i64 a1_2) := (blk_cell BK101.out 2).trans rfl
     have hcz50_3 : wr.cell? ⟨gb101, 3, none⟩ = some (.slice A1_3 l1_3.length c1_3) := (blk_cell BK101.out 3).trans rfl
     have hcz50_4 : wr.cell? ⟨gb101, 4, none⟩ = some (.slice A1_4 l1_4.length c1_4) := (blk_cell BK101.out 4).trans rfl
     have hfz50_0 := blk_frozen BK101.out 0
     have hfz50_1 := blk_frozen BK101.out 1
     have hfz50_2 := blk_frozen BK101.out 2
     have hfz50_3 := blk_frozen BK101.out 3
     have hfz50_4 := blk_frozen BK101.out 4
     go_wp2
     go_loopg [7] k2 (fun kq v7 w' => ∃ (x7_3 : Int) (x104003_3 : List (S34)) (u104003 : Value), v7 = .int .i64 x7_3 ∧ Aside0 (spec_Tree.l1 kq a0 x7_3 a1_0 a1_1 a1_2 l1_3 l1_4 a1_0 x104001_2 x104002_2 x104003_3 = some (r1, r2, r3, r4)) ∧ Aside0 (kq ≤ k2) ∧ Aside0 (Kd.R Kd.string 9 w' w.heap.size (fun _ => True) u104002 x104002_2) ∧ Aside0 (Kd.R k34 34 w' w.heap.size (fun k_ => some k_ ≠ (u104002 : Value).ownBlock ∧ k_ ≠ gb102 ∧ k_ ≠ gb103) u104003 x104003_3) ∧ Aside0 (w'.heap[gb101]? = some (.cells #[.int .i64 a1_0, .int .i64 a1_1, .int .i64 a1_2, (.slice A1_3 l1_3.length c1_3), (.slice A1_4 l1_4.length c1_4)] 38 (0, 0))) ∧ Aside0 (w'.heap[gb102]? = some (.cells #[.int .i64 0, .string (⟨#[]⟩ : ByteArray), (.slice none 0 0), (.slice none 0 0)] 34 (0, 0))) ∧ Aside0 (w'.heap[gb103]? = some (.cells #[.int .i64 a1_0, .string x104001_2, u104002, u104003] 34 (0, 0))) ∧ Aside0 (Below w.heap.size w w'))
     case atStart => exact ⟨(0), (([] : List (S34))), (.slice none 0 0), (by rfl), H', ⟨Nat.le_refl _⟩, ⟨by (with_reducible repeat (first | apply Kd.R_alloc | apply Kd.R_drewN | apply Kd.R_drew)); exact HO_104002.out⟩, ⟨by exact Kd.R_nil _ _ _ _ _⟩, ⟨by (with_reducible repeat (first | refine blk_drewN ?_ _ | refine blk_drew ?_ | refine blk_alloc ?_ _)); exact BK101.out⟩, ⟨by (with_reducible repeat (first | refine blk_drewN ?_ _ | refine blk_drew ?_ | refine blk_alloc ?_ _)); exact BK102.out⟩, ⟨by (with_reducible repeat (first | refine blk_drewN ?_ _ | refine blk_drew ?_ | refine blk_alloc ?_ _)); exact BK103.out⟩, ⟨by repeat (first | (with_reducible first | exact HB.out | apply below_alloc | apply pw_below_drewN | apply below_drew1 | refine below_set ?_ GE101.out | refine below_set ?_ GE102.out | refine below_set ?_ GE103.out) | exact HB.out)⟩⟩
     case round =>
      clear H'
      clear c33b0 hcz50_0 hcz50_1 hcz50_2 hcz50_3 hcz50_4 hfz50_0 hfz50_1 hfz50_2 hfz50_3 hfz50_4
      obtain ⟨x7_3, x104003_3, u104003, rfl, HA, HK3, HO_104002, HO_104003, BK101, BK102, BK103, HB⟩ := hrel
      cases gk with
      | zero => exact absurd HA.out (by simp [spec_Tree.l1])
      | succ k3 =>
       have H := HA.out
       clear HA
       simp only [spec_Tree.l1] at H
       by_cases c51 : x7_3 < (l1_4.length : Int)
       rotate_left
       ·rw [if_neg c51] at H
        have c51b0 : decide (x7_3 < (l1_4.length : Int)) = false := decide_eq_false c51
        clear c51
        simp only [Option.some.injEq, Prod.mk.injEq] at H
        obtain ⟨rfl, rfl, rfl, rfl⟩ := H
        have hnb65 := NB101_102.out
        have hnc65 := NB102_101.out
        have hnb66 := NB101_103.out
        have hnc66 := NB103_101.out
        have hcz67_0 : wr.cell? ⟨gb101, 0, none⟩ = some (.int .i64 a1_0) := (blk_cell BK101.out 0).trans rfl
        have hcz67_1 : wr.cell? ⟨gb101, 1, none⟩ = some (.int .i64 a1_1) := (blk_cell BK101.out 1).trans rfl
        have hcz67_2 : wr.cell? ⟨gb101, 2, none⟩ = some (.int .i64 a1_2) := (blk_cell BK101.out 2).trans rfl
        have hcz67_3 : wr.cell? ⟨gb101, 3, none⟩ = some (.slice A1_3 l1_3.length c1_3) := (blk_cell BK101.out 3).trans rfl
        have hcz67_4 : wr.cell? ⟨gb101, 4, none⟩ = some (.slice A1_4 l1_4.length c1_4) := (blk_cell BK101.out 4).trans rfl
        have hfz67_0 := blk_frozen BK101.out 0
        have hfz67_1 := blk_frozen BK101.out 1
        have hfz67_2 := blk_frozen BK101.out 2
        have hfz67_3 := blk_frozen BK101.out 3
        have hfz67_4 := blk_frozen BK101.out 4
        have hnb68 := NB103_102.out
        have hnc68 := NB102_103.out
        have hcz69_0 : wr.cell? ⟨gb103, 0, none⟩ = some (.int .i64 a1_0) := (blk_cell BK103.out 0).trans rfl
        have hcz69_1 : wr.cell? ⟨gb103, 1, none⟩ = some (.string x104001_2) := (blk_cell BK103.out 1).trans rfl
        have hcz69_2 : wr.cell? ⟨gb103, 2, none⟩ = some (u104002) := (blk_cell BK103.out 2).trans rfl
        have hcz69_3 : wr.cell? ⟨gb103, 3, none⟩ = some (u104003) := (blk_cell BK103.out 3).trans rfl
        have hfz69_0 := blk_frozen BK103.out 0
        have hfz69_1 := blk_frozen BK103.out 1
        have hfz69_2 := blk_frozen BK103.out 2
        have hfz69_3 := blk_frozen BK103.out 3
        have hcz70_0 : wr.cell? ⟨gb102, 0, none⟩ = some (.int .i64 0) := (blk_cell BK102.out 0).trans rfl
        have hcz70_1 : wr.cell? ⟨gb102, 1, none⟩ = some (.string (⟨#[]⟩ : ByteArray)) := (blk_cell BK102.out 1).trans rfl
        have hcz70_2 : wr.cell? ⟨gb102, 2, none⟩ = some (.slice none 0 0) := (blk_cell BK102.out 2).trans rfl
        have hcz70_3 : wr.cell? ⟨gb102, 3, none⟩ = some (.slice none 0 0) := (blk_cell BK102.out 3).trans rfl
        have hfz70_0 := blk_frozen BK102.out 0
        have hfz70_1 := blk_frozen BK102.out 1
        have hfz70_2 := blk_frozen BK102.out 2
        have hfz70_3 := blk_frozen BK102.out 3
        obtain ⟨Ao71, co71, eo71⟩ := Kd.R_slice HO_104002.out
        subst eo71
        obtain ⟨Ao72, co72, eo72⟩ := Kd.R_slice HO_104003.out
        subst eo72
        go_wp2
        refine bodyPost_ret (results_cell_row rfl _ _ gb102 34 #[.int .i64 a1_0, .string x104001_2, .slice Ao71 x104002_2.length co71, .slice Ao72 x104003_3.length co72] (0, 0) _ rfl (by (with_reducible repeat (first | refine blk_drewN ?_ _ | refine blk_drew ?_ | refine blk_alloc ?_ _)); refine blk_put (cs := #[.int .i64 a1_0, .string x104001_2, .slice Ao71 x104002_2.length co71, .slice none 0 0]) ?_ 3 _ rfl; (with_reducible repeat (first | refine blk_drewN ?_ _ | refine blk_drew ?_ | refine blk_alloc ?_ _)); refine blk_put (cs := #[.int .i64 a1_0, .string x104001_2, .slice none 0 0, .slice none 0 0]) ?_ 2 _ rfl; (with_reducible repeat (first | refine blk_drewN ?_ _ | refine blk_drew ?_ | refine blk_alloc ?_ _)); refine blk_put (cs := #[.int .i64 a1_0, .string (⟨#[]⟩ : ByteArray), .slice none 0 0, .slice none 0 0]) ?_ 1 _ rfl; (with_reducible repeat (first | refine blk_drewN ?_ _ | refine blk_drew ?_ | refine blk_alloc ?_ _)); refine blk_put (cs := #[.int .i64 0, .string (⟨#[]⟩ : ByteArray), .slice none 0 0, .slice none 0 0]) ?_ 0 _ rfl; (with_reducible repeat (first | refine blk_drewN ?_ _ | refine blk_drew ?_ | refine blk_alloc ?_ _)); exact BK102.out) Tryd.underlying34 rfl zq28) rfl ?_
        exact ⟨_, _, by rfl, by (with_reducible repeat (first | apply Kd.R_alloc | apply Kd.R_drewN | apply Kd.R_drew)); exact Kd.R_mono (Kd.R_far (p := ⟨gb102, 3, none⟩) (Kd.R_far (p := ⟨gb102, 2, none⟩) (Kd.R_far (p := ⟨gb102, 1, none⟩) (Kd.R_far (p := ⟨gb102, 0, none⟩) (Kd.R_types HO_104002.out BK102.out zq49) (fun _ hk => hk.2) (.int .i64 a1_0)) (fun _ hk => hk.2) (.string x104001_2)) (fun _ hk => hk.2) (.slice Ao71 x104002_2.length co71)) (fun _ hk => hk.2) (.slice Ao72 x104003_3.length co72)) (fun _ hk => trivial), by (with_reducible repeat (first | apply Kd.R_alloc | apply Kd.R_drewN | apply Kd.R_drew)); exact Kd.R_mono (Kd.R_far (p := ⟨gb102, 3, none⟩) (Kd.R_far (p := ⟨gb102, 2, none⟩) (Kd.R_far (p := ⟨gb102, 1, none⟩) (Kd.R_far (p := ⟨gb102, 0, none⟩) (Kd.R_mono HO_104003.out (fun k_ hk => (⟨hk, hk.2.1⟩ : _ ∧ k_ ≠ gb102))) (fun _ hk => hk.2) (.int .i64 a1_0)) (fun _ hk => hk.2) (.string x104001_2)) (fun _ hk => hk.2) (.slice Ao71 x104002_2.length co71)) (fun _ hk => hk.2) (.slice Ao72 x104003_3.length co72)) (fun _ hk => hk.1.1), by repeat (first | (with_reducible first | exact HB.out | apply below_alloc | apply pw_below_drewN | apply below_drew1 | refine below_set ?_ GE101.out | refine below_set ?_ GE102.out | refine below_set ?_ GE103.out) | exact HB.out)⟩
       rw [if_pos c51] at H
       have c51b0 : decide (x7_3 < (l1_4.length : Int)) = true := decide_eq_true c51
       clear c51
       by_cases c52 : 0 ≤ x7_3
       rotate_left
       ·rw [if_neg c52] at H
        exact absurd H (by simp)
       rw [if_pos c52] at H
       have c52b0 : decide (0 ≤ x7_3) = true := decide_eq_true c52
       clear c52
       replace H := Option.bind_eq_some_iff.mp H
       obtain ⟨⟨t112, t113, t114, t117⟩, A530, H⟩ := H
       (try dsimp only at H)
       have A53 := mk0 A530
       clear A530
       by_cases c54 : x104003_3.length < 1954687338268
       rotate_left
       ·rw [if_neg c54] at H
        exact absurd H (by simp)
       rw [if_pos c54] at H
       have LMc54 := mk0 c54
       clear c54
       obtain ⟨y120, hy120⟩ : ∃ y_ : List (S34), y_ = (x104003_3 ++ [(⟨t112, t113, t114, t117⟩ : S34)]) := ⟨_, rfl⟩
       replace H : (spec_Tree.l1 k3 a0 (wrap64 (x7_3 + 1)) a1_0 a1_1 a1_2 l1_3 l1_4 a1_0 x104001_2 x104002_2 y120) = some (r1, r2, r3, r4) := by (rw [hy120]; with_reducible exact H)
       have Ny120 := mk0 hy120
       clear hy120
       have H' := mk0 H
       clear H
       have hnb55 := NB101_102.out
       have hnc55 := NB102_101.out
       have hnb56 := NB101_103.out
       have hnc56 := NB103_101.out
       have hcz57_0 : wr.cell? ⟨gb101, 0, none⟩ = some (.int .i64 a1_0) := (blk_cell BK101.out 0).trans rfl
       have hcz57_1 : wr.cell? ⟨gb101, 1, none⟩ = some (.int .i64 a1_1) := (blk_cell BK101.out 1).trans rfl
       have hcz57_2 : wr.cell? ⟨gb101, 2, none⟩ = some (.int .i64 a1_2) := (blk_cell BK101.out 2).trans rfl
       have hcz57_3 : wr.cell? ⟨gb101, 3, none⟩ = some (.slice A1_3 l1_3.length c1_3) := (blk_cell BK101.out 3).trans rfl
       have hcz57_4 : wr.cell? ⟨gb101, 4, none⟩ = some (.slice A1_4 l1_4.length c1_4) := (blk_cell BK101.out 4).trans rfl
       have hfz57_0 := blk_frozen BK101.out 0
       have hfz57_1 := blk_frozen BK101.out 1
       have hfz57_2 := blk_frozen BK101.out 2
       have hfz57_3 := blk_frozen BK101.out 3
       have hfz57_4 := blk_frozen BK101.out 4
       try go_wp2
       have n0_ := mk0 (Kd.R_drew HO_104002.out)
       have n1_ := mk0 (Kd.R_drew HO_104003.out)
       have n2_ := mk0 (blk_drew BK101.out)
       have n3_ := mk0 (blk_drew BK102.out)
       have n4_ := mk0 (blk_drew BK103.out)
       have n5_ := mk0 (below_drew1 HB.out)
       clear HO_104002 HO_104003 BK101 BK102 BK103 HB
       have HO_104002 := n0_
       have HO_104003 := n1_
       have BK101 := n2_
       have BK102 := n3_
       have BK103 := n4_
       have HB := n5_
       clear n0_ n1_ n2_ n3_ n4_ n5_
       have p111 : 0 ≤ (x7_3 : Int) := of_decide_eq_true zq5
       have q111 : x7_3 < (l1_4.length : Int) := of_decide_eq_true zq5
       obtain ⟨ad111, A111_3, c111_3, A111_4, c111_4, e111, hx111_0, hx111_1, hx111_2, hx111_3, hx111_4, hl111_3, hi111_3, hl111_4, hi111_4⟩ := at_T38 HR1_4.out x7_3 p111 q111
       have hw111_4 := hx111_4
       have hw111_3 := hx111_3
       have hw111_2 := hx111_2
       have hw111_1 := hx111_1
       have hw111_0 := hx111_0
       cases e111
       replace hx111_0 := (HB.out.cell (World.block_lt_of_cell? w _ hx111_0)).trans hx111_0
       replace hx111_1 := (HB.out.cell (World.block_lt_of_cell? w _ hx111_1)).trans hx111_1
       replace hx111_2 := (HB.out.cell (World.block_lt_of_cell? w _ hx111_2)).trans hx111_2
       replace hx111_3 := (HB.out.cell (World.block_lt_of_cell? w _ hx111_3)).trans hx111_3
       replace hx111_4 := (HB.out.cell (World.block_lt_of_cell? w _ hx111_4)).trans hx111_4
       have HR111_3 := mk0 hi111_3
       have HC111_3 := mk0 hl111_3
       clear hi111_3 hl111_3
       have HR111_4 := mk0 hi111_4
       have HC111_4 := mk0 hl111_4
       clear hi111_4 hl111_4
       replace p111 := eq_true p111
       replace q111 := eq_true q111
       refine start_ (n := 13) (S := fun w' => w'.cell? ⟨gb103, 0, none⟩ = some (.int .i64 a1_0) ∧ w'.cell? ⟨gb103, 1, none⟩ = some (.string x104001_2) ∧ w'.cell? ⟨gb103, 2, none⟩ = some (u104002) ∧ w'.cell? ⟨gb103, 3, none⟩ = some (u104003) ∧ w'.cell? ⟨gb101, 0, none⟩ = some (.int .i64 a1_0) ∧ w'.cell? ⟨gb101, 1, none⟩ = some (.int .i64 a1_1) ∧ w'.cell? ⟨gb101, 2, none⟩ = some (.int .i64 a1_2) ∧ w'.cell? ⟨gb101, 3, none⟩ = some (.slice A1_3 l1_3.length c1_3) ∧ w'.cell? ⟨gb101, 4, none⟩ = some (.slice (some ad111) l1_4.length c1_4) ∧ w'.cell? (ad111.add ((x7_3).toNat * 5)) = some (.int .i64 ((rd_T38 l1_4 x7_3).f0)) ∧ w'.cell? ⟨(ad111.add ((x7_3).toNat * 5)).block, (ad111.add ((x7_3).toNat * 5)).off + 1, none⟩ = some (.int .i64 ((rd_T38 l1_4 x7_3).f1)) ∧ w'.cell? ⟨(ad111.add ((x7_3).toNat * 5)).block, (ad111.add ((x7_3).toNat * 5)).off + 2, none⟩ = some (.int .i64 ((rd_T38 l1_4 x7_3).f2)) ∧ w'.cell? ⟨(ad111.add ((x7_3).toNat * 5)).block, (ad111.add ((x7_3).toNat * 5)).off + 3, none⟩ = some (.slice A111_3 ((rd_T38 l1_4 x7_3).f3).length c111_3) ∧ w'.cell? ⟨(ad111.add ((x7_3).toNat * 5)).block, (ad111.add ((x7_3).toNat * 5)).off + 4, none⟩ = some (.slice A111_4 ((rd_T38 l1_4 x7_3).f4).length c111_4)) (ds := [12]) #[false, false, false, false, false, false, false, false, false, false, false, false, false] zq28 rfl rfl ⟨(blk_cell BK103.out 0).trans rfl, (blk_cell BK103.out 1).trans rfl, (blk_cell BK103.out 2).trans rfl, (blk_cell BK103.out 3).trans rfl, (blk_cell BK101.out 0).trans rfl, (blk_cell BK101.out 1).trans rfl, (blk_cell BK101.out 2).trans rfl, (blk_cell BK101.out 3).trans rfl, (blk_cell BK101.out 4).trans rfl, ((HB.out.cell (World.block_lt_of_cell? w _ hw111_0)).trans hw111_0), ((HB.out.cell (World.block_lt_of_cell? w _ hw111_1)).trans hw111_1), ((HB.out.cell (World.block_lt_of_cell? w _ hw111_2)).trans hw111_2), ((HB.out.cell (World.block_lt_of_cell? w _ hw111_3)).trans hw111_3), ((HB.out.cell (World.block_lt_of_cell? w _ hw111_4)).trans hw111_4)⟩ (fun hHeld => ?_); refine with_tabW spec_Tree.tab14 spec_Tree.bits14 (fun HT_ HW_ => ?_)
       generalize wr.drew = w58 at HO_104002 HO_104003 BK101 BK102 BK103 HB HR111_3 HR111_4 hx111_0 hx111_1 hx111_2 hx111_3 hx111_4 hHeld ⊢
       refine pure_ (i := 0) (N := some 66) (v := ?_) (a' := ?_) #[true, false, false, false, false, false, false, false, false, false, false, false, false] rfl rfl (any_of HT_.out zq28) (fun _ _ _ h => h) (Or.inl ⟨by rfl, ?_⟩) ?_ ?_
       rotate_left
       ·intro w'
        go_simp
        with_reducible rfl
       rotate_left
       ·simp only [Act.put, List.setIfInBounds_toArray, List.set_cons_zero, List.set_cons_succ, i64_w, i32_w]
        rfl
       refine pure_ (i := 2) (N := some 68) (v := ?_) (a' := ?_) #[true, false, true, false, false, false, false, false, false, false, false, false, false] rfl rfl (any_of HT_.out zq28) (fun _ _ _ h => h) (Or.inl ⟨by rfl, ?_⟩) ?_ ?_
       rotate_left
       ·intro w'
        go_simp
        with_reducible rfl
       rotate_left
       ·simp only [Act.put, List.setIfInBounds_toArray, List.set_cons_zero, List.set_cons_succ, i64_w, i32_w]
        rfl
       refine pure_ (i := 3) (N := some 69) (v := ?_) (a' := ?_) #[true, false, true, true, false, false, false, false, false, false, false, false, false] rfl rfl (any_of HT_.out zq28) (fun _ _ _ h => h) (Or.inl ⟨by rfl, ?_⟩) ?_ ?_
       rotate_left
       ·intro w'
        go_simp
        with_reducible rfl
       rotate_left
       ·simp only [Act.put, List.setIfInBounds_toArray, List.set_cons_zero, List.set_cons_succ, i64_w, i32_w]
        rfl
       refine pure_ (i := 5) (N := some 71) (v := ?_) (a' := ?_) #[true, false, true, true, false, true, false, false, false, false, false, false, false] rfl rfl (any_of HT_.out zq28) (fun _ _ _ h => h) (Or.inl ⟨by rfl, ?_⟩) ?_ ?_
       rotate_left
       ·intro w'
        go_simp
        with_reducible rfl
       rotate_left
       ·simp only [Act.put, List.setIfInBounds_toArray, List.set_cons_zero, List.set_cons_succ, i64_w, i32_w]
        rfl
       refine take_ (i := 1) (N := some 67) (v := ?_) (a' := ?_) #[true, true, true, true, false, true, false, false, false, false, false, false, false] rfl rfl (take_ofW HT_.out HW_.out zq28) (fun _ _ _ h => h) (Or.inl ⟨by rfl, ?_⟩) hHeld ?_ ?_
       rotate_left
       ·rintro w' ⟨s0, s1, s2, s3, s4, s5, s6, s7, s8, s9, s10, s11, s12, s13⟩
        go_simp
        with_reducible rfl
       rotate_left
       ·simp only [Act.put, List.setIfInBounds_toArray, List.set_cons_zero, List.set_cons_succ, i64_w, i32_w]
        rfl
       refine take_ (i := 4) (N := some 70) (v := ?_) (a' := ?_) #[true, true, true, true, true, true, false, false, false, false, false, false, false] rfl rfl (take_ofW HT_.out HW_.out zq28) (fun _ _ _ h => h) (Or.inl ⟨by rfl, ?_⟩) hHeld ?_ ?_
       rotate_left
       ·rintro w' ⟨s0, s1, s2, s3, s4, s5, s6, s7, s8, s9, s10, s11, s12, s13⟩
        go_simp
        with_reducible rfl
       rotate_left
       ·simp only [Act.put, List.setIfInBounds_toArray, List.set_cons_zero, List.set_cons_succ, i64_w, i32_w]
        rfl
       refine pure_ (i := 6) (N := some 72) (v := ?_) (a' := ?_) #[true, true, true, true, true, true, true, false, false, false, false, false, false] rfl rfl (any_of HT_.out zq28) (fun _ _ _ h => h) (Or.inl ⟨by rfl, ?_⟩) ?_ ?_
       rotate_left
       ·intro w'
        go_simp
        with_reducible rfl
       rotate_left
       ·simp only [Act.put, List.setIfInBounds_toArray, List.set_cons_zero, List.set_cons_succ, i64_w, i32_w]
        rfl
       refine take_ (i := 7) (N := some 73) (v := ?_) (a' := ?_) #[true, true, true, true, true, true, true, true, false, false, false, false, false] rfl rfl (take_ofW HT_.out HW_.out zq28) (fun _ _ _ h => h) (Or.inl ⟨by rfl, ?_⟩) hHeld ?_ ?_
       rotate_left
       ·rintro w' ⟨s0, s1, s2, s3, s4, s5, s6, s7, s8, s9, s10, s11, s12, s13⟩
        go_simp
        with_reducible rfl
       rotate_left
       ·simp only [Act.put, List.setIfInBounds_toArray, List.set_cons_zero, List.set_cons_succ, i64_w, i32_w]
        rfl
       refine one_ (i := 8) (N := some 74) #[true, true, true, true, true, true, true, true, true, false, false, false, false] rfl rfl (one_of HT_.out zq28) zq49 (fun K hK => ?_)
       refine goes_ Tryd.func44 zq28 rfl #[.string a0, .agg #[.int .i64 ((rd_T38 l1_4 x7_3).f0), .int .i64 ((rd_T38 l1_4 x7_3).f1), .int .i64 ((rd_T38 l1_4 x7_3).f2), .slice A111_3 ((rd_T38 l1_4 x7_3).f3).length c111_3, .slice A111_4 ((rd_T38 l1_4 x7_3).f4).length c111_4]] (by rfl) rfl rfl zq0 ?_
       with_reducible refine (ih k3 (by have := HJ2.out; have := HK2.out; have := HK3.out; omega) a0 ((rd_T38 l1_4 x7_3).f0) ((rd_T38 l1_4 x7_3).f1) ((rd_T38 l1_4 x7_3).f2) _ _ ((rd_T38 l1_4 x7_3).f3) _ _ ((rd_T38 l1_4 x7_3).f4) t112 t113 t114 t117 _ ?side1 ?side2 ?side3 ?side4 A53.out).mono ?_
       (case side1 => repeat (first | exact (Kd.C_below HR111_3.out HB.out) | (with_reducible refine Kd.C_alloc ?_ _) | (with_reducible refine Kd.C_drewN ?_ _) | (with_reducible refine Kd.C_drew ?_)))
       (case side2 => exact HC111_3.out)
       (case side3 => repeat (first | exact (Kd.C_below HR111_4.out HB.out) | (with_reducible refine Kd.C_alloc ?_ _) | (with_reducible refine Kd.C_drewN ?_ _) | (with_reducible refine Kd.C_drew ?_)))
       (case side4 => exact HC111_4.out)
       rintro e w59 ⟨v115, v118, rfl, ho0, ho1, hb⟩
       refine ⟨_, rfl, ?_⟩
       have n0_ := mk0 (Kd.R_elder' zq40 (Kd.R_base ho0) hb)
       have n1_ := mk0 (Kd.R_mono (Kd.R_told (Kd.R_told (Kd.R_old zq62 hb) (Kd.R_base ho0)) (Kd.R_base ho1)) (fun _ h_ => h_.1))
       have n2_ := mk0 (Kd.R_lower (Kd.R_new' ho0 (Kd.R_lt zq40)) (below_size zq24))
       have n3_ := mk0 (Kd.R_lower (Kd.R_newB (Kd.R_newB (Kd.R_new' (Kd.R_new' ho1 (Kd.R_lt zq40)) (Kd.R_lt zq62)) (g := gb102) (o := .cells #[.int .i64 0, .string (⟨#[]⟩ : ByteArray), .slice none 0 0, .slice none 0 0] 34 (0, 0)) zq23) (g := gb103) (o := .cells #[.int .i64 a1_0, .string x104001_2, u104002, u104003] 34 (0, 0)) zq43) (below_size zq24))
       have n4_ := mk0 (blk_below (g := gb101) (o := .cells #[.int .i64 a1_0, .int .i64 a1_1, .int .i64 a1_2, .slice A1_3 l1_3.length c1_3, .slice (some ad111) l1_4.length c1_4] 38 (0, 0)) zq9 hb)
       have n5_ := mk0 (blk_below (g := gb102) (o := .cells #[.int .i64 0, .string (⟨#[]⟩ : ByteArray), .slice none 0 0, .slice none 0 0] 34 (0, 0)) zq23 hb)
       have n6_ := mk0 (blk_below (g := gb103) (o := .cells #[.int .i64 a1_0, .string x104001_2, u104002, u104003] 34 (0, 0)) zq43 hb)
       have n7_ := mk0 (below_step zq24 hb)
       clear HO_104002 HO_104003 BK101 BK102 BK103 HB
       have HO_104002 := n0_
       have HO_104003 := n1_
       have HO116 := n2_
       have HO119 := n3_
       have BK101 := n4_
       have BK102 := n5_
       have BK103 := n6_
       have HB := n7_
       clear n0_ n1_ n2_ n3_ n4_ n5_ n6_ n7_ hb ho0 ho1
       obtain ⟨Ao61, co61, eo61⟩ := Kd.R_slice HO116.out
       (subst eo61)
       obtain ⟨Ao62, co62, eo62⟩ := Kd.R_slice HO119.out
       (subst eo62)
       refine hK.out _ _ ⟨(blk_cell BK103.out 0).trans rfl, (blk_cell BK103.out 1).trans rfl, (blk_cell BK103.out 2).trans rfl, (blk_cell BK103.out 3).trans rfl, (blk_cell BK101.out 0).trans rfl, (blk_cell BK101.out 1).trans rfl, (blk_cell BK101.out 2).trans rfl, (blk_cell BK101.out 3).trans rfl, (blk_cell BK101.out 4).trans rfl, ((HB.out.cell (World.block_lt_of_cell? w _ hw111_0)).trans hw111_0), ((HB.out.cell (World.block_lt_of_cell? w _ hw111_1)).trans hw111_1), ((HB.out.cell (World.block_lt_of_cell? w _ hw111_2)).trans hw111_2), ((HB.out.cell (World.block_lt_of_cell? w _ hw111_3)).trans hw111_3), ((HB.out.cell (World.block_lt_of_cell? w _ hw111_4)).trans hw111_4)⟩ (fun hHeld => ?_)
       clear hK K
       refine norm_ (a' := ?_) ?_ ?_
       rotate_left
       ·show Act.put _ (some 74) _ = _
        simp only [Act.put, List.setIfInBounds_toArray, List.set_cons_zero, List.set_cons_succ, i64_w, i32_w]
        rfl
       refine one_ (i := 9) (N := some 75) #[true, true, true, true, true, true, true, true, true, true, false, false, false] rfl rfl (one_of HT_.out zq28) zq49 (fun K hK => ?_)
       refine value_ (w1 := ?_) (v := ?_) (by rfl) rfl ?_ ?_
       rotate_left 2
       ·go_simp
        constructor
        ·rfl
        ·rfl
       refine hK.out _ _ ⟨(blk_cell (blk_alloc BK103.out _) 0).trans rfl, (blk_cell (blk_alloc BK103.out _) 1).trans rfl, (blk_cell (blk_alloc BK103.out _) 2).trans rfl, (blk_cell (blk_alloc BK103.out _) 3).trans rfl, (blk_cell (blk_alloc BK101.out _) 0).trans rfl, (blk_cell (blk_alloc BK101.out _) 1).trans rfl, (blk_cell (blk_alloc BK101.out _) 2).trans rfl, (blk_cell (blk_alloc BK101.out _) 3).trans rfl, (blk_cell (blk_alloc BK101.out _) 4).trans rfl, (World.cell?_alloc_lt _ _ _ (World.block_lt_of_cell? _ _ (((HB.out.cell (World.block_lt_of_cell? w _ hw111_0)).trans hw111_0)))).trans (((HB.out.cell (World.block_lt_of_cell? w _ hw111_0)).trans hw111_0)), (World.cell?_alloc_lt _ _ _ (World.block_lt_of_cell? _ _ (((HB.out.cell (World.block_lt_of_cell? w _ hw111_1)).trans hw111_1)))).trans (((HB.out.cell (World.block_lt_of_cell? w _ hw111_1)).trans hw111_1)), (World.cell?_alloc_lt _ _ _ (World.block_lt_of_cell? _ _ (((HB.out.cell (World.block_lt_of_cell? w _ hw111_2)).trans hw111_2)))).trans (((HB.out.cell (World.block_lt_of_cell? w _ hw111_2)).trans hw111_2)), (World.cell?_alloc_lt _ _ _ (World.block_lt_of_cell? _ _ (((HB.out.cell (World.block_lt_of_cell? w _ hw111_3)).trans hw111_3)))).trans (((HB.out.cell (World.block_lt_of_cell? w _ hw111_3)).trans hw111_3)), (World.cell?_alloc_lt _ _ _ (World.block_lt_of_cell? _ _ (((HB.out.cell (World.block_lt_of_cell? w _ hw111_4)).trans hw111_4)))).trans (((HB.out.cell (World.block_lt_of_cell? w _ hw111_4)).trans hw111_4))⟩ (fun hHeld => ?_)
       clear hK K
       refine norm_ (a' := ?_) ?_ ?_
       rotate_left
       ·show Act.put _ (some 75) _ = _
        simp only [Act.put, List.setIfInBounds_toArray, List.set_cons_zero, List.set_cons_succ, i64_w, i32_w]
        rfl
       refine one_ (i := 10) (N := some 76) #[true, true, true, true, true, true, true, true, true, true, true, false, false] rfl rfl (one_of HT_.out zq28) zq49 (fun K hK => ?_)
       refine Kd.R_append_step k34 (w0 := w) w.heap.size (by rfl) (.tmp 67) (.tmp 75) 32 34 (.agg #[(.int .i64 0), (.string ⟨#[]⟩), (.slice none 0 0), (.slice none 0 0)]) 72 rfl Tryd.underlying32 info34 rfl zq49 (by omega) u104003 x104003_3 (⟨t112, t113, t114, t117⟩ : S34) [.int .i64 t112, .string t113, .slice Ao61 t114.length co61, .slice Ao62 t117.length co62] (fun k_ => some k_ ≠ (u104002 : Value).ownBlock ∧ k_ ≠ gb102 ∧ k_ ≠ gb103) (fun k_ => ((fun k_ => some k_ ≠ (u104002 : Value).ownBlock ∧ k_ ≠ gb102 ∧ k_ ≠ gb103)) k_ ∧ some k_ ≠ (u104003 : Value).ownBlock) rfl rfl ?aP (fun _ hk => hk) ?aF ?aO ?aB ?aS ?aL ?_
       (case aP => exact k34_mkM _ _ _ (⟨t112, t113, t114, t117⟩ : S34) (Kd.R_mono (Kd.R_types (Kd.R_types (Kd.R_apart' (HO116.out) (Kd.R_typed HO_104003.out) zq49) BK102.out zq49) BK103.out zq49) (fun k_ hk => ⟨⟨hk.1.1.1.2, ⟨hk.1.2, hk.2⟩⟩, hk.1.1.2⟩)) (Kd.R_mono (HO119.out) (fun k_ hk => ⟨⟨hk.1.1.1.2, ⟨hk.1.2, hk.2⟩⟩, hk.1.1.2⟩)))
       (case aB => exact zq24)
       (case aF => exact (fun k_ hk => ⟨Kd.fresh' (Kd.R_lt zq40) k_ hk, Kd.freshB (g := gb102) (o := .cells #[.int .i64 0, .string (⟨#[]⟩ : ByteArray), .slice none 0 0, .slice none 0 0] 34 (0, 0)) zq23 k_ hk, Kd.freshB (g := gb103) (o := .cells #[.int .i64 a1_0, .string x104001_2, u104002, u104003] 34 (0, 0)) zq43 k_ hk⟩))
       (case aO => exact (by (with_reducible repeat (first | apply Kd.R_alloc | apply Kd.R_drewN | apply Kd.R_drew)); exact Kd.R_mono HO_104003.out (fun _ hk => ⟨hk.1.1.1, ⟨hk.1.1.2.1, hk.1.1.2.2⟩⟩)))
       (case aS => exact (below_size zq24))
       (case aL => have := LMc54.out; omega)
       intro v121 w60 ho hb hg hat
       rw [← Ny120.out] at ho
       have n0_ := mk0 (Kd.R_over' zq40 (Kd.R_typed zq62) zq49 hg)
       have n1_ := mk0 (blk_grown (g := gb101) (o := .cells #[.int .i64 a1_0, .int .i64 a1_1, .int .i64 a1_2, .slice A1_3 l1_3.length c1_3, .slice (some ad111) l1_4.length c1_4] 38 (0, 0)) zq9 hg (Kd.R_ne HO_104003.out BK101.out zq49))
       have n2_ := mk0 (blk_grown (g := gb102) (o := .cells #[.int .i64 0, .string (⟨#[]⟩ : ByteArray), .slice none 0 0, .slice none 0 0] 34 (0, 0)) zq23 hg (Kd.R_away HO_104003.out (fun _ hk => hk.1.1.2.1)))
       have n3_ := mk0 (blk_grown (g := gb103) (o := .cells #[.int .i64 a1_0, .string x104001_2, u104002, u104003] 34 (0, 0)) zq43 hg (Kd.R_away HO_104003.out (fun _ hk => hk.1.1.2.2)))
       have n4_ := mk0 (hb)
       have n5_ := mk0 (ho)
       clear HO_104002 BK101 BK102 BK103 HB HO_104003 HO116 HO119
       have HO_104002 := n0_
       have BK101 := n1_
       have BK102 := n2_
       have BK103 := n3_
       have HB := n4_
       have HO122 := n5_
       clear n0_ n1_ n2_ n3_ n4_ n5_ ho hb hg hat
       obtain ⟨Ao63, co63, eo63⟩ := Kd.R_slice HO122.out
       (subst eo63)
       refine hK.out _ _ ⟨(blk_cell BK103.out 0).trans rfl, (blk_cell BK103.out 1).trans rfl, (blk_cell BK103.out 2).trans rfl, (blk_cell BK103.out 3).trans rfl, (blk_cell BK101.out 0).trans rfl, (blk_cell BK101.out 1).trans rfl, (blk_cell BK101.out 2).trans rfl, (blk_cell BK101.out 3).trans rfl, (blk_cell BK101.out 4).trans rfl, ((HB.out.cell (World.block_lt_of_cell? w _ hw111_0)).trans hw111_0), ((HB.out.cell (World.block_lt_of_cell? w _ hw111_1)).trans hw111_1), ((HB.out.cell (World.block_lt_of_cell? w _ hw111_2)).trans hw111_2), ((HB.out.cell (World.block_lt_of_cell? w _ hw111_3)).trans hw111_3), ((HB.out.cell (World.block_lt_of_cell? w _ hw111_4)).trans hw111_4)⟩ (fun hHeld => ?_)
       clear hK K
       refine norm_ (a' := ?_) ?_ ?_
       rotate_left
       ·show Act.put _ (some 76) _ = _
        simp only [Act.put, List.setIfInBounds_toArray, List.set_cons_zero, List.set_cons_succ, i64_w, i32_w]
        rfl
       refine pure_ (i := 11) (N := some 77) (v := ?_) (a' := ?_) #[true, true, true, true, true, true, true, true, true, true, true, true, false] rfl rfl (any_of HT_.out zq28) (fun _ _ _ h => h) (Or.inl ⟨by rfl, ?_⟩) ?_ ?_
       rotate_left
       ·intro w'
        go_simp
        with_reducible rfl
       rotate_left
       ·simp only [Act.put, List.setIfInBounds_toArray, List.set_cons_zero, List.set_cons_succ, i64_w, i32_w]
        rfl
       refine last_ (i := 12) (N := none) #[true, true, true, true, true, true, true, true, true, true, true, true, true] rfl rfl (one_of HT_.out zq28) zq49 (fun K hK => ?_)
       have hs64 : w60.cell? ⟨gb103, 3, none⟩ = some (u104003) := (blk_cell BK103.out 3).trans rfl
       have hfs64 := blk_frozen BK103.out 3
       have hns64_0 := NB101_103.out
       have hns64_1 := NB102_103.out
       have hms64_0 := NB103_101.out
       have hms64_1 := NB103_102.out
       refine skip_ (w1 := ?_) (by rfl) rfl ?_ ?_
       rotate_left
       ·go_simp
        rfl
       refine hK.out _ _ ?_
       clear hK K
       refine done_ (done_of HT_.out zq28) ?_
       try go_wp2
       go_roundg k3
       case measure => have := HJ2.out; have := HK2.out; have := HK3.out; omega
       case rel => exact ⟨(wrap64 (x7_3 + 1)), (y120), (.slice Ao63 y120.length co63), (by rfl), H', ⟨by have := HJ2.out; have := HK2.out; have := HK3.out; omega⟩, ⟨by (with_reducible repeat (first | apply Kd.R_alloc | apply Kd.R_drewN | apply Kd.R_drew)); exact Kd.R_mono (Kd.R_far (p := ⟨gb103, 3, none⟩) (Kd.R_types HO_104002.out BK103.out zq49) (fun _ hk => hk.2) (.slice Ao63 y120.length co63)) (fun _ hk => trivial)⟩, ⟨by (with_reducible repeat (first | apply Kd.R_alloc | apply Kd.R_drewN | apply Kd.R_drew)); exact Kd.R_mono (Kd.R_far (p := ⟨gb103, 3, none⟩) (Kd.R_mono HO122.out (fun k_ hk => (⟨hk, hk.2.2⟩ : _ ∧ k_ ≠ gb103))) (fun _ hk => hk.2) (.slice Ao63 y120.length co63)) (fun _ hk => ⟨hk.1.1, ⟨hk.1.2.1, hk.1.2.2⟩⟩)⟩, ⟨by (with_reducible repeat (first | refine blk_drewN ?_ _ | refine blk_drew ?_ | refine blk_alloc ?_ _)); refine blk_far ?_ NB101_103.out _; (with_reducible repeat (first | refine blk_drewN ?_ _ | refine blk_drew ?_ | refine blk_alloc ?_ _)); exact BK101.out⟩, ⟨by (with_reducible repeat (first | refine blk_drewN ?_ _ | refine blk_drew ?_ | refine blk_alloc ?_ _)); refine blk_far ?_ NB102_103.out _; (with_reducible repeat (first | refine blk_drewN ?_ _ | refine blk_drew ?_ | refine blk_alloc ?_ _)); exact BK102.out⟩, ⟨by (with_reducible repeat (first | refine blk_drewN ?_ _ | refine blk_drew ?_ | refine blk_alloc ?_ _)); refine blk_put (cs := #[.int .i64 a1_0, .string x104001_2, u104002, u104003]) ?_ 3 _ rfl; (with_reducible repeat (first | refine blk_drewN ?_ _ | refine blk_drew ?_ | refine blk_alloc ?_ _)); exact BK103.out⟩, ⟨by repeat (first | (with_reducible first | exact HB.out | apply below_alloc | apply pw_below_drewN | apply below_drew1 | refine below_set ?_ GE101.out | refine below_set ?_ GE102.out | refine below_set ?_ GE103.out) | exact HB.out)⟩⟩
def spec_Read.f (k : Nat) (a0 : ByteArray) : Option (Int × ByteArray × List ByteArray × (List (S34)) × Bool) := (spec_Places.f k a0).bind fun bt102 => (if bt102.2.2.2.2.2 = true then ((spec_Tree.f k a0 bt102.1 bt102.2.1 bt102.2.2.1 bt102.2.2.2.1 bt102.2.2.2.2.1).bind fun bt113 => (some (bt113.1, bt113.2.1, bt113.2.2.1, bt113.2.2.2, true))) else (some (0, (⟨#[]⟩ : ByteArray), ([] : List ByteArray), ([] : List (S34)), false)))
theorem spec_Read.mono : ∀ a0 k, LeO (spec_Read.f k a0) (spec_Read.f (k + 1) a0) := by
 intro a0 k
 unfold spec_Read.f
 repeat' first
  | (with_reducible exact spec_Places.mono _ _)
  | (with_reducible exact spec_Tree.mono _ _ _ _ _ _ _)
  | (with_reducible exact LeO.refl _)
  | (with_reducible exact LeO.none _)
  | (with_reducible refine LeO.ite ?_ ?_)
  | (with_reducible refine LeO.bind ?_ (fun _ => ?_))
  | exact spec_Places.mono _ _
  | exact spec_Tree.mono _ _ _ _ _ _ _
  | exact LeO.none _
  | refine LeO.ite ?_ ?_
  | refine LeO.bind ?_ (fun _ => ?_)
set_option maxHeartbeats 8000000 in
set_option maxRecDepth 100000 in
theorem spec_Read.calls (k : Nat) (a0 : ByteArray) (r1 : Int) (r2 : ByteArray) (r3 : List ByteArray) (r4 : List (S34)) (r5 : Bool) (w : World) (h : spec_Read.f k a0 = some (r1, r2, r3, r4, r5)) :
 Calls Tryd.prog 24 #[.string a0] w fun e w' => ∃ v2_ v3_ : Value, e = .returned (.tuple #[.agg #[.int .i64 r1, .string r2, v2_, v3_], .bool r5]) ∧ Kd.R Kd.string 9 w' w.heap.size (fun _ => True) v2_ r3 ∧ Kd.R k34 34 w' w.heap.size (fun k_ => some k_ ≠ (v2_ : Value).ownBlock) v3_ r4 ∧ Below w.heap.size w w' := by
 have hu34 := Tryd.underlying34
 have hu38 := Tryd.underlying38
 have HB := mk0 (Below.refl w.heap.size w)
 have H : ((spec_Places.f k a0).bind fun bt102 => (if bt102.2.2.2.2.2 = true then ((spec_Tree.f k a0 bt102.1 bt102.2.1 bt102.2.2.1 bt102.2.2.2.1 bt102.2.2.2.2.1).bind fun bt113 => (some (bt113.1, bt113.2.1, bt113.2.2.1, bt113.2.2.2, true))) else (some (0, (⟨#[]⟩ : ByteArray), ([] : List ByteArray), ([] : List (S34)), false)))) = some (r1, r2, r3, r4, r5) := h
 clear h
 replace H := Option.bind_eq_some_iff.mp H
 obtain ⟨⟨t102, t103, t104, t105, t108, t111⟩, A20, H⟩ := H
 (try dsimp only at H)
 have A2 := mk0 A20
 clear A20
 by_cases c3 : t111 = true
 rotate_left
 ·replace c3 := Bool.eq_false_iff.mpr c3
  subst c3
  rw [if_neg (show ¬ (false = true) by decide)] at H
  simp only [Option.some.injEq, Prod.mk.injEq] at H
  obtain ⟨rfl, rfl, rfl, rfl, rfl⟩ := H
  go_enter Tryd.func24, Tryd.ntmps24
  go_wp2_with (first | ((with_reducible refine gate_dst (N := 2) rfl ?_); refine box_event ?hg (N := 2) ?hd (cs := #[.int .i64 0, .string (⟨#[]⟩ : ByteArray), .slice none 0 0, .slice none 0 0]) (t := 34) ?hr ?_; (case hd => rfl); (case hg => rfl); (case hr => exact zq32); intro gb101 hg w16 hbox hb; have BK101 := mk0 (hbox); have GW101 := mk0 ((zq63 : w.heap.size ≤ gb101)); have GE101 := mk0 ((zq63 : w.heap.size ≤ gb101)); replace HB := mk0 (below_step zq2 hb); clear hb hbox hg) | ((with_reducible refine gate_callee (f := 16) rfl ?_); refine goesL_ (some 8) rfl rfl Tryd.func16 zq28 rfl #[.string a0] rfl zq0 ?_; (with_reducible refine (spec_Places.calls k a0 t102 t103 t104 t105 t108 false _ A2.out).mono ?_); rintro e w17 ⟨v106, v109, rfl, ho0, ho1, hb⟩; refine ⟨_, rfl, ?_⟩; have HO107 := mk0 (Kd.R_lower ho0 (below_size zq20)); have HO110 := mk0 (Kd.R_lower ho1 (below_size zq20)); replace BK101 := mk0 (blk_below (g := gb101) (o := .cells #[.int .i64 0, .string (⟨#[]⟩ : ByteArray), .slice none 0 0, .slice none 0 0] 34 (0, 0)) zq9 hb); replace HB := mk0 (below_step zq20 hb); clear hb ho0 ho1) | ((with_reducible refine gate_dst (N := 4) rfl ?_); refine box_event ?hg (N := 4) ?hd (cs := #[.int .i64 0, .int .i64 0, .int .i64 0, .slice none 0 0, .slice none 0 0]) (t := 38) ?hr ?_; (case hd => rfl); (case hg => rfl); (case hr => exact zq32); intro gb112 hg w18 hbox hb; replace HO107 := mk0 (Kd.R_below (by (with_reducible repeat (first | apply Kd.R_alloc | apply Kd.R_drewN | apply Kd.R_drew)); exact HO107.out) hb); replace HO110 := mk0 (Kd.R_below (Kd.R_elderB (by (with_reducible repeat (first | apply Kd.R_alloc | apply Kd.R_drewN | apply Kd.R_drew)); exact HO110.out) gb112 (Nat.le_of_eq hg.symm)) hb); have BK112 := mk0 (hbox); have GW112 := mk0 ((zq73 : w.heap.size ≤ gb112)); have GE112 := mk0 ((zq73 : w.heap.size ≤ gb112)); replace HB := mk0 (below_step zq20 hb); have NB101_112 := mk0 ((zq69 : gb101 ≠ gb112)); have NB112_101 := mk0 ((zq70 : gb112 ≠ gb101)); replace BK101 := mk0 (blk_below (g := gb101) (o := .cells #[.int .i64 0, .string (⟨#[]⟩ : ByteArray), .slice none 0 0, .slice none 0 0] 34 (0, 0)) zq9 hb); clear hb hbox hg; have hnb19 := NB112_101.out; have hnc19 := NB101_112.out; have hcz20_0 : w18.cell? ⟨gb112, 0, none⟩ = some (.int .i64 0) := (blk_cell BK112.out 0).trans rfl; have hcz20_1 : w18.cell? ⟨gb112, 1, none⟩ = some (.int .i64 0) := (blk_cell BK112.out 1).trans rfl; have hcz20_2 : w18.cell? ⟨gb112, 2, none⟩ = some (.int .i64 0) := (blk_cell BK112.out 2).trans rfl; have hcz20_3 : w18.cell? ⟨gb112, 3, none⟩ = some (.slice none 0 0) := (blk_cell BK112.out 3).trans rfl; have hcz20_4 : w18.cell? ⟨gb112, 4, none⟩ = some (.slice none 0 0) := (blk_cell BK112.out 4).trans rfl; have hfz20_0 := blk_frozen BK112.out 0; have hfz20_1 := blk_frozen BK112.out 1; have hfz20_2 := blk_frozen BK112.out 2; have hfz20_3 := blk_frozen BK112.out 3; have hfz20_4 := blk_frozen BK112.out 4; obtain ⟨Ao21, co21, eo21⟩ := Kd.R_slice HO107.out; subst eo21; obtain ⟨Ao22, co22, eo22⟩ := Kd.R_slice HO110.out; subst eo22; have hcz23_0 : w18.cell? ⟨gb101, 0, none⟩ = some (.int .i64 0) := (blk_cell BK101.out 0).trans rfl; have hcz23_1 : w18.cell? ⟨gb101, 1, none⟩ = some (.string (⟨#[]⟩ : ByteArray)) := (blk_cell BK101.out 1).trans rfl; have hcz23_2 : w18.cell? ⟨gb101, 2, none⟩ = some (.slice none 0 0) := (blk_cell BK101.out 2).trans rfl; have hcz23_3 : w18.cell? ⟨gb101, 3, none⟩ = some (.slice none 0 0) := (blk_cell BK101.out 3).trans rfl; have hfz23_0 := blk_frozen BK101.out 0; have hfz23_1 := blk_frozen BK101.out 1; have hfz23_2 := blk_frozen BK101.out 2; have hfz23_3 := blk_frozen BK101.out 3))
  refine bodyPost_ret (results_ct rfl _ _ gb101 34 #[.int .i64 0, .string (⟨#[]⟩ : ByteArray), .slice none 0 0, .slice none 0 0] (0, 0) _ rfl (by (with_reducible repeat (first | refine blk_drewN ?_ _ | refine blk_drew ?_ | refine blk_alloc ?_ _)); refine blk_put (cs := #[.int .i64 0, .string (⟨#[]⟩ : ByteArray), .slice none 0 0, .slice none 0 0]) ?_ 3 _ rfl; (with_reducible repeat (first | refine blk_drewN ?_ _ | refine blk_drew ?_ | refine blk_alloc ?_ _)); refine blk_put (cs := #[.int .i64 0, .string (⟨#[]⟩ : ByteArray), .slice none 0 0, .slice none 0 0]) ?_ 2 _ rfl; (with_reducible repeat (first | refine blk_drewN ?_ _ | refine blk_drew ?_ | refine blk_alloc ?_ _)); refine blk_put (cs := #[.int .i64 0, .string (⟨#[]⟩ : ByteArray), .slice none 0 0, .slice none 0 0]) ?_ 1 _ rfl; (with_reducible repeat (first | refine blk_drewN ?_ _ | refine blk_drew ?_ | refine blk_alloc ?_ _)); refine blk_put (cs := #[.int .i64 0, .string (⟨#[]⟩ : ByteArray), .slice none 0 0, .slice none 0 0]) ?_ 0 _ rfl; (with_reducible repeat (first | refine blk_drewN ?_ _ | refine blk_drew ?_ | refine blk_alloc ?_ _)); refine blk_far ?_ NB101_112.out _; (with_reducible repeat (first | refine blk_drewN ?_ _ | refine blk_drew ?_ | refine blk_alloc ?_ _)); refine blk_far ?_ NB101_112.out _; (with_reducible repeat (first | refine blk_drewN ?_ _ | refine blk_drew ?_ | refine blk_alloc ?_ _)); refine blk_far ?_ NB101_112.out _; (with_reducible repeat (first | refine blk_drewN ?_ _ | refine blk_drew ?_ | refine blk_alloc ?_ _)); refine blk_far ?_ NB101_112.out _; (with_reducible repeat (first | refine blk_drewN ?_ _ | refine blk_drew ?_ | refine blk_alloc ?_ _)); refine blk_far ?_ NB101_112.out _; (with_reducible repeat (first | refine blk_drewN ?_ _ | refine blk_drew ?_ | refine blk_alloc ?_ _)); exact BK101.out) Tryd.underlying34 rfl zq28) rfl ?_
  exact ⟨_, _, by rfl, by exact Kd.R_nil _ _ _ _ _, by exact Kd.R_nil _ _ _ _ _, by repeat (first | (with_reducible first | exact HB.out | apply below_alloc | apply pw_below_drewN | apply below_drew1 | refine below_set ?_ GE101.out | refine below_set ?_ GE112.out) | exact HB.out)⟩
 subst c3
 rw [if_pos rfl] at H
 replace H := Option.bind_eq_some_iff.mp H
 obtain ⟨⟨t113, t114, t115, t118⟩, A40, H⟩ := H
 (try dsimp only at H)
 have A4 := mk0 A40
 clear A40
 simp only [Option.some.injEq, Prod.mk.injEq] at H
 obtain ⟨rfl, rfl, rfl, rfl, rfl⟩ := H
 go_enter Tryd.func24, Tryd.ntmps24
 go_wp2_with (first | ((with_reducible refine gate_dst (N := 2) rfl ?_); refine box_event ?hg (N := 2) ?hd (cs := #[.int .i64 0, .string (⟨#[]⟩ : ByteArray), .slice none 0 0, .slice none 0 0]) (t := 34) ?hr ?_; (case hd => rfl); (case hg => rfl); (case hr => exact zq32); intro gb101 hg w5 hbox hb; have BK101 := mk0 (hbox); have GW101 := mk0 ((zq63 : w.heap.size ≤ gb101)); have GE101 := mk0 ((zq63 : w.heap.size ≤ gb101)); replace HB := mk0 (below_step zq2 hb); clear hb hbox hg) | ((with_reducible refine gate_callee (f := 16) rfl ?_); refine goesL_ (some 8) rfl rfl Tryd.func16 zq28 rfl #[.string a0] rfl zq0 ?_; (with_reducible refine (spec_Places.calls k a0 t102 t103 t104 t105 t108 true _ A2.out).mono ?_); rintro e w6 ⟨v106, v109, rfl, ho0, ho1, hb⟩; refine ⟨_, rfl, ?_⟩; have HO107 := mk0 (Kd.R_lower ho0 (below_size zq20)); have HO110 := mk0 (Kd.R_lower ho1 (below_size zq20)); replace BK101 := mk0 (blk_below (g := gb101) (o := .cells #[.int .i64 0, .string (⟨#[]⟩ : ByteArray), .slice none 0 0, .slice none 0 0] 34 (0, 0)) zq9 hb); replace HB := mk0 (below_step zq20 hb); clear hb ho0 ho1) | ((with_reducible refine gate_dst (N := 4) rfl ?_); refine box_event ?hg (N := 4) ?hd (cs := #[.int .i64 0, .int .i64 0, .int .i64 0, .slice none 0 0, .slice none 0 0]) (t := 38) ?hr ?_; (case hd => rfl); (case hg => rfl); (case hr => exact zq32); intro gb112 hg w7 hbox hb; replace HO107 := mk0 (Kd.R_below (by (with_reducible repeat (first | apply Kd.R_alloc | apply Kd.R_drewN | apply Kd.R_drew)); exact HO107.out) hb); replace HO110 := mk0 (Kd.R_below (Kd.R_elderB (by (with_reducible repeat (first | apply Kd.R_alloc | apply Kd.R_drewN | apply Kd.R_drew)); exact HO110.out) gb112 (Nat.le_of_eq hg.symm)) hb); have BK112 := mk0 (hbox); have GW112 := mk0 ((zq73 : w.heap.size ≤ gb112)); have GE112 := mk0 ((zq73 : w.heap.size ≤ gb112)); replace HB := mk0 (below_step zq20 hb); have NB101_112 := mk0 ((zq69 : gb101 ≠ gb112)); have NB112_101 := mk0 ((zq70 : gb112 ≠ gb101)); replace BK101 := mk0 (blk_below (g := gb101) (o := .cells #[.int .i64 0, .string (⟨#[]⟩ : ByteArray), .slice none 0 0, .slice none 0 0] 34 (0, 0)) zq9 hb); clear hb hbox hg; have hnb8 := NB112_101.out; have hnc8 := NB101_112.out; have hcz9_0 : w7.cell? ⟨gb112, 0, none⟩ = some (.int .i64 0) := (blk_cell BK112.out 0).trans rfl; have hcz9_1 : w7.cell? ⟨gb112, 1, none⟩ = some (.int .i64 0) := (blk_cell BK112.out 1).trans rfl; have hcz9_2 : w7.cell? ⟨gb112, 2, none⟩ = some (.int .i64 0) := (blk_cell BK112.out 2).trans rfl; have hcz9_3 : w7.cell? ⟨gb112, 3, none⟩ = some (.slice none 0 0) := (blk_cell BK112.out 3).trans rfl; have hcz9_4 : w7.cell? ⟨gb112, 4, none⟩ = some (.slice none 0 0) := (blk_cell BK112.out 4).trans rfl; have hfz9_0 := blk_frozen BK112.out 0; have hfz9_1 := blk_frozen BK112.out 1; have hfz9_2 := blk_frozen BK112.out 2; have hfz9_3 := blk_frozen BK112.out 3; have hfz9_4 := blk_frozen BK112.out 4; obtain ⟨Ao10, co10, eo10⟩ := Kd.R_slice HO107.out; subst eo10; obtain ⟨Ao11, co11, eo11⟩ := Kd.R_slice HO110.out; subst eo11) | ((with_reducible refine gate_callee (f := 44) rfl ?_); refine goesL_ (some 16) rfl rfl Tryd.func44 zq28 rfl #[.string a0, .agg #[.int .i64 t102, .int .i64 t103, .int .i64 t104, .slice Ao10 t105.length co10, .slice Ao11 t108.length co11]] rfl zq0 ?_; (with_reducible refine (spec_Tree.calls k a0 t102 t103 t104 _ _ t105 _ _ t108 t113 t114 t115 t118 _ ?side1 ?side2 ?side3 ?side4 A4.out).mono ?_); (case side1 => refine (Kd.R_reads' (e := 122) (base := w.heap.size) (ok := fun k_ => True) (n := t105.length) (c := co10) ?_).2.2; exact zq44); (case side2 => exact (Kd.R_reads' HO107.out).2.1); (case side3 => refine (Kd.R_reads' (e := 38) (base := w.heap.size) (ok := fun k_ => (some k_ ≠ (.slice Ao10 t105.length co10 : Value).ownBlock ∧ k_ ≠ gb112)) (n := t108.length) (c := co11) ?_).2.2; exact zq42); (case side4 => exact (Kd.R_reads' HO110.out).2.1); rintro e w12 ⟨v116, v119, rfl, ho0, ho1, hb⟩; refine ⟨_, rfl, ?_⟩; replace HO107 := mk0 (Kd.R_below zq44 hb); replace HO110 := mk0 (Kd.R_below zq42 hb); have HO117 := mk0 (Kd.R_lower ho0 (below_size zq52)); have HO120 := mk0 (Kd.R_lower (Kd.R_newB ho1 (g := gb101) (o := .cells #[.int .i64 0, .string (⟨#[]⟩ : ByteArray), .slice none 0 0, .slice none 0 0] 34 (0, 0)) zq37) (below_size zq52)); replace BK101 := mk0 (blk_below (g := gb101) (o := .cells #[.int .i64 0, .string (⟨#[]⟩ : ByteArray), .slice none 0 0, .slice none 0 0] 34 (0, 0)) zq37 hb); replace BK112 := mk0 (blk_below (g := gb112) (o := .cells #[.int .i64 t102, .int .i64 t103, .int .i64 t104, .slice Ao10 t105.length co10, .slice Ao11 t108.length co11] 38 (0, 0)) (by (with_reducible repeat (first | refine blk_drewN ?_ _ | refine blk_drew ?_ | refine blk_alloc ?_ _)); refine blk_put (cs := #[.int .i64 t102, .int .i64 t103, .int .i64 t104, .slice Ao10 t105.length co10, .slice none 0 0]) ?_ 4 _ rfl; (with_reducible repeat (first | refine blk_drewN ?_ _ | refine blk_drew ?_ | refine blk_alloc ?_ _)); refine blk_put (cs := #[.int .i64 t102, .int .i64 t103, .int .i64 t104, .slice none 0 0, .slice none 0 0]) ?_ 3 _ rfl; (with_reducible repeat (first | refine blk_drewN ?_ _ | refine blk_drew ?_ | refine blk_alloc ?_ _)); refine blk_put (cs := #[.int .i64 t102, .int .i64 t103, .int .i64 0, .slice none 0 0, .slice none 0 0]) ?_ 2 _ rfl; (with_reducible repeat (first | refine blk_drewN ?_ _ | refine blk_drew ?_ | refine blk_alloc ?_ _)); refine blk_put (cs := #[.int .i64 t102, .int .i64 0, .int .i64 0, .slice none 0 0, .slice none 0 0]) ?_ 1 _ rfl; (with_reducible repeat (first | refine blk_drewN ?_ _ | refine blk_drew ?_ | refine blk_alloc ?_ _)); refine blk_put (cs := #[.int .i64 0, .int .i64 0, .int .i64 0, .slice none 0 0, .slice none 0 0]) ?_ 0 _ rfl; (with_reducible repeat (first | refine blk_drewN ?_ _ | refine blk_drew ?_ | refine blk_alloc ?_ _)); exact BK112.out) hb); replace HB := mk0 (below_step zq52 hb); clear hb ho0 ho1; have hcz13_0 : w12.cell? ⟨gb101, 0, none⟩ = some (.int .i64 0) := (blk_cell BK101.out 0).trans rfl; have hcz13_1 : w12.cell? ⟨gb101, 1, none⟩ = some (.string (⟨#[]⟩ : ByteArray)) := (blk_cell BK101.out 1).trans rfl; have hcz13_2 : w12.cell? ⟨gb101, 2, none⟩ = some (.slice none 0 0) := (blk_cell BK101.out 2).trans rfl; have hcz13_3 : w12.cell? ⟨gb101, 3, none⟩ = some (.slice none 0 0) := (blk_cell BK101.out 3).trans rfl; have hfz13_0 := blk_frozen BK101.out 0; have hfz13_1 := blk_frozen BK101.out 1; have hfz13_2 := blk_frozen BK101.out 2; have hfz13_3 := blk_frozen BK101.out 3; obtain ⟨Ao14, co14, eo14⟩ := Kd.R_slice HO117.out; subst eo14; obtain ⟨Ao15, co15, eo15⟩ := Kd.R_slice HO120.out; subst eo15))
 refine bodyPost_ret (results_ct rfl _ _ gb101 34 #[.int .i64 t113, .string t114, .slice Ao14 t115.length co14, .slice Ao15 t118.length co15] (0, 0) _ rfl (by (with_reducible repeat (first | refine blk_drewN ?_ _ | refine blk_drew ?_ | refine blk_alloc ?_ _)); refine blk_put (cs := #[.int .i64 t113, .string t114, .slice Ao14 t115.length co14, .slice none 0 0]) ?_ 3 _ rfl; (with_reducible repeat (first | refine blk_drewN ?_ _ | refine blk_drew ?_ | refine blk_alloc ?_ _)); refine blk_put (cs := #[.int .i64 t113, .string t114, .slice none 0 0, .slice none 0 0]) ?_ 2 _ rfl; (with_reducible repeat (first | refine blk_drewN ?_ _ | refine blk_drew ?_ | refine blk_alloc ?_ _)); refine blk_put (cs := #[.int .i64 t113, .string (⟨#[]⟩ : ByteArray), .slice none 0 0, .slice none 0 0]) ?_ 1 _ rfl; (with_reducible repeat (first | refine blk_drewN ?_ _ | refine blk_drew ?_ | refine blk_alloc ?_ _)); refine blk_put (cs := #[.int .i64 0, .string (⟨#[]⟩ : ByteArray), .slice none 0 0, .slice none 0 0]) ?_ 0 _ rfl; (with_reducible repeat (first | refine blk_drewN ?_ _ | refine blk_drew ?_ | refine blk_alloc ?_ _)); exact BK101.out) Tryd.underlying34 rfl zq28) rfl ?_
 exact ⟨_, _, by rfl, by (with_reducible repeat (first | apply Kd.R_alloc | apply Kd.R_drewN | apply Kd.R_drew)); exact Kd.R_mono (Kd.R_far (p := ⟨gb101, 3, none⟩) (Kd.R_far (p := ⟨gb101, 2, none⟩) (Kd.R_far (p := ⟨gb101, 1, none⟩) (Kd.R_far (p := ⟨gb101, 0, none⟩) (Kd.R_types HO117.out BK101.out zq49) (fun _ hk => hk.2) (.int .i64 t113)) (fun _ hk => hk.2) (.string t114)) (fun _ hk => hk.2) (.slice Ao14 t115.length co14)) (fun _ hk => hk.2) (.slice Ao15 t118.length co15)) (fun _ hk => trivial), by (with_reducible repeat (first | apply Kd.R_alloc | apply Kd.R_drewN | apply Kd.R_drew)); exact Kd.R_mono (Kd.R_far (p := ⟨gb101, 3, none⟩) (Kd.R_far (p := ⟨gb101, 2, none⟩) (Kd.R_far (p := ⟨gb101, 1, none⟩) (Kd.R_far (p := ⟨gb101, 0, none⟩) (Kd.R_mono HO120.out (fun k_ hk => (⟨hk, hk.2⟩ : _ ∧ k_ ≠ gb101))) (fun _ hk => hk.2) (.int .i64 t113)) (fun _ hk => hk.2) (.string t114)) (fun _ hk => hk.2) (.slice Ao14 t115.length co14)) (fun _ hk => hk.2) (.slice Ao15 t118.length co15)) (fun _ hk => hk.1.1), by repeat (first | (with_reducible first | exact HB.out | apply below_alloc | apply pw_below_drewN | apply below_drew1 | refine below_set ?_ GE101.out | refine below_set ?_ GE112.out) | exact HB.out)⟩
def errors_New.f (a0 : ByteArray) : Option (Option Int) := some (some 0)
theorem errors_New.calls (a0 : ByteArray) (r : Option Int) (w : World) (h : errors_New.f a0 = some r) :
 Calls Tryd.prog 54 #[.string a0] w fun e w' => ∃ z_r : Option Int, Zk z_r r ∧ e = .returned (errW z_r) ∧ Below w.heap.size w w' := by
 obtain rfl := Option.some.inj h
 go_enter Tryd.func54, Tryd.ntmps54
 go_wp2
 go_ret
 obtain ⟨z, hz, e⟩ := errW_mk 126 w.heap.size (by omega)
 exact ⟨z, hz, by rw [← e]; rfl, (Below.refl _ w).alloc (Nat.le_refl _) _⟩
mutual
def fastjson_skipWSSlow.j0 : Nat → ByteArray → Bool → Option (ByteArray)
  | 0, _, _ => none
  | k + 1, x0, x26 => if x26 = true then (some x0) else (fastjson_skipWSSlow.l0 k x0 1)
def fastjson_skipWSSlow.l0 : Nat → ByteArray → Int → Option (ByteArray)
  | 0, _, _ => none
  | k + 1, x0, x3 => if x3 < (x0.size : Int) then (if 0 ≤ x3 then (if (bt x0 x3) = 32 then (fastjson_skipWSSlow.l0 k x0 (wrap64 (x3 + 1))) else (if (bt x0 x3) = 10 then (fastjson_skipWSSlow.l0 k x0 (wrap64 (x3 + 1))) else (if (bt x0 x3) = 9 then (fastjson_skipWSSlow.l0 k x0 (wrap64 (x3 + 1))) else (if (bt x0 x3) = 13 then (fastjson_skipWSSlow.l0 k x0 (wrap64 (x3 + 1))) else (if x3 ≤ (x0.size : Int) then (some (x0.extract (x3 : Int).toNat x0.size)) else (none)))))) else (none)) else (some (⟨#[]⟩ : ByteArray))
end
def fastjson_skipWSSlow.f (k : Nat) (a0 : ByteArray) : Option (ByteArray) := if (a0.size : Int) = 0 then (fastjson_skipWSSlow.j0 k a0 true) else (if 0 < (a0.size : Int) then (if (bt a0 0) = 32 then (fastjson_skipWSSlow.j0 k a0 false) else (if (bt a0 0) = 10 then (fastjson_skipWSSlow.j0 k a0 false) else (if (bt a0 0) = 9 then (fastjson_skipWSSlow.j0 k a0 false) else (fastjson_skipWSSlow.j0 k a0 ((bt a0 0) != 13))))) else (none))
theorem fastjson_skipWSSlow.mono_l : ∀ k, (∀ y0 y1, LeO (fastjson_skipWSSlow.j0 k y0 y1) (fastjson_skipWSSlow.j0 (k + 1) y0 y1)) ∧ (∀ y0 y1, LeO (fastjson_skipWSSlow.l0 k y0 y1) (fastjson_skipWSSlow.l0 (k + 1) y0 y1))
 | 0 => ⟨fun _ _ r h => by simp [fastjson_skipWSSlow.j0] at h, fun _ _ r h => by simp [fastjson_skipWSSlow.l0] at h⟩
 | k + 1 => by
  obtain ⟨ih0, ih1⟩ := fastjson_skipWSSlow.mono_l k
  refine ⟨?_, ?_⟩
  ·intro y0 y1
   unfold fastjson_skipWSSlow.j0
   repeat' first
   | (with_reducible exact ih0 _ _)
   | (with_reducible exact ih1 _ _)
   | (with_reducible exact LeO.refl _)
   | (with_reducible exact LeO.none _)
   | (with_reducible refine LeO.ite ?_ ?_)
   | (with_reducible refine LeO.bind ?_ (fun _ => ?_))
   | exact ih0 _ _
   | exact ih1 _ _
   | exact LeO.none _
   | refine LeO.ite ?_ ?_
   | refine LeO.bind ?_ (fun _ => ?_)
  ·intro y0 y1
   unfold fastjson_skipWSSlow.l0
   repeat' first
   | (with_reducible exact ih0 _ _)
   | (with_reducible exact ih1 _ _)
   | (with_reducible exact LeO.refl _)
   | (with_reducible exact LeO.none _)
   | (with_reducible refine LeO.ite ?_ ?_)
   | (with_reducible refine LeO.bind ?_ (fun _ => ?_))
   | exact ih0 _ _
   | exact ih1 _ _
   | exact LeO.none _
   | refine LeO.ite ?_ ?_
   | refine LeO.bind ?_ (fun _ => ?_)
theorem fastjson_skipWSSlow.mono : ∀ a0 k, LeO (fastjson_skipWSSlow.f k a0) (fastjson_skipWSSlow.f (k + 1) a0) := by
 intro a0 k
 obtain ⟨ih0, ih1⟩ := fastjson_skipWSSlow.mono_l k
 unfold fastjson_skipWSSlow.f
 repeat' first
  | (with_reducible exact ih0 _ _)
  | (with_reducible exact ih1 _ _)
  | (with_reducible exact LeO.refl _)
  | (with_reducible exact LeO.none _)
  | (with_reducible refine LeO.ite ?_ ?_)
  | (with_reducible refine LeO.bind ?_ (fun _ => ?_))
  | exact ih0 _ _
  | exact ih1 _ _
  | exact LeO.none _
  | refine LeO.ite ?_ ?_
  | refine LeO.bind ?_ (fun _ => ?_)
set_option maxHeartbeats 8000000 in
set_option maxRecDepth 100000 in
theorem fastjson_skipWSSlow.calls (k : Nat) (a0 : ByteArray) (r : ByteArray) (w : World) (h : fastjson_skipWSSlow.f k a0 = some r) :
 Calls Tryd.prog 96 #[.string a0] w fun e w' => e = .returned (.string r) ∧ Drawn0 w w' := by
 have H : (if (a0.size : Int) = 0 then (fastjson_skipWSSlow.j0 k a0 true) else (if 0 < (a0.size : Int) then (if (bt a0 0) = 32 then (fastjson_skipWSSlow.j0 k a0 false) else (if (bt a0 0) = 10 then (fastjson_skipWSSlow.j0 k a0 false) else (if (bt a0 0) = 9 then (fastjson_skipWSSlow.j0 k a0 false) else (fastjson_skipWSSlow.j0 k a0 ((bt a0 0) != 13))))) else (none))) = some r := h
 clear h
 have HC2 := mk0 H
 clear H
 go_enter Tryd.func96, Tryd.ntmps96
 go_upto_region 1 with (fail)
 go_cut [26] (fun v26 wc => ∃ (kq : Nat) (x26_1 : Bool), v26 = .bool x26_1 ∧ Aside0 (fastjson_skipWSSlow.j0 kq a0 x26_1 = some r) ∧ Aside0 (kq ≤ k) ∧ Drawn0 w wc)
 case first =>
  have H := HC2.out
  clear HC2
  by_cases c3 : (a0.size : Int) = 0
  ·rw [if_pos c3] at H
   have c3b0 : ((a0.size : Int) == 0) = true := beq_iff_eq.mpr c3
   have c3b1 : ((a0.size : Int) != 0) = false := bne_eq_false_iff_eq.mpr c3
   clear c3
   (skip)
   have H' := mk0 H
   clear H
   go_wp2
   go_meet
   case rel => exact ⟨_, (true), (by rfl), H', ⟨by omega⟩, by repeat (first | exact Drawn0.refl _ | apply Drawn0.step)⟩
  rw [if_neg c3] at H
  have c3b0 : ((a0.size : Int) == 0) = false := beq_eq_false_iff_ne.mpr c3
  have c3b1 : ((a0.size : Int) != 0) = true := bne_iff_ne.mpr c3
  (skip)
  by_cases c4 : 0 < (a0.size : Int)
  rotate_left
  ·rw [if_neg c4] at H
   exact absurd H (by simp)
  rw [if_pos c4] at H
  have c4b0 : decide (0 < (a0.size : Int)) = true := decide_eq_true c4
  have c4b1 : decide (0 < a0.size) = true := decide_eq_true (by omega)
  clear c4
  by_cases c6 : (bt a0 0) = 32
  ·rw [if_pos c6] at H
   have c6b0 : ((bt a0 0) == 32) = true := beq_iff_eq.mpr c6
   have c6b1 : ((bt a0 0) != 32) = false := bne_eq_false_iff_eq.mpr c6
   clear c6
   have H' := mk0 H
   clear H
   have p5 : 0 ≤ (0 : Int) := (by omega)
   have q5 : 0 < a0.size := (by have : (0 : Int) < (a0.size : Int) := of_decide_eq_true zq5; omega)
   have hx5 : ∀ h : 0 < a0.size, ((a0[0]'h).toNat : Int) = bt a0 0 := bt_at a0 0
   clear p5
   have qi5 : (0 < (a0.size : Int)) = True := eq_true (of_decide_eq_true zq5)
   replace q5 := eq_true q5
   go_wp2
   go_meet
   case rel => exact ⟨_, (false), (by rfl), H', ⟨by omega⟩, by repeat (first | exact Drawn0.refl _ | apply Drawn0.step)⟩
  rw [if_neg c6] at H
  have c6b0 : ((bt a0 0) == 32) = false := beq_eq_false_iff_ne.mpr c6
  have c6b1 : ((bt a0 0) != 32) = true := bne_iff_ne.mpr c6
  by_cases c8 : (bt a0 0) = 10
  ·rw [if_pos c8] at H
   have c8b0 : ((bt a0 0) == 10) = true := beq_iff_eq.mpr c8
   have c8b1 : ((bt a0 0) != 10) = false := bne_eq_false_iff_eq.mpr c8
   clear c8
   have H' := mk0 H
   clear H
   have p5 : 0 ≤ (0 : Int) := (by omega)
   have q5 : 0 < a0.size := (by have : (0 : Int) < (a0.size : Int) := of_decide_eq_true zq5; omega)
   have hx5 : ∀ h : 0 < a0.size, ((a0[0]'h).toNat : Int) = bt a0 0 := bt_at a0 0
   clear p5
   have qi5 : (0 < (a0.size : Int)) = True := eq_true (of_decide_eq_true zq5)
   replace q5 := eq_true q5
   have p7 : 0 ≤ (0 : Int) := (by omega)
   have q7 : 0 < a0.size := (by have : (0 : Int) < (a0.size : Int) := of_decide_eq_true zq5; omega)
   have hx7 : ∀ h : 0 < a0.size, ((a0[0]'h).toNat : Int) = bt a0 0 := bt_at a0 0
   clear p7
   have qi7 : (0 < (a0.size : Int)) = True := eq_true (of_decide_eq_true zq5)
   replace q7 := eq_true q7
   go_wp2
   go_meet
   case rel => exact ⟨_, (false), (by rfl), H', ⟨by omega⟩, by repeat (first | exact Drawn0.refl _ | apply Drawn0.step)⟩
  rw [if_neg c8] at H
  have c8b0 : ((bt a0 0) == 10) = false := beq_eq_false_iff_ne.mpr c8
  have c8b1 : ((bt a0 0) != 10) = true := bne_iff_ne.mpr c8
  by_cases c10 : (bt a0 0) = 9
  ·rw [if_pos c10] at H
   have c10b0 : ((bt a0 0) == 9) = true := beq_iff_eq.mpr c10
   have c10b1 : ((bt a0 0) != 9) = false := bne_eq_false_iff_eq.mpr c10
   clear c10
   have H' := mk0 H
   clear H
   have p5 : 0 ≤ (0 : Int) := (by omega)
   have q5 : 0 < a0.size := (by have : (0 : Int) < (a0.size : Int) := of_decide_eq_true zq5; omega)
   have hx5 : ∀ h : 0 < a0.size, ((a0[0]'h).toNat : Int) = bt a0 0 := bt_at a0 0
   clear p5
   have qi5 : (0 < (a0.size : Int)) = True := eq_true (of_decide_eq_true zq5)
   replace q5 := eq_true q5
   have p7 : 0 ≤ (0 : Int) := (by omega)
   have q7 : 0 < a0.size := (by have : (0 : Int) < (a0.size : Int) := of_decide_eq_true zq5; omega)
   have hx7 : ∀ h : 0 < a0.size, ((a0[0]'h).toNat : Int) = bt a0 0 := bt_at a0 0
   clear p7
   have qi7 : (0 < (a0.size : Int)) = True := eq_true (of_decide_eq_true zq5)
   replace q7 := eq_true q7
   have p9 : 0 ≤ (0 : Int) := (by omega)
   have q9 : 0 < a0.size := (by have : (0 : Int) < (a0.size : Int) := of_decide_eq_true zq5; omega)
   have hx9 : ∀ h : 0 < a0.size, ((a0[0]'h).toNat : Int) = bt a0 0 := bt_at a0 0
   clear p9
   have qi9 : (0 < (a0.size : Int)) = True := eq_true (of_decide_eq_true zq5)
   replace q9 := eq_true q9
   go_wp2
   go_meet
   case rel => exact ⟨_, (false), (by rfl), H', ⟨by omega⟩, by repeat (first | exact Drawn0.refl _ | apply Drawn0.step)⟩
  rw [if_neg c10] at H
  have c10b0 : ((bt a0 0) == 9) = false := beq_eq_false_iff_ne.mpr c10
  have c10b1 : ((bt a0 0) != 9) = true := bne_iff_ne.mpr c10
  have H' := mk0 H
  clear H
  have p5 : 0 ≤ (0 : Int) := (by omega)
  have q5 : 0 < a0.size := (by have : (0 : Int) < (a0.size : Int) := of_decide_eq_true zq5; omega)
  have hx5 : ∀ h : 0 < a0.size, ((a0[0]'h).toNat : Int) = bt a0 0 := bt_at a0 0
  clear p5
  have qi5 : (0 < (a0.size : Int)) = True := eq_true (of_decide_eq_true zq5)
  replace q5 := eq_true q5
  have p7 : 0 ≤ (0 : Int) := (by omega)
  have q7 : 0 < a0.size := (by have : (0 : Int) < (a0.size : Int) := of_decide_eq_true zq5; omega)
  have hx7 : ∀ h : 0 < a0.size, ((a0[0]'h).toNat : Int) = bt a0 0 := bt_at a0 0
  clear p7
  have qi7 : (0 < (a0.size : Int)) = True := eq_true (of_decide_eq_true zq5)
  replace q7 := eq_true q7
  have p9 : 0 ≤ (0 : Int) := (by omega)
  have q9 : 0 < a0.size := (by have : (0 : Int) < (a0.size : Int) := of_decide_eq_true zq5; omega)
  have hx9 : ∀ h : 0 < a0.size, ((a0[0]'h).toNat : Int) = bt a0 0 := bt_at a0 0
  clear p9
  have qi9 : (0 < (a0.size : Int)) = True := eq_true (of_decide_eq_true zq5)
  replace q9 := eq_true q9
  have p11 : 0 ≤ (0 : Int) := (by omega)
  have q11 : 0 < a0.size := (by have : (0 : Int) < (a0.size : Int) := of_decide_eq_true zq5; omega)
  have hx11 : ∀ h : 0 < a0.size, ((a0[0]'h).toNat : Int) = bt a0 0 := bt_at a0 0
  clear p11
  have qi11 : (0 < (a0.size : Int)) = True := eq_true (of_decide_eq_true zq5)
  replace q11 := eq_true q11
  go_wp2
  go_meet
  case rel => exact ⟨_, (((bt a0 0) != 13)), (by rfl), H', ⟨by omega⟩, by repeat (first | exact Drawn0.refl _ | apply Drawn0.step)⟩
 case rest =>
  clear HC2
  obtain ⟨kq, x26_1, rfl, HA, HJ1, ⟨mc1, rfl⟩⟩ := hcut
  cases kq with
  | zero => exact absurd HA.out (by simp [fastjson_skipWSSlow.j0])
  | succ kj1 =>
   have H := HA.out
   clear HA
   simp only [fastjson_skipWSSlow.j0] at H
   by_cases c12 : x26_1 = true
   ·subst c12
    rw [if_pos rfl] at H
    obtain rfl := Option.some.inj H
    go_wp2
    go_ret
    exact ⟨by rfl, by repeat (first | exact Drawn0.refl _ | apply Drawn0.step)⟩
   replace c12 := Bool.eq_false_iff.mpr c12
   subst c12
   rw [if_neg (show ¬ (false = true) by decide)] at H
   have H' := mk0 H
   clear H
   go_wp2
   go_loopg [3] kj1 (fun kq v3 w' => ∃ (x3_2 : Int), v3 = .int .i64 x3_2 ∧ Aside0 (fastjson_skipWSSlow.l0 kq a0 x3_2 = some r) ∧ Aside0 (kq ≤ kj1) ∧ Drawn0 w w')
   case atStart => exact ⟨(1), (by rfl), H', ⟨Nat.le_refl _⟩, by repeat (first | exact Drawn0.refl _ | apply Drawn0.step)⟩
   case round =>
    clear H'
    obtain ⟨x3_2, rfl, HA, HK2, ⟨m2, rfl⟩⟩ := hrel
    cases gk with
    | zero => exact absurd HA.out (by simp [fastjson_skipWSSlow.l0])
    | succ k2 =>
     have H := HA.out
     clear HA
     simp only [fastjson_skipWSSlow.l0] at H
     by_cases c13 : x3_2 < (a0.size : Int)
     rotate_left
     ·rw [if_neg c13] at H
      have c13b0 : decide (x3_2 < (a0.size : Int)) = false := decide_eq_false c13
      clear c13
      obtain rfl := Option.some.inj H
      go_wp2
      go_ret
      exact ⟨by rfl, by repeat (first | exact Drawn0.refl _ | apply Drawn0.step)⟩
     rw [if_pos c13] at H
     have c13b0 : decide (x3_2 < (a0.size : Int)) = true := decide_eq_true c13
     clear c13
     by_cases c14 : 0 ≤ x3_2
     rotate_left
     ·rw [if_neg c14] at H
      exact absurd H (by simp)
     rw [if_pos c14] at H
     have c14b0 : decide (0 ≤ x3_2) = true := decide_eq_true c14
     clear c14
     by_cases c16 : (bt a0 x3_2) = 32
     ·rw [if_pos c16] at H
      have c16b0 : ((bt a0 x3_2) == 32) = true := beq_iff_eq.mpr c16
      have c16b1 : ((bt a0 x3_2) != 32) = false := bne_eq_false_iff_eq.mpr c16
      clear c16
      have H' := mk0 H
      clear H
      have p15 : 0 ≤ (x3_2 : Int) := of_decide_eq_true zq5
      have q15 : x3_2 < (a0.size : Int) := of_decide_eq_true zq5
      have hx15 := bt_at a0 x3_2
      replace p15 := eq_true p15
      replace q15 := eq_true q15
      go_wp2
      go_roundg k2
      case measure => have := HJ1.out; have := HK2.out; omega
      case rel => exact ⟨(wrap64 (x3_2 + 1)), (by rfl), H', ⟨by have := HJ1.out; have := HK2.out; omega⟩, by repeat (first | exact Drawn0.refl _ | apply Drawn0.step)⟩
     rw [if_neg c16] at H
     have c16b0 : ((bt a0 x3_2) == 32) = false := beq_eq_false_iff_ne.mpr c16
     have c16b1 : ((bt a0 x3_2) != 32) = true := bne_iff_ne.mpr c16
     by_cases c18 : (bt a0 x3_2) = 10
     ·rw [if_pos c18] at H
      have c18b0 : ((bt a0 x3_2) == 10) = true := beq_iff_eq.mpr c18
      have c18b1 : ((bt a0 x3_2) != 10) = false := bne_eq_false_iff_eq.mpr c18
      clear c18
      have H' := mk0 H
      clear H
      have p15 : 0 ≤ (x3_2 : Int) := of_decide_eq_true zq5
      have q15 : x3_2 < (a0.size : Int) := of_decide_eq_true zq5
      have hx15 := bt_at a0 x3_2
      replace p15 := eq_true p15
      replace q15 := eq_true q15
      have p17 : 0 ≤ (x3_2 : Int) := of_decide_eq_true zq5
      have q17 : x3_2 < (a0.size : Int) := of_decide_eq_true zq5
      have hx17 := bt_at a0 x3_2
      replace p17 := eq_true p17
      replace q17 := eq_true q17
      go_wp2
      go_roundg k2
      case measure => have := HJ1.out; have := HK2.out; omega
      case rel => exact ⟨(wrap64 (x3_2 + 1)), (by rfl), H', ⟨by have := HJ1.out; have := HK2.out; omega⟩, by repeat (first | exact Drawn0.refl _ | apply Drawn0.step)⟩
     rw [if_neg c18] at H
     have c18b0 : ((bt a0 x3_2) == 10) = false := beq_eq_false_iff_ne.mpr c18
     have c18b1 : ((bt a0 x3_2) != 10) = true := bne_iff_ne.mpr c18
     by_cases c20 : (bt a0 x3_2) = 9
     ·rw [if_pos c20] at H
      have c20b0 : ((bt a0 x3_2) == 9) = true := beq_iff_eq.mpr c20
      have c20b1 : ((bt a0 x3_2) != 9) = false := bne_eq_false_iff_eq.mpr c20
      clear c20
      have H' := mk0 H
      clear H
      have p15 : 0 ≤ (x3_2 : Int) := of_decide_eq_true zq5
      have q15 : x3_2 < (a0.size : Int) := of_decide_eq_true zq5
      have hx15 := bt_at a0 x3_2
      replace p15 := eq_true p15
      replace q15 := eq_true q15
      have p17 : 0 ≤ (x3_2 : Int) := of_decide_eq_true zq5
      have q17 : x3_2 < (a0.size : Int) := of_decide_eq_true zq5
      have hx17 := bt_at a0 x3_2
      replace p17 := eq_true p17
      replace q17 := eq_true q17
      have p19 : 0 ≤ (x3_2 : Int) := of_decide_eq_true zq5
      have q19 : x3_2 < (a0.size : Int) := of_decide_eq_true zq5
      have hx19 := bt_at a0 x3_2
      replace p19 := eq_true p19
      replace q19 := eq_true q19
      go_wp2
      go_roundg k2
      case measure => have := HJ1.out; have := HK2.out; omega
      case rel => exact ⟨(wrap64 (x3_2 + 1)), (by rfl), H', ⟨by have := HJ1.out; have := HK2.out; omega⟩, by repeat (first | exact Drawn0.refl _ | apply Drawn0.step)⟩
     rw [if_neg c20] at H
     have c20b0 : ((bt a0 x3_2) == 9) = false := beq_eq_false_iff_ne.mpr c20
     have c20b1 : ((bt a0 x3_2) != 9) = true := bne_iff_ne.mpr c20
     by_cases c22 : (bt a0 x3_2) = 13
     ·rw [if_pos c22] at H
      have c22b0 : ((bt a0 x3_2) == 13) = true := beq_iff_eq.mpr c22
      have c22b1 : ((bt a0 x3_2) != 13) = false := bne_eq_false_iff_eq.mpr c22
      clear c22
      have H' := mk0 H
      clear H
      have p15 : 0 ≤ (x3_2 : Int) := of_decide_eq_true zq5
      have q15 : x3_2 < (a0.size : Int) := of_decide_eq_true zq5
      have hx15 := bt_at a0 x3_2
      replace p15 := eq_true p15
      replace q15 := eq_true q15
      have p17 : 0 ≤ (x3_2 : Int) := of_decide_eq_true zq5
      have q17 : x3_2 < (a0.size : Int) := of_decide_eq_true zq5
      have hx17 := bt_at a0 x3_2
      replace p17 := eq_true p17
      replace q17 := eq_true q17
      have p19 : 0 ≤ (x3_2 : Int) := of_decide_eq_true zq5
      have q19 : x3_2 < (a0.size : Int) := of_decide_eq_true zq5
      have hx19 := bt_at a0 x3_2
      replace p19 := eq_true p19
      replace q19 := eq_true q19
      have p21 : 0 ≤ (x3_2 : Int) := of_decide_eq_true zq5
      have q21 : x3_2 < (a0.size : Int) := of_decide_eq_true zq5
      have hx21 := bt_at a0 x3_2
      replace p21 := eq_true p21
      replace q21 := eq_true q21
      go_wp2
      go_roundg k2
      case measure => have := HJ1.out; have := HK2.out; omega
      case rel => exact ⟨(wrap64 (x3_2 + 1)), (by rfl), H', ⟨by have := HJ1.out; have := HK2.out; omega⟩, by repeat (first | exact Drawn0.refl _ | apply Drawn0.step)⟩
     rw [if_neg c22] at H
     have c22b0 : ((bt a0 x3_2) == 13) = false := beq_eq_false_iff_ne.mpr c22
     have c22b1 : ((bt a0 x3_2) != 13) = true := bne_iff_ne.mpr c22
     have c23b0 := eq_true (of_decide_eq_true zq5 : 0 ≤ x3_2)
     by_cases c24 : x3_2 ≤ (a0.size : Int)
     rotate_left
     ·rw [if_neg c24] at H
      exact absurd H (by simp)
     rw [if_pos c24] at H
     have c24b0 := eq_true c24
     have c24b1 : decide (x3_2 ≤ (a0.size : Int)) = true := decide_eq_true c24
     clear c24
     obtain rfl := Option.some.inj H
     have p15 : 0 ≤ (x3_2 : Int) := of_decide_eq_true zq5
     have q15 : x3_2 < (a0.size : Int) := of_decide_eq_true zq5
     have hx15 := bt_at a0 x3_2
     replace p15 := eq_true p15
     replace q15 := eq_true q15
     have p17 : 0 ≤ (x3_2 : Int) := of_decide_eq_true zq5
     have q17 : x3_2 < (a0.size : Int) := of_decide_eq_true zq5
     have hx17 := bt_at a0 x3_2
     replace p17 := eq_true p17
     replace q17 := eq_true q17
     have p19 : 0 ≤ (x3_2 : Int) := of_decide_eq_true zq5
     have q19 : x3_2 < (a0.size : Int) := of_decide_eq_true zq5
     have hx19 := bt_at a0 x3_2
     replace p19 := eq_true p19
     replace q19 := eq_true q19
     have p21 : 0 ≤ (x3_2 : Int) := of_decide_eq_true zq5
     have q21 : x3_2 < (a0.size : Int) := of_decide_eq_true zq5
     have hx21 := bt_at a0 x3_2
     replace p21 := eq_true p21
     replace q21 := eq_true q21
     go_wp2
     go_ret
     exact ⟨by rfl, by repeat (first | exact Drawn0.refl _ | apply Drawn0.step)⟩
def fastjson_skipWS.f (k : Nat) (a0 : ByteArray) : Option (ByteArray) := if (a0.size : Int) = 0 then (some a0) else (if 0 < (a0.size : Int) then (if (bt a0 0) > 32 then (some a0) else ((fastjson_skipWSSlow.f k a0).bind fun t101 => (some t101))) else (none))
theorem fastjson_skipWS.mono : ∀ a0 k, LeO (fastjson_skipWS.f k a0) (fastjson_skipWS.f (k + 1) a0) := by
 intro a0 k
 unfold fastjson_skipWS.f
 repeat' first
  | (with_reducible exact fastjson_skipWSSlow.mono _ _)
  | (with_reducible exact LeO.refl _)
  | (with_reducible exact LeO.none _)
  | (with_reducible refine LeO.ite ?_ ?_)
  | (with_reducible refine LeO.bind ?_ (fun _ => ?_))
  | exact fastjson_skipWSSlow.mono _ _
  | exact LeO.none _
  | refine LeO.ite ?_ ?_
  | refine LeO.bind ?_ (fun _ => ?_)
set_option maxHeartbeats 8000000 in
set_option maxRecDepth 100000 in
theorem fastjson_skipWS.calls (k : Nat) (a0 : ByteArray) (r : ByteArray) (w : World) (h : fastjson_skipWS.f k a0 = some r) :
 Calls Tryd.prog 74 #[.string a0] w fun e w' => e = .returned (.string r) ∧ Drawn0 w w' := by
 have H : (if (a0.size : Int) = 0 then (some a0) else (if 0 < (a0.size : Int) then (if (bt a0 0) > 32 then (some a0) else ((fastjson_skipWSSlow.f k a0).bind fun t101 => (some t101))) else (none))) = some r := h
 clear h
 by_cases c2 : (a0.size : Int) = 0
 ·rw [if_pos c2] at H
  have c2b0 : ((a0.size : Int) == 0) = true := beq_iff_eq.mpr c2
  have c2b1 : ((a0.size : Int) != 0) = false := bne_eq_false_iff_eq.mpr c2
  clear c2
  obtain rfl := Option.some.inj H
  go_enter Tryd.func74, Tryd.ntmps74
  go_wp2
  go_ret
  exact ⟨by rfl, by repeat (first | exact Drawn0.refl _ | apply Drawn0.step)⟩
 rw [if_neg c2] at H
 have c2b0 : ((a0.size : Int) == 0) = false := beq_eq_false_iff_ne.mpr c2
 have c2b1 : ((a0.size : Int) != 0) = true := bne_iff_ne.mpr c2
 by_cases c3 : 0 < (a0.size : Int)
 rotate_left
 ·rw [if_neg c3] at H
  exact absurd H (by simp)
 rw [if_pos c3] at H
 have c3b0 : decide (0 < (a0.size : Int)) = true := decide_eq_true c3
 have c3b1 : decide (0 < a0.size) = true := decide_eq_true (by omega)
 clear c3
 by_cases c5 : (bt a0 0) > 32
 ·rw [if_pos c5] at H
  have c5b0 : decide (32 < (bt a0 0)) = true := decide_eq_true c5
  clear c5
  obtain rfl := Option.some.inj H
  have p4 : 0 ≤ (0 : Int) := (by omega)
  have q4 : 0 < a0.size := (by have : (0 : Int) < (a0.size : Int) := of_decide_eq_true zq5; omega)
  have hx4 : ∀ h : 0 < a0.size, ((a0[0]'h).toNat : Int) = bt a0 0 := bt_at a0 0
  clear p4
  have qi4 : (0 < (a0.size : Int)) = True := eq_true (of_decide_eq_true zq5)
  replace q4 := eq_true q4
  go_enter Tryd.func74, Tryd.ntmps74
  go_wp2
  go_ret
  exact ⟨by rfl, by repeat (first | exact Drawn0.refl _ | apply Drawn0.step)⟩
 rw [if_neg c5] at H
 have c5b0 : decide (32 < (bt a0 0)) = false := decide_eq_false c5
 clear c5
 replace H := Option.bind_eq_some_iff.mp H
 obtain ⟨t101, A60, H⟩ := H
 (try dsimp only at H)
 have A6 := mk0 A60
 clear A60
 obtain rfl := Option.some.inj H
 have p4 : 0 ≤ (0 : Int) := (by omega)
 have q4 : 0 < a0.size := (by have : (0 : Int) < (a0.size : Int) := of_decide_eq_true zq5; omega)
 have hx4 : ∀ h : 0 < a0.size, ((a0[0]'h).toNat : Int) = bt a0 0 := bt_at a0 0
 clear p4
 have qi4 : (0 < (a0.size : Int)) = True := eq_true (of_decide_eq_true zq5)
 replace q4 := eq_true q4
 go_enter Tryd.func74, Tryd.ntmps74
 go_wp2_with (first | ((with_reducible refine gate_callee (f := 96) rfl ?_); refine goesL_ (some 13) rfl rfl Tryd.func96 zq28 rfl #[.string a0] rfl zq0 ?_; (with_reducible refine (fastjson_skipWSSlow.calls k a0 t101 _ A6.out).mono ?_); rintro e w' ⟨rfl, ⟨nd, rfl⟩⟩; refine ⟨_, rfl, ?_⟩))
 go_ret
 exact ⟨by rfl, by repeat (first | exact Drawn0.refl _ | apply Drawn0.step)⟩
def loB (c : Int) : Int := bits .or .u8 c 32
def hxd (c : Int) : Option Int := if 48 ≤ c ∧ c ≤ 57 then some (c - 48) else if 97 ≤ loB c ∧ loB c ≤ 102 then some (loB c - 87) else none
def hxs : Int → List UInt8 → Option Int
  | acc, [] => some acc
  | acc, c :: r => (hxd (c.toNat : Int)).bind fun d => hxs (acc * 16 + d) r
def hxT : Option Int → Value
  | some v => .tuple #[.int .u64 v, .nilIface]
  | none => .tuple #[.int .u64 0, .iface 148 (.int .i64 2)]
theorem lower_calls (c : Int) (w : World) : Calls Tryd.prog 111 #[.int .u8 c] w fun e w' => e = .returned (.int .u8 (loB c)) ∧ w' = w := by
 go_enter Tryd.func111, Tryd.ntmps111
 go_wp2
 go_ret
 exact ⟨rfl, rfl⟩
set_option maxHeartbeats 32000000 in
set_option maxRecDepth 100000 in
theorem pu16 (t : ByteArray) (hsz : t.size = 4) (w : World) :
 Calls Tryd.prog 84 #[.string t, .int .i64 16, .int .i64 16] w fun e w' => e = .returned (hxT (hxs 0 t.data.toList)) ∧ w' = Lib.bytesWorld w 5 t := by
 have hemp : t.toList.isEmpty = false := by
  rw [← decide_eq_emptyBytes]
  exact decide_eq_false (fun h => by rw [h] at hsz; revert hsz; decide)
 have hcv := Lib.run_convert_string_bytes (P := Tryd.prog) w 9 29 5 t (u := .string) Tryd.underlying9 Tryd.underlying29 Tryd.underlying5
 have hB : ∀ j, j < t.size → (Lib.bytesWorld w 5 t).cell? ⟨w.heap.size, j, none⟩ = some (.int .u8 (t.data.toList.getD j 0).toNat) := fun j hj => Lib.bytesWorld_cell w 5 t j hj
 obtain ⟨W1, hW1⟩ : ∃ W1, W1 = Lib.bytesWorld w 5 t := ⟨_, rfl⟩
 rw [← hW1] at hcv hB ⊢
 clear hW1
 obtain ⟨bs, hL⟩ : ∃ bs, bs = t.data.toList := ⟨_, rfl⟩
 have hLn : bs.length = t.size := by rw [hL, Lib.size_eq]
 rw [← hL] at hB ⊢
 clear hL
 go_enter Tryd.func84, Tryd.ntmps84
 go_wp2
 go_loop [12, 13, 101] (fun vu vn vi => ∃ (k : Nat) (a : Int), vu = .bool false ∧ vn = .int .u64 a ∧ vi = .int .i64 k ∧ k ≤ t.size ∧ Hid (0 ≤ a ∧ a < 16 ^ k ∧ hxs 0 bs = hxs a (bs.drop k)))
  (fun _ _ vi => t.size - (intOf vi).toNat)
 case atStart => exact ⟨0, 0, rfl, rfl, rfl, by omega, Lib.hid ⟨by omega, by decide, rfl⟩⟩
 case round =>
  obtain ⟨k, a, rfl, rfl, rfl, hk, hh⟩ := hrel
  obtain ⟨ha, hacc, hdec⟩ := hh.out
  clear hh
  have h4 : k ≤ 4 := by omega
  have hle : a < 65536 := by
   have h1 : (16 : Nat) ^ k ≤ 16 ^ 4 := Nat.pow_le_pow_right zq49 h4
   have h2 : ((16 ^ k : Nat) : Int) ≤ ((16 ^ 4 : Nat) : Int) := by exact_mod_cast h1
   have h3 : (16 : Int) ^ k ≤ 65536 := by simpa using h2
   omega
  by_cases hkn : k < t.size
  rotate_left
  ·have hkk : k = t.size := by omega
   subst hkk
   have hF : hxs a (bs.drop t.size) = some a := by rw [List.drop_eq_nil_of_le (by omega)]; rfl
   rw [hF] at hdec
   clear hF hacc
   go_wp2
   go_ret2
   exact ⟨rfl, rfl⟩
  have hc := hB k hkn
  have hdrop : bs.drop k = bs[k]'(by omega) :: bs.drop (k + 1) := List.drop_eq_getElem_cons (by omega)
  have hget : bs.getD k 0 = bs[k]'(by omega) := by simp [List.getD, List.getElem?_eq_getElem (show k < bs.length by omega)]
  rw [hdrop] at hdec
  rw [hget] at hc
  generalize bs[k]'(by omega) = c at hc hdec
  have hc256 : c.toNat < 256 := c.toNat_lt
  clear hB hdrop hget
  have hle2 : a < 4096 := by
   have h1 : (16 : Nat) ^ k ≤ 16 ^ 3 := Nat.pow_le_pow_right zq49 (by omega)
   have h2 : ((16 ^ k : Nat) : Int) ≤ ((16 ^ 3 : Nat) : Int) := by exact_mod_cast h1
   have h3 : (16 : Int) ^ k ≤ 4096 := by simpa using h2
   omega
  have hv0 : 0 ≤ loB (c.toNat : Int) := bits_lo_u8 .or (c.toNat : Int) 32
  have hv1 : loB (c.toNat : Int) ≤ 255 := by have := bits_hi_u8 .or (c.toNat : Int) 32; unfold loB; omega
  by_cases hdig : 48 ≤ c.toNat ∧ c.toNat ≤ 57
  ·obtain ⟨hd0, hd1⟩ := hdig
   have hF : hxd (c.toNat : Int) = some ((c.toNat : Int) - 48) := by rw [hxd, if_pos (by omega)]
   have HN : Hid (0 ≤ a * 16 + ((c.toNat : Int) - 48) ∧ a * 16 + ((c.toNat : Int) - 48) < 16 ^ (k + 1) ∧ hxs 0 bs = hxs (a * 16 + ((c.toNat : Int) - 48)) (bs.drop (k + 1))) := Lib.hid ⟨by omega, by rw [Int.pow_succ]; omega, by rw [hdec, hxs, hF, Option.bind_some]⟩
   have icut : a < 1152921504606846976 := by omega
   have iov : a * 16 + ((c.toNat : Int) - 48) ≤ 65535 := by omega
   clear hF hdec hacc hv0 hv1
   go_wp2
   refine ⟨⟨k + 1, a * 16 + ((c.toNat : Int) - 48), rfl, (by rfl), (by rfl), by omega, HN⟩, by simp [intOf]; omega⟩
  have low : ∀ W, Calls Tryd.prog 111 #[.int .u8 (c.toNat : Int)] W fun e w' => e = .returned (.int .u8 (loB (c.toNat : Int))) ∧ w' = W := fun W => lower_calls _ W
  have hX0 : ∀ v, hxd (c.toNat : Int) = v → hxs 0 bs = v.bind fun d => hxs (a * 16 + d) (bs.drop (k + 1)) := fun v e => by rw [hdec, hxs, e]
  have hY : hxd (c.toNat : Int) = if 97 ≤ loB (c.toNat : Int) ∧ loB (c.toNat : Int) ≤ 102 then some (loB (c.toNat : Int) - 87) else none := by rw [hxd, if_neg (by omega)]
  have hX := hX0 _ hY
  clear hX0 hY hdec
  have h95L : (c.toNat : Int) = 95 → loB (c.toNat : Int) = 127 := fun e => by
   rw [e]
   decide
  generalize loB (c.toNat : Int) = L at hv0 hv1 low hX h95L
  by_cases hlet : 97 ≤ L ∧ L ≤ 122
  rotate_left
  ·rw [if_neg (by omega), Option.bind_none] at hX
   clear hacc
   by_cases h95 : (c.toNat : Int) = 95
   rotate_left
   ·go_wp2_with (go_at_call 111; refine (low _).mono ?_; rintro e w' ⟨rfl, rfl⟩)
    all_goals go_ret2
    all_goals first | exact ⟨rfl, rfl⟩ | exact ⟨by rw [hX]; rfl, rfl⟩
   have hl := h95L h95
   subst hl
   clear h95L
   rw [h95] at low hc
   go_wp2_with (go_at_call 111; refine (low _).mono ?_; rintro e w' ⟨rfl, rfl⟩)
   all_goals go_ret2
   all_goals first | exact ⟨rfl, rfl⟩ | exact ⟨by rw [hX]; rfl, rfl⟩
  obtain ⟨hl0, hl1⟩ := hlet
  have hn95 : ¬ (c.toNat : Int) = 95 := fun e => by
   have := h95L e
   omega
  clear h95L
  by_cases hx : L ≤ 102
  rotate_left
  ·rw [if_neg (by omega), Option.bind_none] at hX
   have hx' : 103 ≤ L := by omega
   clear hacc hx
   go_wp2_with (go_at_call 111; refine (low _).mono ?_; rintro e w' ⟨rfl, rfl⟩)
   all_goals go_ret2
   all_goals first | exact ⟨rfl, rfl⟩ | exact ⟨by rw [hX]; rfl, rfl⟩
  rw [if_pos ⟨hl0, hx⟩, Option.bind_some] at hX
  have HN : Hid (0 ≤ a * 16 + (L - 87) ∧ a * 16 + (L - 87) < 16 ^ (k + 1) ∧ hxs 0 bs = hxs (a * 16 + (L - 87)) (bs.drop (k + 1))) := Lib.hid ⟨by omega, by rw [Int.pow_succ]; omega, hX⟩
  have icut : a < 1152921504606846976 := by omega
  have iov : a * 16 + (L - 87) ≤ 65535 := by omega
  clear hX hacc
  go_wp2_with (go_at_call 111; refine (low _).mono ?_; rintro e w' ⟨rfl, rfl⟩)
  all_goals refine ⟨⟨k + 1, a * 16 + (L - 87), rfl, (by (congr 1; omega)), (by rfl), by omega, HN⟩, by simp [intOf]; omega⟩
theorem pub16 (t : ByteArray) (hsz : t.size = 4) (ev : Value) (w : World) (hv : w.cell? ⟨13, 0, none⟩ = some ev) (hev : ev = .nilIface ∨ ∃ te pe, ev = .iface te pe) :
 Calls Tryd.prog 55 #[.string t, .int .i64 16, .int .i64 16] w fun e w' => (∀ v, hxs 0 t.data.toList = some v → e = .returned (.tuple #[.int .u64 v, .nilIface])) ∧ (hxs 0 t.data.toList = none → ∃ N, e = .returned (.tuple #[.int .u64 0, .iface 149 (.pointer (some ⟨N, 0, none⟩))])) ∧ Below w.heap.size w w' := by
 have hG : (13 : Nat) < w.heap.size := Lib.lt_of_cell hv
 have hI := pu16 t hsz w
 have hT : ∀ W, W.cell? ⟨13, 0, none⟩ = some ev → Calls Tryd.prog 85 #[.string ⟨#[80, 97, 114, 115, 101, 85, 105, 110, 116]⟩, .string t, .int .i64 16, .int .i64 16, .iface 148 (.int .i64 2)] W fun e w' => ∃ N, e = .returned (.iface 149 (.pointer (some ⟨N, 0, none⟩))) ∧ Below W.heap.size W w' := fun W hW => by
  refine (show Calls Tryd.prog 85 #[.string ⟨#[80, 97, 114, 115, 101, 85, 105, 110, 116]⟩, .string t, .int .i64 16, .int .i64 16, .iface 148 (.int .i64 2)] W _ from AnyPu.strconv_toError_syntax (ρ := Tryd.laysPu14_ren) { Tryd.laysPu14 with } ⟨#[80, 97, 114, 115, 101, 85, 105, 110, 116]⟩ t 16 16 ev W (by omega) hW hev).mono ?_
  rintro e w' ⟨N, rfl, _, _, hb⟩
  exact ⟨N, rfl, hb⟩
 have hb1 : Below w.heap.size w (Lib.bytesWorld w 5 t) := Lib.bytesWorld_below _ _ _
 have hv1 : (Lib.bytesWorld w 5 t).cell? ⟨13, 0, none⟩ = some ev := (hb1.cell (show (⟨13, 0, none⟩ : Addr).block < w.heap.size from hG)).trans hv
 generalize Lib.bytesWorld w 5 t = W1 at hI hb1 hv1
 cases hx : hxs 0 t.data.toList with
 | some v =>
  rw [hx] at hI
  have hI : Calls Tryd.prog 84 #[.string t, .int .i64 16, .int .i64 16] w fun e w' => e = .returned (.tuple #[.int .u64 v, .nilIface]) ∧ w' = W1 := hI
  clear hT
  go_enter Tryd.func55, Tryd.ntmps55
  go_wp2_with (go_at_call 84; refine hI.mono ?_; rintro e W2 ⟨rfl, rfl⟩)
  go_wp2
  go_ret2
  exact ⟨fun v' e => (by cases e; rfl), fun e => (by cases e), hb1⟩
 | none =>
  rw [hx] at hI
  have hI : Calls Tryd.prog 84 #[.string t, .int .i64 16, .int .i64 16] w fun e w' => e = .returned (.tuple #[.int .u64 0, .iface 148 (.int .i64 2)]) ∧ w' = W1 := hI
  have hT := hT W1 hv1
  go_enter Tryd.func55, Tryd.ntmps55
  go_wp2_with (go_at_call 84; refine hI.mono ?_; rintro e W2 ⟨rfl, rfl⟩)
  go_wp2_with (go_at_call 85; refine hT.mono ?_; rintro e W3 ⟨N, rfl, h3⟩)
  go_wp2
  go_ret2
  exact ⟨fun v' e => (by cases e), fun _ => ⟨N, rfl⟩, hb1.trans (h3.mono hb1.size)⟩
def strconv_ParseUint_55.f (a0 : ByteArray) (a1 a2 : Int) : Option (Int × Option Int) :=
  if a1 = 10 ∧ a2 = 64 ∧ a0.size ≤ 281474976710656 then some (match Lib.parseUintB 64 a0.data.toList with | .ok u => ((u : Int), none) | .range => (18446744073709551615, some 0) | _ => (0, some 0))
  else if a1 = 16 ∧ a2 = 16 ∧ a0.size = 4 then some (match hxs 0 a0.data.toList with | some v => (v, none) | none => (0, some 0)) else none
theorem strconv_ParseUint_55.calls (a0 : ByteArray) (a1 a2 : Int) (r1 : Int) (r2 : Option Int) (w : World) (hG : Laid w) (h : strconv_ParseUint_55.f a0 a1 a2 = some (r1, r2)) :
 Calls Tryd.prog 55 #[.string a0, .int .i64 a1, .int .i64 a2] w fun e w' => ∃ z_r2 : Option Int, Zk z_r2 r2 ∧ e = .returned (.tuple #[.int .u64 r1, errW z_r2]) ∧ Below w.heap.size w w' := by
 simp only [strconv_ParseUint_55.f] at h
 split at h
 case isFalse =>
  split at h
  case isFalse => cases h
  case isTrue hc =>
  obtain ⟨rfl, rfl, hs⟩ := hc
  obtain ⟨te, pe, hes⟩ := hG.errS
  refine (pub16 a0 hs _ w hes (Or.inr ⟨_, _, rfl⟩)).mono ?_
  rintro e w' ⟨h1, h2, hb⟩
  cases hx : hxs 0 a0.data.toList with
  | some v =>
   rw [hx] at h
   cases h
   exact ⟨none, rfl, h1 _ hx, hb⟩
  | none =>
   rw [hx] at h
   cases h
   obtain ⟨N, rfl⟩ := h2 hx
   obtain ⟨z, hz, e⟩ := errW_mk 149 N zq49
   exact ⟨z, hz, by rw [← e], hb⟩
 case isTrue hc =>
 obtain ⟨rfl, rfl, hs⟩ := hc
 obtain ⟨te, pe, hes⟩ := hG.errS
 obtain ⟨te', pe', her⟩ := hG.errR
 cases hp : Lib.parseUintB 64 a0.data.toList with
 | ok u =>
  rw [hp] at h
  cases h
  refine (Tryd.strconv_ParseUint_10_at64_ok a0 (by omega) u hp w).mono ?_
  rintro e w' ⟨rfl, hw⟩
  refine ⟨none, rfl, rfl, ?_⟩
  rcases hw with rfl | rfl
  ·exact Below.refl _ _
  exact Lib.bytesWorld_below _ _ _
 | range =>
  rw [hp] at h
  cases h
  refine (Tryd.strconv_ParseUint_10_at64_range a0 hs hp _ w her (Or.inr ⟨_, _, rfl⟩)).mono ?_
  rintro e w' ⟨N, rfl, _, _, hb⟩
  obtain ⟨z, hz, e⟩ := errW_mk 149 N zq49
  exact ⟨z, hz, by rw [← e], hb⟩
 | _ =>
  rw [hp] at h
  cases h
  refine (Tryd.strconv_ParseUint_10_at64_syntax a0 hs hp _ w hes (Or.inr ⟨_, _, rfl⟩)).mono ?_
  rintro e w' ⟨N, rfl, _, _, hb⟩
  obtain ⟨z, hz, e⟩ := errW_mk 149 N zq49
  exact ⟨z, hz, by rw [← e], hb⟩
def strings_IndexByte.f (a0 : ByteArray) (a1 : Int) : Option Int := some (Lib.indexByte a0.data.toList a1.toNat.toUInt8)
theorem strings_IndexByte.calls (a0 : ByteArray) (a1 : Int) (r : Int) (w : World) (h : strings_IndexByte.f a0 a1 = some r) :
 Calls Tryd.prog 123 #[.string a0, .int .u8 a1] w fun e w' => e = .returned (.int .i64 r) ∧ Drawn0 w w' := by
 obtain rfl := Option.some.inj h
 refine (Tryd.strings_IndexByte a0 a1 w).mono ?_
 rintro e w' ⟨rfl, rfl⟩
 exact ⟨rfl, Drawn0.refl _⟩
mutual
def fastjson_parseRawString.j0 : Nat → ByteArray → Int → Bool → Option (ByteArray × ByteArray × Option Int)
  | 0, _, _, _ => none
  | k + 1, x0, x5, x22 => if x22 = true then (if 0 ≤ x5 then (if x5 ≤ (x0.size : Int) then (if 0 ≤ (wrap64 (x5 + 1)) then (if (wrap64 (x5 + 1)) ≤ (x0.size : Int) then (some (x0.extract 0 (x5 : Int).toNat, x0.extract ((wrap64 (x5 + 1)) : Int).toNat x0.size, none)) else (none)) else (none)) else (none)) else (none)) else (fastjson_parseRawString.l0 k x0 x5 x0)
def fastjson_parseRawString.l0 : Nat → ByteArray → Int → ByteArray → Option (ByteArray × ByteArray × Option Int)
  | 0, _, _, _ => none
  | k + 1, x0, x5, x6 => fastjson_parseRawString.l1 k x0 x5 x6 (wrap64 (x5 - 1))
def fastjson_parseRawString.j3 : Nat → ByteArray → Int → ByteArray → Int → Option (ByteArray × ByteArray × Option Int)
  | 0, _, _, _, _ => none
  | k + 1, x0, x5, x6, x7 => if (Int.tmod (IntKind.u64.wrap (wrap64 (x5 - x7))) 2) = 0 then (if 0 ≤ (wrap64 ((wrap64 ((x6.size : Int) - (x0.size : Int))) + x5)) then (if (wrap64 ((wrap64 ((x6.size : Int) - (x0.size : Int))) + x5)) ≤ (x6.size : Int) then (if 0 ≤ (wrap64 (x5 + 1)) then (if (wrap64 (x5 + 1)) ≤ (x0.size : Int) then (some (x6.extract 0 ((wrap64 ((wrap64 ((x6.size : Int) - (x0.size : Int))) + x5)) : Int).toNat, x0.extract ((wrap64 (x5 + 1)) : Int).toNat x0.size, none)) else (none)) else (none)) else (none)) else (none)) else (if 0 ≤ (wrap64 (x5 + 1)) then (if (wrap64 (x5 + 1)) ≤ (x0.size : Int) then ((strings_IndexByte.f (x0.extract ((wrap64 (x5 + 1)) : Int).toNat x0.size) 34).bind fun t103 => (if t103 < 0 then ((errors_New.f (⟨#[109, 105, 115, 115, 105, 110, 103, 32, 99, 108, 111, 115, 105, 110, 103]⟩ : ByteArray)).bind fun t104 => (some (x6, (⟨#[]⟩ : ByteArray), t104))) else (if t103 = 0 then (if 0 ≤ (wrap64 ((wrap64 ((x6.size : Int) - ((x0.extract ((wrap64 (x5 + 1)) : Int).toNat x0.size).size : Int))) + t103)) then (if (wrap64 ((wrap64 ((x6.size : Int) - ((x0.extract ((wrap64 (x5 + 1)) : Int).toNat x0.size).size : Int))) + t103)) ≤ (x6.size : Int) then (if 0 ≤ (wrap64 (t103 + 1)) then (if (wrap64 (t103 + 1)) ≤ ((x0.extract ((wrap64 (x5 + 1)) : Int).toNat x0.size).size : Int) then (some (x6.extract 0 ((wrap64 ((wrap64 ((x6.size : Int) - ((x0.extract ((wrap64 (x5 + 1)) : Int).toNat x0.size).size : Int))) + t103)) : Int).toNat, (x0.extract ((wrap64 (x5 + 1)) : Int).toNat x0.size).extract ((wrap64 (t103 + 1)) : Int).toNat (x0.extract ((wrap64 (x5 + 1)) : Int).toNat x0.size).size, none)) else (none)) else (none)) else (none)) else (none)) else (if 0 ≤ (wrap64 (t103 - 1)) then (if (wrap64 (t103 - 1)) < ((x0.extract ((wrap64 (x5 + 1)) : Int).toNat x0.size).size : Int) then (if (bt (x0.extract ((wrap64 (x5 + 1)) : Int).toNat x0.size) (wrap64 (t103 - 1))) = 92 then (fastjson_parseRawString.l0 k (x0.extract ((wrap64 (x5 + 1)) : Int).toNat x0.size) t103 x6) else (if 0 ≤ (wrap64 ((wrap64 ((x6.size : Int) - ((x0.extract ((wrap64 (x5 + 1)) : Int).toNat x0.size).size : Int))) + t103)) then (if (wrap64 ((wrap64 ((x6.size : Int) - ((x0.extract ((wrap64 (x5 + 1)) : Int).toNat x0.size).size : Int))) + t103)) ≤ (x6.size : Int) then (if 0 ≤ (wrap64 (t103 + 1)) then (if (wrap64 (t103 + 1)) ≤ ((x0.extract ((wrap64 (x5 + 1)) : Int).toNat x0.size).size : Int) then (some (x6.extract 0 ((wrap64 ((wrap64 ((x6.size : Int) - ((x0.extract ((wrap64 (x5 + 1)) : Int).toNat x0.size).size : Int))) + t103)) : Int).toNat, (x0.extract ((wrap64 (x5 + 1)) : Int).toNat x0.size).extract ((wrap64 (t103 + 1)) : Int).toNat (x0.extract ((wrap64 (x5 + 1)) : Int).toNat x0.size).size, none)) else (none)) else (none)) else (none)) else (none))) else (none)) else (none))))) else (none)) else (none))
def fastjson_parseRawString.l1 : Nat → ByteArray → Int → ByteArray → Int → Option (ByteArray × ByteArray × Option Int)
  | 0, _, _, _, _ => none
  | k + 1, x0, x5, x6, x7 => if x7 > 0 then (if 0 ≤ (wrap64 (x7 - 1)) then (if (wrap64 (x7 - 1)) < (x0.size : Int) then (if (bt x0 (wrap64 (x7 - 1))) = 92 then (fastjson_parseRawString.l1 k x0 x5 x6 (wrap64 (x7 - 1))) else (fastjson_parseRawString.j3 k x0 x5 x6 x7)) else (none)) else (none)) else (fastjson_parseRawString.j3 k x0 x5 x6 x7)
end
def fastjson_parseRawString.f (k : Nat) (a0 : ByteArray) : Option (ByteArray × ByteArray × Option Int) := (strings_IndexByte.f a0 34).bind fun t101 => (if t101 < 0 then ((errors_New.f (⟨#[109, 105, 115, 115, 105, 110, 103, 32, 99, 108, 111, 115, 105, 110, 103]⟩ : ByteArray)).bind fun t102 => (some (a0, (⟨#[]⟩ : ByteArray), t102))) else (if t101 = 0 then (fastjson_parseRawString.j0 k a0 t101 true) else (if 0 ≤ (wrap64 (t101 - 1)) then (if (wrap64 (t101 - 1)) < (a0.size : Int) then (fastjson_parseRawString.j0 k a0 t101 ((bt a0 (wrap64 (t101 - 1))) != 92)) else (none)) else (none))))
theorem fastjson_parseRawString.mono_l : ∀ k, (∀ y0 y1 y2, LeO (fastjson_parseRawString.j0 k y0 y1 y2) (fastjson_parseRawString.j0 (k + 1) y0 y1 y2)) ∧ (∀ y0 y1 y2, LeO (fastjson_parseRawString.l0 k y0 y1 y2) (fastjson_parseRawString.l0 (k + 1) y0 y1 y2)) ∧ (∀ y0 y1 y2 y3, LeO (fastjson_parseRawString.j3 k y0 y1 y2 y3) (fastjson_parseRawString.j3 (k + 1) y0 y1 y2 y3)) ∧ (∀ y0 y1 y2 y3, LeO (fastjson_parseRawString.l1 k y0 y1 y2 y3) (fastjson_parseRawString.l1 (k + 1) y0 y1 y2 y3))
 | 0 => ⟨fun _ _ _ r h => by simp [fastjson_parseRawString.j0] at h, fun _ _ _ r h => by simp [fastjson_parseRawString.l0] at h, fun _ _ _ _ r h => by simp [fastjson_parseRawString.j3] at h, fun _ _ _ _ r h => by simp [fastjson_parseRawString.l1] at h⟩
 | k + 1 => by
  obtain ⟨ih0, ih1, ih2, ih3⟩ := fastjson_parseRawString.mono_l k
  refine ⟨?_, ?_, ?_, ?_⟩
  ·intro y0 y1 y2
   unfold fastjson_parseRawString.j0
   repeat' first
   | (with_reducible exact ih0 _ _ _)
   | (with_reducible exact ih1 _ _ _)
   | (with_reducible exact ih2 _ _ _ _)
   | (with_reducible exact ih3 _ _ _ _)
   | (with_reducible exact LeO.refl _)
   | (with_reducible exact LeO.none _)
   | (with_reducible refine LeO.ite ?_ ?_)
   | (with_reducible refine LeO.bind ?_ (fun _ => ?_))
   | exact ih0 _ _ _
   | exact ih1 _ _ _
   | exact ih2 _ _ _ _
   | exact ih3 _ _ _ _
   | exact LeO.none _
   | refine LeO.ite ?_ ?_
   | refine LeO.bind ?_ (fun _ => ?_)
  ·intro y0 y1 y2
   unfold fastjson_parseRawString.l0
   repeat' first
   | (with_reducible exact ih0 _ _ _)
   | (with_reducible exact ih1 _ _ _)
   | (with_reducible exact ih2 _ _ _ _)
   | (with_reducible exact ih3 _ _ _ _)
   | (with_reducible exact LeO.refl _)
   | (with_reducible exact LeO.none _)
   | (with_reducible refine LeO.ite ?_ ?_)
   | (with_reducible refine LeO.bind ?_ (fun _ => ?_))
   | exact ih0 _ _ _
   | exact ih1 _ _ _
   | exact ih2 _ _ _ _
   | exact ih3 _ _ _ _
   | exact LeO.none _
   | refine LeO.ite ?_ ?_
   | refine LeO.bind ?_ (fun _ => ?_)
  ·intro y0 y1 y2 y3
   unfold fastjson_parseRawString.j3
   repeat' first
   | (with_reducible exact ih0 _ _ _)
   | (with_reducible exact ih1 _ _ _)
   | (with_reducible exact ih2 _ _ _ _)
   | (with_reducible exact ih3 _ _ _ _)
   | (with_reducible exact LeO.refl _)
   | (with_reducible exact LeO.none _)
   | (with_reducible refine LeO.ite ?_ ?_)
   | (with_reducible refine LeO.bind ?_ (fun _ => ?_))
   | exact ih0 _ _ _
   | exact ih1 _ _ _
   | exact ih2 _ _ _ _
   | exact ih3 _ _ _ _
   | exact LeO.none _
   | refine LeO.ite ?_ ?_
   | refine LeO.bind ?_ (fun _ => ?_)
  ·intro y0 y1 y2 y3
   unfold fastjson_parseRawString.l1
   repeat' first
   | (with_reducible exact ih0 _ _ _)
   | (with_reducible exact ih1 _ _ _)
   | (with_reducible exact ih2 _ _ _ _)
   | (with_reducible exact ih3 _ _ _ _)
   | (with_reducible exact LeO.refl _)
   | (with_reducible exact LeO.none _)
   | (with_reducible refine LeO.ite ?_ ?_)
   | (with_reducible refine LeO.bind ?_ (fun _ => ?_))
   | exact ih0 _ _ _
   | exact ih1 _ _ _
   | exact ih2 _ _ _ _
   | exact ih3 _ _ _ _
   | exact LeO.none _
   | refine LeO.ite ?_ ?_
   | refine LeO.bind ?_ (fun _ => ?_)
theorem fastjson_parseRawString.mono : ∀ a0 k, LeO (fastjson_parseRawString.f k a0) (fastjson_parseRawString.f (k + 1) a0) := by
 intro a0 k
 obtain ⟨ih0, ih1, ih2, ih3⟩ := fastjson_parseRawString.mono_l k
 unfold fastjson_parseRawString.f
 repeat' first
  | (with_reducible exact ih0 _ _ _)
  | (with_reducible exact ih1 _ _ _)
  | (with_reducible exact ih2 _ _ _ _)
  | (with_reducible exact ih3 _ _ _ _)
  | (with_reducible exact LeO.refl _)
  | (with_reducible exact LeO.none _)
  | (with_reducible refine LeO.ite ?_ ?_)
  | (with_reducible refine LeO.bind ?_ (fun _ => ?_))
  | exact ih0 _ _ _
  | exact ih1 _ _ _
  | exact ih2 _ _ _ _
  | exact ih3 _ _ _ _
  | exact LeO.none _
  | refine LeO.ite ?_ ?_
  | refine LeO.bind ?_ (fun _ => ?_)
set_option maxHeartbeats 8000000 in
set_option maxRecDepth 100000 in
theorem fastjson_parseRawString.calls (k : Nat) (a0 : ByteArray) (r1 : ByteArray) (r2 : ByteArray) (r3 : Option Int) (w : World) (h : fastjson_parseRawString.f k a0 = some (r1, r2, r3)) :
 Calls Tryd.prog 100 #[.string a0] w fun e w' => ∃ z_r3 : Option Int, Zk z_r3 r3 ∧ e = .returned (.tuple #[.string r1, .string r2, errW z_r3]) ∧ Below w.heap.size w w' := by
 have HB := mk0 (Below.refl w.heap.size w)
 have H : ((strings_IndexByte.f a0 34).bind fun t101 => (if t101 < 0 then ((errors_New.f (⟨#[109, 105, 115, 115, 105, 110, 103, 32, 99, 108, 111, 115, 105, 110, 103]⟩ : ByteArray)).bind fun t102 => (some (a0, (⟨#[]⟩ : ByteArray), t102))) else (if t101 = 0 then (fastjson_parseRawString.j0 k a0 t101 true) else (if 0 ≤ (wrap64 (t101 - 1)) then (if (wrap64 (t101 - 1)) < (a0.size : Int) then (fastjson_parseRawString.j0 k a0 t101 ((bt a0 (wrap64 (t101 - 1))) != 92)) else (none)) else (none))))) = some (r1, r2, r3) := h
 clear h
 replace H := Option.bind_eq_some_iff.mp H
 obtain ⟨t101, A20, H⟩ := H
 (try dsimp only at H)
 have A2 := mk0 A20
 clear A20
 by_cases c3 : t101 < 0
 ·rw [if_pos c3] at H
  have c3b0 : decide (t101 < 0) = true := decide_eq_true c3
  clear c3
  replace H := Option.bind_eq_some_iff.mp H
  obtain ⟨t102, A40, H⟩ := H
  (try dsimp only at H)
  have A4 := mk0 A40
  clear A40
  simp only [Option.some.injEq, Prod.mk.injEq] at H
  obtain ⟨rfl, rfl, rfl⟩ := H
  go_enter Tryd.func100, Tryd.ntmps100
  go_wp2_with (first | (go_at_call 123; (with_reducible refine (strings_IndexByte.calls a0 34 t101 _ A2.out).mono ?_); rintro e w' ⟨rfl, ⟨nd, rfl⟩⟩; (try first | exact ⟨rfl, _, World.drewN_drewN _ _ _⟩ | exact ⟨rfl, _, Eq.trans (World.drewN_drewN _ _ _) (congrArg (World.drewN _) (Nat.add_assoc _ _ _))⟩)) | (go_at_call 54; (with_reducible refine (errors_New.calls (⟨#[109, 105, 115, 115, 105, 110, 103, 32, 99, 108, 111, 115, 105, 110, 103]⟩ : ByteArray) t102 _ A4.out).mono ?_); rintro e w5 ⟨z_t102, hz_t102, rfl, hb⟩; have Hz_t102 := mk0 hz_t102; clear hz_t102; have n0_ := mk0 (below_step zq2 hb); clear HB; have HB := n0_; clear n0_ hb; (try simp only [errW_none, errW_some])))
  repeat (go_quiet (first | (go_at_call 123; (with_reducible refine (strings_IndexByte.calls a0 34 t101 _ A2.out).mono ?_); rintro e w' ⟨rfl, ⟨nd, rfl⟩⟩; (try first | exact ⟨rfl, _, World.drewN_drewN _ _ _⟩ | exact ⟨rfl, _, Eq.trans (World.drewN_drewN _ _ _) (congrArg (World.drewN _) (Nat.add_assoc _ _ _))⟩)) | (go_at_call 54; (with_reducible refine (errors_New.calls (⟨#[109, 105, 115, 115, 105, 110, 103, 32, 99, 108, 111, 115, 105, 110, 103]⟩ : ByteArray) t102 _ A4.out).mono ?_); rintro e w5 ⟨z_t102, hz_t102, rfl, hb⟩; have Hz_t102 := mk0 hz_t102; clear hz_t102; replace HB := mk0 (below_step zq2 hb); (try simp only [errW_none, errW_some]))); try go_wp2_with (first | (go_at_call 123; (with_reducible refine (strings_IndexByte.calls a0 34 t101 _ A2.out).mono ?_); rintro e w' ⟨rfl, ⟨nd, rfl⟩⟩; (try first | exact ⟨rfl, _, World.drewN_drewN _ _ _⟩ | exact ⟨rfl, _, Eq.trans (World.drewN_drewN _ _ _) (congrArg (World.drewN _) (Nat.add_assoc _ _ _))⟩)) | (go_at_call 54; (with_reducible refine (errors_New.calls (⟨#[109, 105, 115, 115, 105, 110, 103, 32, 99, 108, 111, 115, 105, 110, 103]⟩ : ByteArray) t102 _ A4.out).mono ?_); rintro e w5 ⟨z_t102, hz_t102, rfl, hb⟩; have Hz_t102 := mk0 hz_t102; clear hz_t102; replace HB := mk0 (below_step zq2 hb); (try simp only [errW_none, errW_some]))))
  go_ret3
  exact ⟨z_t102, Hz_t102.out, by rfl, by repeat (first | (with_reducible first | exact HB.out | apply below_alloc | apply pw_below_drewN | apply below_drew1) | exact HB.out)⟩
 rw [if_neg c3] at H
 have c3b0 : decide (t101 < 0) = false := decide_eq_false c3
 clear c3
 have HC6 := mk0 H
 clear H
 go_enter Tryd.func100, Tryd.ntmps100
 go_upto_region 4 with (first | (go_at_call 123; (with_reducible refine (strings_IndexByte.calls a0 34 t101 _ A2.out).mono ?_); rintro e w' ⟨rfl, ⟨nd, rfl⟩⟩; (try first | exact ⟨rfl, _, World.drewN_drewN _ _ _⟩ | exact ⟨rfl, _, Eq.trans (World.drewN_drewN _ _ _) (congrArg (World.drewN _) (Nat.add_assoc _ _ _))⟩)))
 repeat (go_quiet (first | (go_at_call 123; (with_reducible refine (strings_IndexByte.calls a0 34 t101 _ A2.out).mono ?_); rintro e w' ⟨rfl, ⟨nd, rfl⟩⟩; (try first | exact ⟨rfl, _, World.drewN_drewN _ _ _⟩ | exact ⟨rfl, _, Eq.trans (World.drewN_drewN _ _ _) (congrArg (World.drewN _) (Nat.add_assoc _ _ _))⟩))); go_upto_region 4 with (first | (go_at_call 123; (with_reducible refine (strings_IndexByte.calls a0 34 t101 _ A2.out).mono ?_); rintro e w' ⟨rfl, ⟨nd, rfl⟩⟩; (try first | exact ⟨rfl, _, World.drewN_drewN _ _ _⟩ | exact ⟨rfl, _, Eq.trans (World.drewN_drewN _ _ _) (congrArg (World.drewN _) (Nat.add_assoc _ _ _))⟩))))
 (try simp only [Act.put, List.setIfInBounds_toArray, List.set_cons_zero, List.set_cons_succ])
 go_cut [22] (fun v22 wc => ∃ (kq : Nat) (x22_5 : Bool), v22 = .bool x22_5 ∧ Aside0 (fastjson_parseRawString.j0 kq a0 t101 x22_5 = some (r1, r2, r3)) ∧ Aside0 (kq ≤ k) ∧ Aside0 (Below w.heap.size w wc))
 case first =>
  have H := HC6.out
  clear HC6
  by_cases c7 : t101 = 0
  ·rw [if_pos c7] at H
   have c7b0 : (t101 == 0) = true := beq_iff_eq.mpr c7
   have c7b1 : (t101 != 0) = false := bne_eq_false_iff_eq.mpr c7
   clear c7
   (skip)
   have H' := mk0 H
   clear H
   go_wp2
   repeat (go_quiet (fail); try go_wp2)
   go_meet
   case rel => exact ⟨_, (true), (by rfl), H', ⟨by omega⟩, ⟨by repeat (first | (with_reducible first | exact HB.out | apply below_alloc | apply pw_below_drewN | apply below_drew1) | exact HB.out)⟩⟩
  rw [if_neg c7] at H
  have c7b0 : (t101 == 0) = false := beq_eq_false_iff_ne.mpr c7
  have c7b1 : (t101 != 0) = true := bne_iff_ne.mpr c7
  (skip)
  obtain ⟨ji8, hji8⟩ : ∃ j_ : Int, (wrap64 (t101 - 1)) = j_ := ⟨_, rfl⟩
  replace H : (if 0 ≤ (ji8) then (if (ji8) < (a0.size : Int) then (fastjson_parseRawString.j0 k a0 t101 ((bt a0 (ji8)) != 92)) else (none)) else (none)) = some (r1, r2, r3) := by (rw [hji8] at H; exact H)
  have hji8w : (IntKind.i64.wrap (t101 - 1)) = ji8 := (i64_w _).trans hji8
  by_cases c9 : 0 ≤ (ji8)
  rotate_left
  ·rw [if_neg c9] at H
   exact absurd H (by simp)
  rw [if_pos c9] at H
  have c9b0 : decide (0 ≤ (ji8)) = true := decide_eq_true c9
  clear c9
  by_cases c10 : (ji8) < (a0.size : Int)
  rotate_left
  ·rw [if_neg c10] at H
   exact absurd H (by simp)
  rw [if_pos c10] at H
  have c10b0 : decide ((ji8) < (a0.size : Int)) = true := decide_eq_true c10
  clear c10
  have H' := mk0 H
  clear H
  have p11 : 0 ≤ ((ji8) : Int) := of_decide_eq_true zq5
  have q11 : (ji8) < (a0.size : Int) := of_decide_eq_true zq5
  have hx11 := bt_at a0 (ji8)
  replace p11 := eq_true p11
  replace q11 := eq_true q11
  go_wp2
  repeat (go_quiet (fail); try go_wp2)
  (try simp only [← hji8])
  go_meet
  case rel => exact ⟨_, (((bt a0 (ji8)) != 92)), (by (simp only [← hji8] <;> (first | rfl | (simp; done)))), (by exact H'), ⟨by omega⟩, ⟨by repeat (first | (with_reducible first | exact HB.out | apply below_alloc | apply pw_below_drewN | apply below_drew1) | exact HB.out)⟩⟩
 case rest =>
  clear HC6 c3b0
  obtain ⟨kq, x22_5, rfl, HA, HJ5, HB⟩ := hcut
  cases kq with
  | zero => exact absurd HA.out (by simp [fastjson_parseRawString.j0])
  | succ kj5 =>
   have H := HA.out
   clear HA
   simp only [fastjson_parseRawString.j0] at H
   by_cases c12 : x22_5 = true
   ·subst c12
    rw [if_pos rfl] at H
    by_cases c13 : 0 ≤ t101
    rotate_left
    ·rw [if_neg c13] at H
     exact absurd H (by simp)
    rw [if_pos c13] at H
    have c13b0 := eq_true c13
    have c13b1 : decide (0 ≤ t101) = true := decide_eq_true c13
    clear c13
    by_cases c14 : t101 ≤ (a0.size : Int)
    rotate_left
    ·rw [if_neg c14] at H
     exact absurd H (by simp)
    rw [if_pos c14] at H
    have c14b0 := eq_true c14
    have c14b1 : decide (t101 ≤ (a0.size : Int)) = true := decide_eq_true c14
    clear c14
    obtain ⟨ji15, hji15⟩ : ∃ j_ : Int, (wrap64 (t101 + 1)) = j_ := ⟨_, rfl⟩
    replace H : (if 0 ≤ (ji15) then (if (ji15) ≤ (a0.size : Int) then (some (a0.extract 0 (t101 : Int).toNat, a0.extract ((ji15) : Int).toNat a0.size, none)) else (none)) else (none)) = some (r1, r2, r3) := by (rw [hji15] at H; exact H)
    have hji15w : (IntKind.i64.wrap (t101 + 1)) = ji15 := (i64_w _).trans hji15
    by_cases c16 : 0 ≤ (ji15)
    rotate_left
    ·rw [if_neg c16] at H
     exact absurd H (by simp)
    rw [if_pos c16] at H
    have c16b0 := eq_true c16
    have c16b1 : decide (0 ≤ (ji15)) = true := decide_eq_true c16
    clear c16
    by_cases c17 : (ji15) ≤ (a0.size : Int)
    rotate_left
    ·rw [if_neg c17] at H
     exact absurd H (by simp)
    rw [if_pos c17] at H
    have c17b0 := eq_true c17
    have c17b1 : decide ((ji15) ≤ (a0.size : Int)) = true := decide_eq_true c17
    clear c17
    simp only [Option.some.injEq, Prod.mk.injEq] at H
    obtain ⟨rfl, rfl, rfl⟩ := H
    go_wp2
    repeat (go_quiet (fail); try go_wp2)
    go_ret3
    exact ⟨none, Zk.nn, by rfl, by repeat (first | (with_reducible first | exact HB.out | apply below_alloc | apply pw_below_drewN | apply below_drew1) | exact HB.out)⟩
   replace c12 := Bool.eq_false_iff.mpr c12
   subst c12
   rw [if_neg (show ¬ (false = true) by decide)] at H
   have H' := mk0 H
   clear H
   go_wp2
   repeat (go_quiet (fail); try go_wp2)
   go_loopg [0, 5] kj5 (fun kq v0 v5 w' => ∃ (x0_2 : ByteArray) (x5_2 : Int), v0 = .string x0_2 ∧ v5 = .int .i64 x5_2 ∧ Aside0 (fastjson_parseRawString.l0 kq x0_2 x5_2 a0 = some (r1, r2, r3)) ∧ Aside0 (kq ≤ kj5) ∧ Aside0 (Below w.heap.size w w'))
   case atStart => exact ⟨(a0), (t101), (by rfl), (by rfl), H', ⟨Nat.le_refl _⟩, ⟨by repeat (first | (with_reducible first | exact HB.out | apply below_alloc | apply pw_below_drewN | apply below_drew1) | exact HB.out)⟩⟩
   case round =>
    clear H'
    obtain ⟨x0_2, x5_2, rfl, rfl, HA, HK2, HB⟩ := hrel
    cases gk with
    | zero => exact absurd HA.out (by simp [fastjson_parseRawString.l0])
    | succ k2 =>
     have H := HA.out
     clear HA
     simp only [fastjson_parseRawString.l0] at H
     have HC18 := mk0 H
     clear H
     go_upto_block 2 with (fail)
     repeat (go_quiet (fail); go_upto_block 2 with (fail))
     go_cut [7] (fun v7 wc => ∃ (kq : Nat) (x7_17 : Int), v7 = .int .i64 x7_17 ∧ Aside0 (fastjson_parseRawString.j3 kq x0_2 x5_2 a0 x7_17 = some (r1, r2, r3)) ∧ Aside0 (kq ≤ k2) ∧ Aside0 (Below w.heap.size w wc))
     case first =>
      have H := HC18.out
      clear HC18
      have H' := mk0 H
      clear H
      go_wp2
      repeat (go_quiet (fail); try go_wp2)
      go_loopg [7] k2 (fun kq v7 w' => ∃ (x7_3 : Int), v7 = .int .i64 x7_3 ∧ Aside0 (fastjson_parseRawString.l1 kq x0_2 x5_2 a0 x7_3 = some (r1, r2, r3)) ∧ Aside0 (kq ≤ k2) ∧ Aside0 (Below w.heap.size w w'))
      case atStart => exact ⟨(wrap64 (x5_2 - 1)), (by rfl), H', ⟨Nat.le_refl _⟩, ⟨by repeat (first | (with_reducible first | exact HB.out | apply below_alloc | apply pw_below_drewN | apply below_drew1) | exact HB.out)⟩⟩
      case round =>
       clear H'
       obtain ⟨x7_3, rfl, HA, HK3, HB⟩ := hrel
       cases gk with
       | zero => exact absurd HA.out (by simp [fastjson_parseRawString.l1])
       | succ k3 =>
        have H := HA.out
        clear HA
        simp only [fastjson_parseRawString.l1] at H
        by_cases c19 : x7_3 > 0
        rotate_left
        ·rw [if_neg c19] at H
         have c19b0 : decide (0 < x7_3) = false := decide_eq_false c19
         clear c19
         (skip)
         have H' := mk0 H
         clear H
         go_wp2
         repeat (go_quiet (fail); try go_wp2)
         go_meet
         case rel => exact ⟨_, (x7_3), (by rfl), H', ⟨by have := HJ5.out; have := HK2.out; have := HK3.out; first | omega | exact Nat.le_refl _⟩, ⟨by repeat (first | (with_reducible first | exact HB.out | apply below_alloc | apply pw_below_drewN | apply below_drew1) | exact HB.out)⟩⟩
        rw [if_pos c19] at H
        have c19b0 : decide (0 < x7_3) = true := decide_eq_true c19
        clear c19
        (skip)
        obtain ⟨ji20, hji20⟩ : ∃ j_ : Int, (wrap64 (x7_3 - 1)) = j_ := ⟨_, rfl⟩
        replace H : (if 0 ≤ (ji20) then (if (ji20) < (x0_2.size : Int) then (if (bt x0_2 (ji20)) = 92 then (fastjson_parseRawString.l1 k3 x0_2 x5_2 a0 ji20) else (fastjson_parseRawString.j3 k3 x0_2 x5_2 a0 x7_3)) else (none)) else (none)) = some (r1, r2, r3) := by (rw [hji20] at H; exact H)
        have hji20w : (IntKind.i64.wrap (x7_3 - 1)) = ji20 := (i64_w _).trans hji20
        by_cases c21 : 0 ≤ (ji20)
        rotate_left
        ·rw [if_neg c21] at H
         exact absurd H (by simp)
        rw [if_pos c21] at H
        have c21b0 : decide (0 ≤ (ji20)) = true := decide_eq_true c21
        clear c21
        by_cases c22 : (ji20) < (x0_2.size : Int)
        rotate_left
        ·rw [if_neg c22] at H
         exact absurd H (by simp)
        rw [if_pos c22] at H
        have c22b0 : decide ((ji20) < (x0_2.size : Int)) = true := decide_eq_true c22
        clear c22
        by_cases c24 : (bt x0_2 (ji20)) = 92
        rotate_left
        ·rw [if_neg c24] at H
         have c24b0 : ((bt x0_2 (ji20)) == 92) = false := beq_eq_false_iff_ne.mpr c24
         have c24b1 : ((bt x0_2 (ji20)) != 92) = true := bne_iff_ne.mpr c24
         have H' := mk0 H
         clear H
         have p23 : 0 ≤ ((ji20) : Int) := of_decide_eq_true zq5
         have q23 : (ji20) < (x0_2.size : Int) := of_decide_eq_true zq5
         have hx23 := bt_at x0_2 (ji20)
         replace p23 := eq_true p23
         replace q23 := eq_true q23
         go_wp2
         repeat (go_quiet (fail); try go_wp2)
         (try simp only [← hji20])
         go_meet
         case rel => exact ⟨_, (x7_3), (by rfl), (by exact H'), ⟨by have := HJ5.out; have := HK2.out; have := HK3.out; first | omega | exact Nat.le_refl _⟩, ⟨by repeat (first | (with_reducible first | exact HB.out | apply below_alloc | apply pw_below_drewN | apply below_drew1) | exact HB.out)⟩⟩
        rw [if_pos c24] at H
        have c24b0 : ((bt x0_2 (ji20)) == 92) = true := beq_iff_eq.mpr c24
        have c24b1 : ((bt x0_2 (ji20)) != 92) = false := bne_eq_false_iff_eq.mpr c24
        clear c24
        have H' := mk0 H
        clear H
        have p23 : 0 ≤ ((ji20) : Int) := of_decide_eq_true zq5
        have q23 : (ji20) < (x0_2.size : Int) := of_decide_eq_true zq5
        have hx23 := bt_at x0_2 (ji20)
        replace p23 := eq_true p23
        replace q23 := eq_true q23
        go_wp2
        repeat (go_quiet (fail); try go_wp2)
        (try simp only [← hji20])
        go_roundg k3
        case measure => have := HJ5.out; have := HK2.out; have := HK3.out; omega
        case rel => exact ⟨(ji20), (by (simp only [← hji20] <;> (first | rfl | (simp; done)))), (by exact H'), ⟨by have := HJ5.out; have := HK2.out; have := HK3.out; omega⟩, ⟨by repeat (first | (with_reducible first | exact HB.out | apply below_alloc | apply pw_below_drewN | apply below_drew1) | exact HB.out)⟩⟩
     case rest =>
      clear HC18
      obtain ⟨kq, x7_17, rfl, HA, HJ17, HB⟩ := hcut
      cases kq with
      | zero => exact absurd HA.out (by simp [fastjson_parseRawString.j3])
      | succ kj17 =>
       have H := HA.out
       clear HA
       simp only [fastjson_parseRawString.j3] at H
       by_cases c25 : (Int.tmod (IntKind.u64.wrap (wrap64 (x5_2 - x7_17))) 2) = 0
       ·rw [if_pos c25] at H
        have c25b0 : ((Int.tmod (IntKind.u64.wrap (wrap64 (x5_2 - x7_17))) 2) == 0) = true := beq_iff_eq.mpr c25
        have c25b1 : ((Int.tmod (IntKind.u64.wrap (wrap64 (x5_2 - x7_17))) 2) != 0) = false := bne_eq_false_iff_eq.mpr c25
        clear c25
        obtain ⟨ji26, hji26⟩ : ∃ j_ : Int, (wrap64 ((wrap64 ((a0.size : Int) - (x0_2.size : Int))) + x5_2)) = j_ := ⟨_, rfl⟩
        replace H : (if 0 ≤ (ji26) then (if (ji26) ≤ (a0.size : Int) then (if 0 ≤ (wrap64 (x5_2 + 1)) then (if (wrap64 (x5_2 + 1)) ≤ (x0_2.size : Int) then (some (a0.extract 0 ((ji26) : Int).toNat, x0_2.extract ((wrap64 (x5_2 + 1)) : Int).toNat x0_2.size, none)) else (none)) else (none)) else (none)) else (none)) = some (r1, r2, r3) := by (rw [hji26] at H; exact H)
        have hji26w : (IntKind.i64.wrap ((wrap64 ((a0.size : Int) - (x0_2.size : Int))) + x5_2)) = ji26 := (i64_w _).trans hji26
        by_cases c27 : 0 ≤ (ji26)
        rotate_left
        ·rw [if_neg c27] at H
         exact absurd H (by simp)
        rw [if_pos c27] at H
        have c27b0 := eq_true c27
        have c27b1 : decide (0 ≤ (ji26)) = true := decide_eq_true c27
        clear c27
        by_cases c28 : (ji26) ≤ (a0.size : Int)
        rotate_left
        ·rw [if_neg c28] at H
         exact absurd H (by simp)
        rw [if_pos c28] at H
        have c28b0 := eq_true c28
        have c28b1 : decide ((ji26) ≤ (a0.size : Int)) = true := decide_eq_true c28
        clear c28
        obtain ⟨ji29, hji29⟩ : ∃ j_ : Int, (wrap64 (x5_2 + 1)) = j_ := ⟨_, rfl⟩
        replace H : (if 0 ≤ (ji29) then (if (ji29) ≤ (x0_2.size : Int) then (some (a0.extract 0 ((ji26) : Int).toNat, x0_2.extract ((ji29) : Int).toNat x0_2.size, none)) else (none)) else (none)) = some (r1, r2, r3) := by (rw [hji29] at H; exact H)
        have hji29w : (IntKind.i64.wrap (x5_2 + 1)) = ji29 := (i64_w _).trans hji29
        by_cases c30 : 0 ≤ (ji29)
        rotate_left
        ·rw [if_neg c30] at H
         exact absurd H (by simp)
        rw [if_pos c30] at H
        have c30b0 := eq_true c30
        have c30b1 : decide (0 ≤ (ji29)) = true := decide_eq_true c30
        clear c30
        by_cases c31 : (ji29) ≤ (x0_2.size : Int)
        rotate_left
        ·rw [if_neg c31] at H
         exact absurd H (by simp)
        rw [if_pos c31] at H
        have c31b0 := eq_true c31
        have c31b1 : decide ((ji29) ≤ (x0_2.size : Int)) = true := decide_eq_true c31
        clear c31
        simp only [Option.some.injEq, Prod.mk.injEq] at H
        obtain ⟨rfl, rfl, rfl⟩ := H
        go_wp2
        repeat (go_quiet (fail); try go_wp2)
        go_ret3
        exact ⟨none, Zk.nn, by rfl, by repeat (first | (with_reducible first | exact HB.out | apply below_alloc | apply pw_below_drewN | apply below_drew1) | exact HB.out)⟩
       rw [if_neg c25] at H
       have c25b0 : ((Int.tmod (IntKind.u64.wrap (wrap64 (x5_2 - x7_17))) 2) == 0) = false := beq_eq_false_iff_ne.mpr c25
       have c25b1 : ((Int.tmod (IntKind.u64.wrap (wrap64 (x5_2 - x7_17))) 2) != 0) = true := bne_iff_ne.mpr c25
       obtain ⟨ji32, hji32⟩ : ∃ j_ : Int, (wrap64 (x5_2 + 1)) = j_ := ⟨_, rfl⟩
       replace H : (if 0 ≤ (ji32) then (if (ji32) ≤ (x0_2.size : Int) then ((strings_IndexByte.f (x0_2.extract ((ji32) : Int).toNat x0_2.size) 34).bind fun t103 => (if t103 < 0 then ((errors_New.f (⟨#[109, 105, 115, 115, 105, 110, 103, 32, 99, 108, 111, 115, 105, 110, 103]⟩ : ByteArray)).bind fun t104 => (some (a0, (⟨#[]⟩ : ByteArray), t104))) else (if t103 = 0 then (if 0 ≤ (wrap64 ((wrap64 ((a0.size : Int) - ((x0_2.extract ((ji32) : Int).toNat x0_2.size).size : Int))) + t103)) then (if (wrap64 ((wrap64 ((a0.size : Int) - ((x0_2.extract ((ji32) : Int).toNat x0_2.size).size : Int))) + t103)) ≤ (a0.size : Int) then (if 0 ≤ (wrap64 (t103 + 1)) then (if (wrap64 (t103 + 1)) ≤ ((x0_2.extract ((ji32) : Int).toNat x0_2.size).size : Int) then (some (a0.extract 0 ((wrap64 ((wrap64 ((a0.size : Int) - ((x0_2.extract ((ji32) : Int).toNat x0_2.size).size : Int))) + t103)) : Int).toNat, (x0_2.extract ((ji32) : Int).toNat x0_2.size).extract ((wrap64 (t103 + 1)) : Int).toNat (x0_2.extract ((ji32) : Int).toNat x0_2.size).size, none)) else (none)) else (none)) else (none)) else (none)) else (if 0 ≤ (wrap64 (t103 - 1)) then (if (wrap64 (t103 - 1)) < ((x0_2.extract ((ji32) : Int).toNat x0_2.size).size : Int) then (if (bt (x0_2.extract ((ji32) : Int).toNat x0_2.size) (wrap64 (t103 - 1))) = 92 then (fastjson_parseRawString.l0 kj17 (x0_2.extract ((ji32) : Int).toNat x0_2.size) t103 a0) else (if 0 ≤ (wrap64 ((wrap64 ((a0.size : Int) - ((x0_2.extract ((ji32) : Int).toNat x0_2.size).size : Int))) + t103)) then (if (wrap64 ((wrap64 ((a0.size : Int) - ((x0_2.extract ((ji32) : Int).toNat x0_2.size).size : Int))) + t103)) ≤ (a0.size : Int) then (if 0 ≤ (wrap64 (t103 + 1)) then (if (wrap64 (t103 + 1)) ≤ ((x0_2.extract ((ji32) : Int).toNat x0_2.size).size : Int) then (some (a0.extract 0 ((wrap64 ((wrap64 ((a0.size : Int) - ((x0_2.extract ((ji32) : Int).toNat x0_2.size).size : Int))) + t103)) : Int).toNat, (x0_2.extract ((ji32) : Int).toNat x0_2.size).extract ((wrap64 (t103 + 1)) : Int).toNat (x0_2.extract ((ji32) : Int).toNat x0_2.size).size, none)) else (none)) else (none)) else (none)) else (none))) else (none)) else (none))))) else (none)) else (none)) = some (r1, r2, r3) := by (rw [hji32] at H; exact H)
       have hji32w : (IntKind.i64.wrap (x5_2 + 1)) = ji32 := (i64_w _).trans hji32
       by_cases c33 : 0 ≤ (ji32)
       rotate_left
       ·rw [if_neg c33] at H
        exact absurd H (by simp)
       rw [if_pos c33] at H
       have c33b0 := eq_true c33
       have c33b1 : decide (0 ≤ (ji32)) = true := decide_eq_true c33
       clear c33
       by_cases c34 : (ji32) ≤ (x0_2.size : Int)
       rotate_left
       ·rw [if_neg c34] at H
        exact absurd H (by simp)
       rw [if_pos c34] at H
       have c34b0 := eq_true c34
       have c34b1 : decide ((ji32) ≤ (x0_2.size : Int)) = true := decide_eq_true c34
       clear c34
       replace H := Option.bind_eq_some_iff.mp H
       obtain ⟨t103, A350, H⟩ := H
       (try dsimp only at H)
       have A35 := mk0 A350
       clear A350
       by_cases c36 : t103 < 0
       ·rw [if_pos c36] at H
        have c36b0 : decide (t103 < 0) = true := decide_eq_true c36
        clear c36
        replace H := Option.bind_eq_some_iff.mp H
        obtain ⟨t104, A370, H⟩ := H
        (try dsimp only at H)
        have A37 := mk0 A370
        clear A370
        simp only [Option.some.injEq, Prod.mk.injEq] at H
        obtain ⟨rfl, rfl, rfl⟩ := H
        go_wp2_with (first | (go_at_call 123; (with_reducible refine (strings_IndexByte.calls (x0_2.extract ((ji32) : Int).toNat x0_2.size) 34 t103 _ A35.out).mono ?_); rintro e w' ⟨rfl, ⟨nd, rfl⟩⟩; (try first | exact ⟨rfl, _, World.drewN_drewN _ _ _⟩ | exact ⟨rfl, _, Eq.trans (World.drewN_drewN _ _ _) (congrArg (World.drewN _) (Nat.add_assoc _ _ _))⟩)) | (go_at_call 54; (with_reducible refine (errors_New.calls (⟨#[109, 105, 115, 115, 105, 110, 103, 32, 99, 108, 111, 115, 105, 110, 103]⟩ : ByteArray) t104 _ A37.out).mono ?_); rintro e w38 ⟨z_t104, hz_t104, rfl, hb⟩; have Hz_t104 := mk0 hz_t104; clear hz_t104; have n0_ := mk0 (below_step zq2 hb); clear HB; have HB := n0_; clear n0_ hb; (try simp only [errW_none, errW_some])))
        repeat (go_quiet (first | (go_at_call 123; (with_reducible refine (strings_IndexByte.calls (x0_2.extract ((ji32) : Int).toNat x0_2.size) 34 t103 _ A35.out).mono ?_); rintro e w' ⟨rfl, ⟨nd, rfl⟩⟩; (try first | exact ⟨rfl, _, World.drewN_drewN _ _ _⟩ | exact ⟨rfl, _, Eq.trans (World.drewN_drewN _ _ _) (congrArg (World.drewN _) (Nat.add_assoc _ _ _))⟩)) | (go_at_call 54; (with_reducible refine (errors_New.calls (⟨#[109, 105, 115, 115, 105, 110, 103, 32, 99, 108, 111, 115, 105, 110, 103]⟩ : ByteArray) t104 _ A37.out).mono ?_); rintro e w38 ⟨z_t104, hz_t104, rfl, hb⟩; have Hz_t104 := mk0 hz_t104; clear hz_t104; replace HB := mk0 (below_step zq2 hb); (try simp only [errW_none, errW_some]))); try go_wp2_with (first | (go_at_call 123; (with_reducible refine (strings_IndexByte.calls (x0_2.extract ((ji32) : Int).toNat x0_2.size) 34 t103 _ A35.out).mono ?_); rintro e w' ⟨rfl, ⟨nd, rfl⟩⟩; (try first | exact ⟨rfl, _, World.drewN_drewN _ _ _⟩ | exact ⟨rfl, _, Eq.trans (World.drewN_drewN _ _ _) (congrArg (World.drewN _) (Nat.add_assoc _ _ _))⟩)) | (go_at_call 54; (with_reducible refine (errors_New.calls (⟨#[109, 105, 115, 115, 105, 110, 103, 32, 99, 108, 111, 115, 105, 110, 103]⟩ : ByteArray) t104 _ A37.out).mono ?_); rintro e w38 ⟨z_t104, hz_t104, rfl, hb⟩; have Hz_t104 := mk0 hz_t104; clear hz_t104; replace HB := mk0 (below_step zq2 hb); (try simp only [errW_none, errW_some]))))
        go_ret3
        exact ⟨z_t104, Hz_t104.out, by rfl, by repeat (first | (with_reducible first | exact HB.out | apply below_alloc | apply pw_below_drewN | apply below_drew1) | exact HB.out)⟩
       rw [if_neg c36] at H
       have c36b0 : decide (t103 < 0) = false := decide_eq_false c36
       clear c36
       by_cases c39 : t103 = 0
       ·rw [if_pos c39] at H
        have c39b0 : (t103 == 0) = true := beq_iff_eq.mpr c39
        have c39b1 : (t103 != 0) = false := bne_eq_false_iff_eq.mpr c39
        clear c39
        obtain ⟨ji40, hji40⟩ : ∃ j_ : Int, (wrap64 ((wrap64 ((a0.size : Int) - ((x0_2.extract ((ji32) : Int).toNat x0_2.size).size : Int))) + t103)) = j_ := ⟨_, rfl⟩
        replace H : (if 0 ≤ (ji40) then (if (ji40) ≤ (a0.size : Int) then (if 0 ≤ (wrap64 (t103 + 1)) then (if (wrap64 (t103 + 1)) ≤ ((x0_2.extract ((ji32) : Int).toNat x0_2.size).size : Int) then (some (a0.extract 0 ((ji40) : Int).toNat, (x0_2.extract ((ji32) : Int).toNat x0_2.size).extract ((wrap64 (t103 + 1)) : Int).toNat (x0_2.extract ((ji32) : Int).toNat x0_2.size).size, none)) else (none)) else (none)) else (none)) else (none)) = some (r1, r2, r3) := by (rw [hji40] at H; exact H)
        (try rw [hji40] at A35)
        have hji40w : (IntKind.i64.wrap ((wrap64 ((a0.size : Int) - ((x0_2.extract ((ji32) : Int).toNat x0_2.size).size : Int))) + t103)) = ji40 := (i64_w _).trans hji40
        have hji40ws := hji40w; simp only [ByteArray.size_extract, Nat.min_self] at hji40ws
        by_cases c41 : 0 ≤ (ji40)
        rotate_left
        ·rw [if_neg c41] at H
         exact absurd H (by simp)
        rw [if_pos c41] at H
        have c41b0 := eq_true c41
        have c41b1 : decide (0 ≤ (ji40)) = true := decide_eq_true c41
        clear c41
        by_cases c42 : (ji40) ≤ (a0.size : Int)
        rotate_left
        ·rw [if_neg c42] at H
         exact absurd H (by simp)
        rw [if_pos c42] at H
        have c42b0 := eq_true c42
        have c42b1 : decide ((ji40) ≤ (a0.size : Int)) = true := decide_eq_true c42
        clear c42
        obtain ⟨ji43, hji43⟩ : ∃ j_ : Int, (wrap64 (t103 + 1)) = j_ := ⟨_, rfl⟩
        replace H : (if 0 ≤ (ji43) then (if (ji43) ≤ ((x0_2.extract ((ji32) : Int).toNat x0_2.size).size : Int) then (some (a0.extract 0 ((ji40) : Int).toNat, (x0_2.extract ((ji32) : Int).toNat x0_2.size).extract ((ji43) : Int).toNat (x0_2.extract ((ji32) : Int).toNat x0_2.size).size, none)) else (none)) else (none)) = some (r1, r2, r3) := by (rw [hji43] at H; exact H)
        (try rw [hji43] at A35)
        have hji43w : (IntKind.i64.wrap (t103 + 1)) = ji43 := (i64_w _).trans hji43
        by_cases c44 : 0 ≤ (ji43)
        rotate_left
        ·rw [if_neg c44] at H
         exact absurd H (by simp)
        rw [if_pos c44] at H
        have c44b0 := eq_true c44
        have c44b1 : decide (0 ≤ (ji43)) = true := decide_eq_true c44
        clear c44
        by_cases c45 : (ji43) ≤ ((x0_2.extract ((ji32) : Int).toNat x0_2.size).size : Int)
        rotate_left
        ·rw [if_neg c45] at H
         exact absurd H (by simp)
        rw [if_pos c45] at H
        have c45b0 := eq_true c45
        have c45b1 : decide ((ji43) ≤ ((x0_2.extract ((ji32) : Int).toNat x0_2.size).size : Int)) = true := decide_eq_true c45
        have c45b1s := c45b1; simp only [ByteArray.size_extract, Nat.min_self] at c45b1s
        clear c45
        simp only [Option.some.injEq, Prod.mk.injEq] at H
        obtain ⟨rfl, rfl, rfl⟩ := H
        go_wp2_with (first | (go_at_call 123; (with_reducible refine (strings_IndexByte.calls (x0_2.extract ((ji32) : Int).toNat x0_2.size) 34 t103 _ A35.out).mono ?_); rintro e w' ⟨rfl, ⟨nd, rfl⟩⟩; (try first | exact ⟨rfl, _, World.drewN_drewN _ _ _⟩ | exact ⟨rfl, _, Eq.trans (World.drewN_drewN _ _ _) (congrArg (World.drewN _) (Nat.add_assoc _ _ _))⟩)))
        repeat (go_quiet (first | (go_at_call 123; (with_reducible refine (strings_IndexByte.calls (x0_2.extract ((ji32) : Int).toNat x0_2.size) 34 t103 _ A35.out).mono ?_); rintro e w' ⟨rfl, ⟨nd, rfl⟩⟩; (try first | exact ⟨rfl, _, World.drewN_drewN _ _ _⟩ | exact ⟨rfl, _, Eq.trans (World.drewN_drewN _ _ _) (congrArg (World.drewN _) (Nat.add_assoc _ _ _))⟩))); try go_wp2_with (first | (go_at_call 123; (with_reducible refine (strings_IndexByte.calls (x0_2.extract ((ji32) : Int).toNat x0_2.size) 34 t103 _ A35.out).mono ?_); rintro e w' ⟨rfl, ⟨nd, rfl⟩⟩; (try first | exact ⟨rfl, _, World.drewN_drewN _ _ _⟩ | exact ⟨rfl, _, Eq.trans (World.drewN_drewN _ _ _) (congrArg (World.drewN _) (Nat.add_assoc _ _ _))⟩))))
        go_ret3
        exact ⟨none, Zk.nn, by rfl, by repeat (first | (with_reducible first | exact HB.out | apply below_alloc | apply pw_below_drewN | apply below_drew1) | exact HB.out)⟩
       rw [if_neg c39] at H
       have c39b0 : (t103 == 0) = false := beq_eq_false_iff_ne.mpr c39
       have c39b1 : (t103 != 0) = true := bne_iff_ne.mpr c39
       obtain ⟨ji46, hji46⟩ : ∃ j_ : Int, (wrap64 (t103 - 1)) = j_ := ⟨_, rfl⟩
       replace H : (if 0 ≤ (ji46) then (if (ji46) < ((x0_2.extract ((ji32) : Int).toNat x0_2.size).size : Int) then (if (bt (x0_2.extract ((ji32) : Int).toNat x0_2.size) (ji46)) = 92 then (fastjson_parseRawString.l0 kj17 (x0_2.extract ((ji32) : Int).toNat x0_2.size) t103 a0) else (if 0 ≤ (wrap64 ((wrap64 ((a0.size : Int) - ((x0_2.extract ((ji32) : Int).toNat x0_2.size).size : Int))) + t103)) then (if (wrap64 ((wrap64 ((a0.size : Int) - ((x0_2.extract ((ji32) : Int).toNat x0_2.size).size : Int))) + t103)) ≤ (a0.size : Int) then (if 0 ≤ (wrap64 (t103 + 1)) then (if (wrap64 (t103 + 1)) ≤ ((x0_2.extract ((ji32) : Int).toNat x0_2.size).size : Int) then (some (a0.extract 0 ((wrap64 ((wrap64 ((a0.size : Int) - ((x0_2.extract ((ji32) : Int).toNat x0_2.size).size : Int))) + t103)) : Int).toNat, (x0_2.extract ((ji32) : Int).toNat x0_2.size).extract ((wrap64 (t103 + 1)) : Int).toNat (x0_2.extract ((ji32) : Int).toNat x0_2.size).size, none)) else (none)) else (none)) else (none)) else (none))) else (none)) else (none)) = some (r1, r2, r3) := by (rw [hji46] at H; exact H)
       (try rw [hji46] at A35)
       have hji46w : (IntKind.i64.wrap (t103 - 1)) = ji46 := (i64_w _).trans hji46
       by_cases c47 : 0 ≤ (ji46)
       rotate_left
       ·rw [if_neg c47] at H
        exact absurd H (by simp)
       rw [if_pos c47] at H
       have c47b0 : decide (0 ≤ (ji46)) = true := decide_eq_true c47
       clear c47
       by_cases c48 : (ji46) < ((x0_2.extract ((ji32) : Int).toNat x0_2.size).size : Int)
       rotate_left
       ·rw [if_neg c48] at H
        exact absurd H (by simp)
       rw [if_pos c48] at H
       have c48b0 : decide ((ji46) < ((x0_2.extract ((ji32) : Int).toNat x0_2.size).size : Int)) = true := decide_eq_true c48
       have c48b0s := c48b0; simp only [ByteArray.size_extract, Nat.min_self] at c48b0s
       clear c48
       by_cases c50 : (bt (x0_2.extract ((ji32) : Int).toNat x0_2.size) (ji46)) = 92
       ·rw [if_pos c50] at H
        have c50b0 : ((bt (x0_2.extract ((ji32) : Int).toNat x0_2.size) (ji46)) == 92) = true := beq_iff_eq.mpr c50
        have c50b1 : ((bt (x0_2.extract ((ji32) : Int).toNat x0_2.size) (ji46)) != 92) = false := bne_eq_false_iff_eq.mpr c50
        clear c50
        have H' := mk0 H
        clear H
        go_wp2_with (first | (go_at_call 123; (with_reducible refine (strings_IndexByte.calls (x0_2.extract ((ji32) : Int).toNat x0_2.size) 34 t103 _ A35.out).mono ?_); rintro e w' ⟨rfl, ⟨nd, rfl⟩⟩; (try first | exact ⟨rfl, _, World.drewN_drewN _ _ _⟩ | exact ⟨rfl, _, Eq.trans (World.drewN_drewN _ _ _) (congrArg (World.drewN _) (Nat.add_assoc _ _ _))⟩); have p49 : 0 ≤ ((ji46) : Int) := of_decide_eq_true zq5; have q49 : (ji46) < ((x0_2.extract ((ji32) : Int).toNat x0_2.size).size : Int) := of_decide_eq_true zq5; have hx49 := bt_at (x0_2.extract ((ji32) : Int).toNat x0_2.size) (ji46); replace p49 := eq_true p49; replace q49 := eq_true q49))
        repeat (go_quiet (first | (go_at_call 123; (with_reducible refine (strings_IndexByte.calls (x0_2.extract ((ji32) : Int).toNat x0_2.size) 34 t103 _ A35.out).mono ?_); rintro e w' ⟨rfl, ⟨nd, rfl⟩⟩; (try first | exact ⟨rfl, _, World.drewN_drewN _ _ _⟩ | exact ⟨rfl, _, Eq.trans (World.drewN_drewN _ _ _) (congrArg (World.drewN _) (Nat.add_assoc _ _ _))⟩); have p49 : 0 ≤ ((ji46) : Int) := of_decide_eq_true zq46; have q49 : (ji46) < ((x0_2.extract ((ji32) : Int).toNat x0_2.size).size : Int) := of_decide_eq_true zq46; have hx49 := bt_at (x0_2.extract ((ji32) : Int).toNat x0_2.size) (ji46); replace p49 := eq_true p49; replace q49 := eq_true q49)); try go_wp2_with (first | (go_at_call 123; (with_reducible refine (strings_IndexByte.calls (x0_2.extract ((ji32) : Int).toNat x0_2.size) 34 t103 _ A35.out).mono ?_); rintro e w' ⟨rfl, ⟨nd, rfl⟩⟩; (try first | exact ⟨rfl, _, World.drewN_drewN _ _ _⟩ | exact ⟨rfl, _, Eq.trans (World.drewN_drewN _ _ _) (congrArg (World.drewN _) (Nat.add_assoc _ _ _))⟩); have p49 : 0 ≤ ((ji46) : Int) := of_decide_eq_true zq46; have q49 : (ji46) < ((x0_2.extract ((ji32) : Int).toNat x0_2.size).size : Int) := of_decide_eq_true zq46; have hx49 := bt_at (x0_2.extract ((ji32) : Int).toNat x0_2.size) (ji46); replace p49 := eq_true p49; replace q49 := eq_true q49)))
        (try simp only [← hji32, ← hji46])
        go_roundg kj17
        case measure => have := HJ5.out; have := HK2.out; have := HJ17.out; omega
        case rel => exact ⟨(x0_2.extract ((ji32) : Int).toNat x0_2.size), (t103), (by (simp only [← hji32] <;> (first | rfl | (simp; done)))), (by rfl), (by exact H'), ⟨by have := HJ5.out; have := HK2.out; have := HJ17.out; omega⟩, ⟨by repeat (first | (with_reducible first | exact HB.out | apply below_alloc | apply pw_below_drewN | apply below_drew1) | exact HB.out)⟩⟩
       rw [if_neg c50] at H
       have c50b0 : ((bt (x0_2.extract ((ji32) : Int).toNat x0_2.size) (ji46)) == 92) = false := beq_eq_false_iff_ne.mpr c50
       have c50b1 : ((bt (x0_2.extract ((ji32) : Int).toNat x0_2.size) (ji46)) != 92) = true := bne_iff_ne.mpr c50
       obtain ⟨ji51, hji51⟩ : ∃ j_ : Int, (wrap64 ((wrap64 ((a0.size : Int) - ((x0_2.extract ((ji32) : Int).toNat x0_2.size).size : Int))) + t103)) = j_ := ⟨_, rfl⟩
       replace H : (if 0 ≤ (ji51) then (if (ji51) ≤ (a0.size : Int) then (if 0 ≤ (wrap64 (t103 + 1)) then (if (wrap64 (t103 + 1)) ≤ ((x0_2.extract ((ji32) : Int).toNat x0_2.size).size : Int) then (some (a0.extract 0 ((ji51) : Int).toNat, (x0_2.extract ((ji32) : Int).toNat x0_2.size).extract ((wrap64 (t103 + 1)) : Int).toNat (x0_2.extract ((ji32) : Int).toNat x0_2.size).size, none)) else (none)) else (none)) else (none)) else (none)) = some (r1, r2, r3) := by (rw [hji51] at H; exact H)
       (try rw [hji51] at A35)
       have hji51w : (IntKind.i64.wrap ((wrap64 ((a0.size : Int) - ((x0_2.extract ((ji32) : Int).toNat x0_2.size).size : Int))) + t103)) = ji51 := (i64_w _).trans hji51
       have hji51ws := hji51w; simp only [ByteArray.size_extract, Nat.min_self] at hji51ws
       by_cases c52 : 0 ≤ (ji51)
       rotate_left
       ·rw [if_neg c52] at H
        exact absurd H (by simp)
       rw [if_pos c52] at H
       have c52b0 := eq_true c52
       have c52b1 : decide (0 ≤ (ji51)) = true := decide_eq_true c52
       clear c52
       by_cases c53 : (ji51) ≤ (a0.size : Int)
       rotate_left
       ·rw [if_neg c53] at H
        exact absurd H (by simp)
       rw [if_pos c53] at H
       have c53b0 := eq_true c53
       have c53b1 : decide ((ji51) ≤ (a0.size : Int)) = true := decide_eq_true c53
       clear c53
       obtain ⟨ji54, hji54⟩ : ∃ j_ : Int, (wrap64 (t103 + 1)) = j_ := ⟨_, rfl⟩
       replace H : (if 0 ≤ (ji54) then (if (ji54) ≤ ((x0_2.extract ((ji32) : Int).toNat x0_2.size).size : Int) then (some (a0.extract 0 ((ji51) : Int).toNat, (x0_2.extract ((ji32) : Int).toNat x0_2.size).extract ((ji54) : Int).toNat (x0_2.extract ((ji32) : Int).toNat x0_2.size).size, none)) else (none)) else (none)) = some (r1, r2, r3) := by (rw [hji54] at H; exact H)
       (try rw [hji54] at A35)
       have hji54w : (IntKind.i64.wrap (t103 + 1)) = ji54 := (i64_w _).trans hji54
       by_cases c55 : 0 ≤ (ji54)
       rotate_left
       ·rw [if_neg c55] at H
        exact absurd H (by simp)
       rw [if_pos c55] at H
       have c55b0 := eq_true c55
       have c55b1 : decide (0 ≤ (ji54)) = true := decide_eq_true c55
       clear c55
       by_cases c56 : (ji54) ≤ ((x0_2.extract ((ji32) : Int).toNat x0_2.size).size : Int)
       rotate_left
       ·rw [if_neg c56] at H
        exact absurd H (by simp)
       rw [if_pos c56] at H
       have c56b0 := eq_true c56
       have c56b1 : decide ((ji54) ≤ ((x0_2.extract ((ji32) : Int).toNat x0_2.size).size : Int)) = true := decide_eq_true c56
       have c56b1s := c56b1; simp only [ByteArray.size_extract, Nat.min_self] at c56b1s
       clear c56
       simp only [Option.some.injEq, Prod.mk.injEq] at H
       obtain ⟨rfl, rfl, rfl⟩ := H
       go_wp2_with (first | (go_at_call 123; (with_reducible refine (strings_IndexByte.calls (x0_2.extract ((ji32) : Int).toNat x0_2.size) 34 t103 _ A35.out).mono ?_); rintro e w' ⟨rfl, ⟨nd, rfl⟩⟩; (try first | exact ⟨rfl, _, World.drewN_drewN _ _ _⟩ | exact ⟨rfl, _, Eq.trans (World.drewN_drewN _ _ _) (congrArg (World.drewN _) (Nat.add_assoc _ _ _))⟩); have p49 : 0 ≤ ((ji46) : Int) := of_decide_eq_true zq5; have q49 : (ji46) < ((x0_2.extract ((ji32) : Int).toNat x0_2.size).size : Int) := of_decide_eq_true zq5; have hx49 := bt_at (x0_2.extract ((ji32) : Int).toNat x0_2.size) (ji46); replace p49 := eq_true p49; replace q49 := eq_true q49))
       repeat (go_quiet (first | (go_at_call 123; (with_reducible refine (strings_IndexByte.calls (x0_2.extract ((ji32) : Int).toNat x0_2.size) 34 t103 _ A35.out).mono ?_); rintro e w' ⟨rfl, ⟨nd, rfl⟩⟩; (try first | exact ⟨rfl, _, World.drewN_drewN _ _ _⟩ | exact ⟨rfl, _, Eq.trans (World.drewN_drewN _ _ _) (congrArg (World.drewN _) (Nat.add_assoc _ _ _))⟩); have p49 : 0 ≤ ((ji46) : Int) := of_decide_eq_true zq46; have q49 : (ji46) < ((x0_2.extract ((ji32) : Int).toNat x0_2.size).size : Int) := of_decide_eq_true zq46; have hx49 := bt_at (x0_2.extract ((ji32) : Int).toNat x0_2.size) (ji46); replace p49 := eq_true p49; replace q49 := eq_true q49)); try go_wp2_with (first | (go_at_call 123; (with_reducible refine (strings_IndexByte.calls (x0_2.extract ((ji32) : Int).toNat x0_2.size) 34 t103 _ A35.out).mono ?_); rintro e w' ⟨rfl, ⟨nd, rfl⟩⟩; (try first | exact ⟨rfl, _, World.drewN_drewN _ _ _⟩ | exact ⟨rfl, _, Eq.trans (World.drewN_drewN _ _ _) (congrArg (World.drewN _) (Nat.add_assoc _ _ _))⟩); have p49 : 0 ≤ ((ji46) : Int) := of_decide_eq_true zq46; have q49 : (ji46) < ((x0_2.extract ((ji32) : Int).toNat x0_2.size).size : Int) := of_decide_eq_true zq46; have hx49 := bt_at (x0_2.extract ((ji32) : Int).toNat x0_2.size) (ji46); replace p49 := eq_true p49; replace q49 := eq_true q49)))
       go_ret3
       exact ⟨none, Zk.nn, by rfl, by repeat (first | (with_reducible first | exact HB.out | apply below_alloc | apply pw_below_drewN | apply below_drew1) | exact HB.out)⟩
end Go.Proofs.YtlokkefnbffjnaaDoor.J
end
