-- printed by a turned copy of the kit's print (wip/tools/patch_print.py)
import Derived.Test.YtegbajfmhkmolaaDoorQx0
namespace Go.Proofs.YtegbajfmhkmolaaDoor.Q
open Go.RowKit Go.Proofs.YtegbajfmhkmolaaDoorW.PrintWords Go.Proofs.YtegbajfmhkmolaaDoorW.PrintLast Go.Proofs.YtegbajfmhkmolaaDoorW.PrintMore
attribute [local go_sem] max2_int min2_int max_two min_two max_three min_three max_four min_four   -- for this text's walks alone
set_option linter.unusedVariables false
set_option linter.unusedSimpArgs false

/-! ### spec_digitOf: function 33 -/
def spec_digitOf.f (a0 : Int) (a1 : Bool) : Option (Int) := if a0 < 10 then (some ((wrap64 (48 + a0)) % 256)) else (if a1 = true then (some ((wrap64 ((wrap64 (65 + a0)) - 10)) % 256)) else (some ((wrap64 ((wrap64 (97 + a0)) - 10)) % 256)))
set_option maxHeartbeats 8000000 in
set_option maxRecDepth 100000 in
theorem spec_digitOf.calls (a0 : Int) (a1 : Bool) (r : Int) (w : World) (h : spec_digitOf.f a0 a1 = some r) :
    Calls Tryd.prog 33 #[.int .i64 a0, .bool a1] w fun e w' => e = .returned (.int .u8 r) ∧ Drawn0 w w' := by
  have H : (if a0 < 10 then (some ((wrap64 (48 + a0)) % 256)) else (if a1 = true then (some ((wrap64 ((wrap64 (65 + a0)) - 10)) % 256)) else (some ((wrap64 ((wrap64 (97 + a0)) - 10)) % 256)))) = some r := h
  clear h
  by_cases c3 : a0 < 10
  · rw [if_pos c3] at H
    have c3b0 : decide (a0 < 10) = true := decide_eq_true c3
    clear c3
    obtain rfl := Option.some.inj H
    go_enter Tryd.func33, Tryd.ntmps33
    go_wp2
    go_ret
    exact ⟨by first | rfl | (simp; done) | (simp [*]; done), by repeat (first | exact Drawn0.refl _ | apply Drawn0.step)⟩
  · rw [if_neg c3] at H
    have c3b0 : decide (a0 < 10) = false := decide_eq_false c3
    clear c3
    by_cases c4 : a1 = true
    · subst c4
      have H1 : (some ((wrap64 ((wrap64 (65 + a0)) - 10)) % 256)) = some r := by rw [if_pos rfl] at H; exact H
      clear H
      have H := H1
      clear H1
      obtain rfl := Option.some.inj H
      go_enter Tryd.func33, Tryd.ntmps33
      go_wp2
      go_ret
      exact ⟨by first | rfl | (simp; done) | (simp [*]; done), by repeat (first | exact Drawn0.refl _ | apply Drawn0.step)⟩
    · replace c4 := Bool.eq_false_iff.mpr c4
      subst c4
      have H1 : (some ((wrap64 ((wrap64 (97 + a0)) - 10)) % 256)) = some r := by rw [if_neg (show ¬ (false = true) by decide)] at H; exact H
      clear H
      have H := H1
      clear H1
      obtain rfl := Option.some.inj H
      go_enter Tryd.func33, Tryd.ntmps33
      go_wp2
      go_ret
      exact ⟨by first | rfl | (simp; done) | (simp [*]; done), by repeat (first | exact Drawn0.refl _ | apply Drawn0.step)⟩

end Go.Proofs.YtegbajfmhkmolaaDoor.Q
