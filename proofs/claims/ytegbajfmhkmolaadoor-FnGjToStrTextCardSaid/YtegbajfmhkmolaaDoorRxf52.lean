-- printed by a turned copy of the kit's print (wip/tools/patch_print.py)
import Derived.Test.YtegbajfmhkmolaaDoorRx0
namespace Go.Proofs.YtegbajfmhkmolaaDoor.R
open Go.RowKit Go.Proofs.YtegbajfmhkmolaaDoorW.PrintWords Go.Proofs.YtegbajfmhkmolaaDoorW.PrintLast Go.Proofs.YtegbajfmhkmolaaDoorW.PrintMore
attribute [local go_sem] max2_int min2_int max_two min_two max_three min_three max_four min_four   -- for this text's walks alone
set_option linter.unusedVariables false
set_option linter.unusedSimpArgs false

/-! ### gjson_escapeHTML: function 52 -/
def gjson_escapeHTML.f  : Option (Bool) := some true
set_option maxHeartbeats 8000000 in
set_option maxRecDepth 100000 in
theorem gjson_escapeHTML.calls  (r : Bool) (w : World) (h : gjson_escapeHTML.f  = some r) :
    Calls Tryd.prog 52 #[] w fun e w' => e = .returned (.bool r) ∧ Drawn0 w w' := by
  have H : (some true) = some r := h
  clear h
  obtain rfl := Option.some.inj H
  go_enter Tryd.func52, Tryd.ntmps52
  go_wp2
  go_ret
  exact ⟨by first | rfl | (simp; done) | (simp [*]; done), by repeat (first | exact Drawn0.refl _ | apply Drawn0.step)⟩

end Go.Proofs.YtegbajfmhkmolaaDoor.R
