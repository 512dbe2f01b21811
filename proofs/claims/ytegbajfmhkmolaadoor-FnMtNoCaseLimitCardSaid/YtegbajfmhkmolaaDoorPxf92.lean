-- printed by a turned copy of the kit's print (wip/tools/patch_print.py)
import Derived.Test.YtegbajfmhkmolaaDoorPx0
namespace Go.Proofs.YtegbajfmhkmolaaDoor.P
open Go.RowKit Go.Proofs.YtegbajfmhkmolaaDoorW.PrintWords Go.Proofs.YtegbajfmhkmolaaDoorW.PrintLast Go.Proofs.YtegbajfmhkmolaaDoorW.PrintMore
attribute [local go_sem] max2_int min2_int max_two min_two max_three min_three max_four min_four   -- for this text's walks alone
set_option linter.unusedVariables false
set_option linter.unusedSimpArgs false

/-! ### match_tolower: function 92 -/
def match_tolower.f (a0 : Int) : Option (Int) := Go.Proofs.YtegbajfmhkmolaaDoor.N.match_tolower.f a0
theorem match_tolower.calls (a0 : Int) (r : Int) (w : World) (h : match_tolower.f a0 = some r) :
    Calls Tryd.prog 92 #[.int .i32 a0] w fun e w' => e = .returned (.int .i32 r) ∧ Drawn0 w w' := Go.Proofs.YtegbajfmhkmolaaDoor.N.match_tolower.calls a0 r w h

end Go.Proofs.YtegbajfmhkmolaaDoor.P
