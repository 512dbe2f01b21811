-- printed by a turned copy of the kit's print (wip/tools/patch_print.py)
import Derived.Test.YtegbajfmhkmolaaDoorPx0
namespace Go.Proofs.YtegbajfmhkmolaaDoor.P
open Go.RowKit Go.Proofs.YtegbajfmhkmolaaDoorW.PrintWords Go.Proofs.YtegbajfmhkmolaaDoorW.PrintLast Go.Proofs.YtegbajfmhkmolaaDoorW.PrintMore
attribute [local go_sem] max2_int min2_int max_two min_two max_three min_three max_four min_four   -- for this text's walks alone
set_option linter.unusedVariables false
set_option linter.unusedSimpArgs false

/-! ### match_match0: function 60 -/
def match_match0.f (k : Nat) (a0 : ByteArray) (a1 : ByteArray) (a2 : Bool) : Option (Bool) := Go.Proofs.YtegbajfmhkmolaaDoor.N.match_match0.f k a0 a1 a2
theorem match_match0.mono : ∀ a0 a1 a2 k, LeO (match_match0.f k a0 a1 a2) (match_match0.f (k + 1) a0 a1 a2) := Go.Proofs.YtegbajfmhkmolaaDoor.N.match_match0.mono
theorem match_match0.calls (k : Nat) (a0 : ByteArray) (a1 : ByteArray) (a2 : Bool) (r : Bool) (w : World) (hG : Laid w) (h : match_match0.f k a0 a1 a2 = some r) :
    Calls Tryd.prog 60 #[.string a0, .string a1, .bool a2] w fun e w' => e = .returned (.bool r) ∧ Below w.heap.size w w' := Go.Proofs.YtegbajfmhkmolaaDoor.N.match_match0.calls k a0 a1 a2 r w hG h

end Go.Proofs.YtegbajfmhkmolaaDoor.P
