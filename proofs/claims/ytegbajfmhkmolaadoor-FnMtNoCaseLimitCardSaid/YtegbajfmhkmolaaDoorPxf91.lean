-- printed by a turned copy of the kit's print (wip/tools/patch_print.py)
import Derived.Test.YtegbajfmhkmolaaDoorPx0
namespace Go.Proofs.YtegbajfmhkmolaaDoor.P
open Go.RowKit Go.Proofs.YtegbajfmhkmolaaDoorW.PrintWords Go.Proofs.YtegbajfmhkmolaaDoorW.PrintLast Go.Proofs.YtegbajfmhkmolaaDoorW.PrintMore
attribute [local go_sem] max2_int min2_int max_two min_two max_three min_three max_four min_four   -- for this text's walks alone
set_option linter.unusedVariables false
set_option linter.unusedSimpArgs false

/-! ### match_matchTrimSuffix: function 91 -/
def match_matchTrimSuffix.f (k : Nat) (a0 : ByteArray) (a1 : ByteArray) (a2 : Bool) : Option (ByteArray × ByteArray × Bool) := Go.Proofs.YtegbajfmhkmolaaDoor.N.match_matchTrimSuffix.f k a0 a1 a2
theorem match_matchTrimSuffix.mono : ∀ a0 a1 a2 k, LeO (match_matchTrimSuffix.f k a0 a1 a2) (match_matchTrimSuffix.f (k + 1) a0 a1 a2) := Go.Proofs.YtegbajfmhkmolaaDoor.N.match_matchTrimSuffix.mono
theorem match_matchTrimSuffix.calls (k : Nat) (a0 : ByteArray) (a1 : ByteArray) (a2 : Bool) (r1 : ByteArray) (r2 : ByteArray) (r3 : Bool) (w : World) (hG : Laid w) (h : match_matchTrimSuffix.f k a0 a1 a2 = some (r1, r2, r3)) :
    Calls Tryd.prog 91 #[.string a0, .string a1, .bool a2] w fun e w' => e = .returned (.tuple #[.string r1, .string r2, .bool r3]) ∧ Below w.heap.size w w' := Go.Proofs.YtegbajfmhkmolaaDoor.N.match_matchTrimSuffix.calls k a0 a1 a2 r1 r2 r3 w hG h

end Go.Proofs.YtegbajfmhkmolaaDoor.P
