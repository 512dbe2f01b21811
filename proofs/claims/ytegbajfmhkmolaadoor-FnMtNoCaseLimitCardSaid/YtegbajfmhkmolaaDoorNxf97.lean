-- printed by a turned copy of the kit's print (wip/tools/patch_print.py)
import Derived.Test.YtegbajfmhkmolaaDoorNx0
namespace Go.Proofs.YtegbajfmhkmolaaDoor.N
open Go.RowKit Go.Proofs.YtegbajfmhkmolaaDoorW.PrintWords Go.Proofs.YtegbajfmhkmolaaDoorW.PrintLast Go.Proofs.YtegbajfmhkmolaaDoorW.PrintMore
attribute [local go_sem] max2_int min2_int max_two min_two max_three min_three max_four min_four   -- for this text's walks alone
set_option linter.unusedVariables false
set_option linter.unusedSimpArgs false

/-! ### utf8_DecodeLastRuneInString: function 97 -/
def utf8_DecodeLastRuneInString.f (a0 : ByteArray) : Option (Int × Int) := if a0.size ≤ 9223372036854775807 then some (((Lib.decodeLastL a0.data.toList).1 : Int), ((Lib.decodeLastL a0.data.toList).2 : Int)) else none
theorem utf8_DecodeLastRuneInString.calls (a0 : ByteArray) (r1 r2 : Int) (w : World) (hG : Laid w) (h : utf8_DecodeLastRuneInString.f a0 = some (r1, r2)) :
    Calls Tryd.prog 97 #[.string a0] w fun e w' => e = .returned (.tuple #[.int .i32 r1, .int .i64 r2]) ∧ Below w.heap.size w w' := by
  unfold utf8_DecodeLastRuneInString.f at h
  split at h
  · rename_i hs
    simp only [Option.some.injEq, Prod.mk.injEq] at h
    obtain ⟨rfl, rfl⟩ := h
    exact Tryd.utf8_DecodeLastRuneInString a0 w hs hG.utf8
  · cases h

end Go.Proofs.YtegbajfmhkmolaaDoor.N
