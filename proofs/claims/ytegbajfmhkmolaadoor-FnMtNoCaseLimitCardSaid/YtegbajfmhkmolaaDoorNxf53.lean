-- printed by a turned copy of the kit's print (wip/tools/patch_print.py)
import Derived.Test.YtegbajfmhkmolaaDoorNx0
namespace Go.Proofs.YtegbajfmhkmolaaDoor.N
open Go.RowKit Go.Proofs.YtegbajfmhkmolaaDoorW.PrintWords Go.Proofs.YtegbajfmhkmolaaDoorW.PrintLast Go.Proofs.YtegbajfmhkmolaaDoorW.PrintMore
attribute [local go_sem] max2_int min2_int max_two min_two max_three min_three max_four min_four   -- for this text's walks alone
set_option linter.unusedVariables false
set_option linter.unusedSimpArgs false

/-! ### utf8_DecodeRuneInString: function 53 -/
def utf8_DecodeRuneInString.f (a0 : ByteArray) : Option (Int × Int) := some (((Lib.decodeGo a0).1 : Int), ((Lib.decodeGo a0).2 : Int))
theorem utf8_DecodeRuneInString.calls (a0 : ByteArray) (r1 r2 : Int) (w : World) (hG : Laid w) (h : utf8_DecodeRuneInString.f a0 = some (r1, r2)) :
    Calls Tryd.prog 53 #[.string a0] w fun e w' => e = .returned (.tuple #[.int .i32 r1, .int .i64 r2]) ∧ Below w.heap.size w w' := by
  simp only [utf8_DecodeRuneInString.f, Option.some.injEq, Prod.mk.injEq] at h
  obtain ⟨rfl, rfl⟩ := h
  exact Tryd.utf8_DecodeRuneInString a0 w hG.utf8

end Go.Proofs.YtegbajfmhkmolaaDoor.N
