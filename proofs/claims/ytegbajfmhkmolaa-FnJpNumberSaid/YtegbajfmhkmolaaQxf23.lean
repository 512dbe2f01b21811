-- printed by a turned copy of the kit's print (wip/tools/patch_print.py)
import Derived.Test.YtegbajfmhkmolaaQx0
import Derived.Test.YtegbajfmhkmolaaQxf36
namespace Go.Proofs.Ytegbajfmhkmolaa.Q
open Go.RowKit Go.Proofs.YtegbajfmhkmolaaW.PrintWords Go.Proofs.YtegbajfmhkmolaaW.PrintLast Go.Proofs.YtegbajfmhkmolaaW.PrintMore
attribute [local go_sem] max2_int min2_int max_two min_two max_three min_three max_four min_four   -- for this text's walks alone
set_option linter.unusedVariables false
set_option linter.unusedSimpArgs false

/-! ### jsonparser_DoorNumber: function 23 -/
def jsonparser_DoorNumber.f (k : Nat) (a0 : ByteArray) : Option (Bool) := if a0.size ≤ 140737488351232 then jsonparser_validJSONNumber.f k (numsOf a0) else none
theorem jsonparser_DoorNumber.mono : ∀ a0 k, LeO (jsonparser_DoorNumber.f k a0) (jsonparser_DoorNumber.f (k + 1) a0) := fun a0 k => LeO.ite (jsonparser_validJSONNumber.mono _ k) (LeO.none _)
theorem jsonparser_DoorNumber.calls (k : Nat) (a0 : ByteArray) (r : Bool) (w : World) (h : jsonparser_DoorNumber.f k a0 = some r) :
    Calls Try.prog 23 #[.string a0] w fun e w' => e = .returned (.bool r) ∧ Below w.heap.size w w' := by
  unfold jsonparser_DoorNumber.f at h
  split at h
  case isFalse => cases h
  case isTrue hn =>
  have C := jsonparser_validJSONNumber.calls k _ _ (numsOf a0) r _ (bytesWorld_C w 5 a0 (by omega)) (bytesWorld_cap w 5 a0) h
  rw [numsOf_length] at C
  have H := Aside0.mk C
  clear h C
  have hcv := fun W : World => Lib.run_convert_string_bytes (P := Try.prog) W 9 25 5 a0 Try.underlying9 Try.underlying25 Try.underlying5
  go_enter Try.func23, Try.ntmps23
  go_wp2_with fail
  refine H.out.mono ?_
  rintro e w' ⟨rfl, hd⟩
  have HD := Aside0.mk ((bytesWorld_below w 5 a0).trans ((bel_lower hd.below (by rw [Lib.bytesWorld_size]; omega))))
  clear hd
  go_wp2
  go_ret
  exact ⟨rfl, HD.out⟩

end Go.Proofs.Ytegbajfmhkmolaa.Q
