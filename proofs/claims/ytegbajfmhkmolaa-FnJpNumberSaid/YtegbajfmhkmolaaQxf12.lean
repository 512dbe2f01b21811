-- printed by a turned copy of the kit's print (wip/tools/patch_print.py)
import Derived.Test.YtegbajfmhkmolaaQx0
import Derived.Test.YtegbajfmhkmolaaQxf37
import Derived.Test.YtegbajfmhkmolaaQxf24
namespace Go.Proofs.Ytegbajfmhkmolaa.Q
open Go.RowKit Go.Proofs.YtegbajfmhkmolaaW.PrintWords Go.Proofs.YtegbajfmhkmolaaW.PrintLast Go.Proofs.YtegbajfmhkmolaaW.PrintMore
attribute [local go_sem] max2_int min2_int max_two min_two max_three min_three max_four min_four   -- for this text's walks alone
set_option linter.unusedVariables false
set_option linter.unusedSimpArgs false

/-! ### spec_IsNumber: function 12 -/
def spec_IsNumber.f (k : Nat) (a0 : ByteArray) : Option (Bool) := (spec_reader_number.f k a0 0).bind fun b => if b.1 = true then some (b.2.2 == (a0.size : Int)) else some false
theorem spec_IsNumber.mono : ∀ a0 k, LeO (spec_IsNumber.f k a0) (spec_IsNumber.f (k + 1) a0) := fun a0 k => LeO.bind (spec_reader_number.mono _ _ k) (fun _ => LeO.refl _)
theorem spec_IsNumber.calls (k : Nat) (a0 : ByteArray) (r : Bool) (w : World) (h : spec_IsNumber.f k a0 = some r) :
    Calls Try.prog 12 #[.string a0] w fun e w' => e = .returned (.bool r) ∧ Below w.heap.size w w' := by
  unfold spec_IsNumber.f at h
  replace h := Option.bind_eq_some_iff.mp h
  obtain ⟨⟨b, s1, at1⟩, A0, H⟩ := h
  have A := Aside0.mk A0
  have HR := Aside0.mk H
  clear A0 H
  go_enter Try.func12, Try.ntmps12
  go_wp2_with fail
  refine (spec_reader_number.calls k w.heap.size a0 0 b s1 at1 w _ (IsS43.new w w a0 0 (Below.refl _ _)) (below_alloc (Below.refl _ _) _) A.out).mono ?_
  rintro e w' ⟨rfl, hI, hB, hK⟩
  have hc1 := cellS43_1 hI.1
  have HB := Aside0.mk hB
  clear hI hB hK
  have HR1 := HR.out
  clear HR
  cases b with
  | true =>
    rw [if_pos rfl] at HR1
    obtain rfl := Option.some.inj HR1
    clear HR1
    go_wp2
    go_ret
    exact ⟨rfl, HB.out⟩
  | false =>
    rw [if_neg (by decide)] at HR1
    obtain rfl := Option.some.inj HR1
    clear HR1
    go_wp2
    go_ret
    exact ⟨rfl, HB.out⟩

end Go.Proofs.Ytegbajfmhkmolaa.Q
