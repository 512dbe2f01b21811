-- printed by a turned copy of the kit's print (wip/tools/patch_print.py)
import Derived.Test.YtlokkefnbffjnaaDoorUx0
namespace Go.Proofs.YtlokkefnbffjnaaDoor.U
open Go.RowKit Go.Proofs.YtlokkefnbffjnaaDoorW.PrintWords Go.Proofs.YtlokkefnbffjnaaDoorW.PrintLast Go.Proofs.YtlokkefnbffjnaaDoorW.PrintMore
attribute [local go_sem] max2_int min2_int max_two min_two max_three min_three max_four min_four   -- for this text's walks alone
set_option linter.unusedVariables false
set_option linter.unusedSimpArgs false

/-! ### errors_New: function 54 -/
def errors_New.f (a0 : ByteArray) : Option (Option Int) := some (some 0)
theorem errors_New.calls (a0 : ByteArray) (r : Option Int) (w : World) (h : errors_New.f a0 = some r) :
    Calls Tryd.prog 54 #[.string a0] w fun e w' => ∃ z_r : Option Int, Zk z_r r ∧ e = .returned (errW z_r) ∧ Below w.heap.size w w' := by
  obtain rfl := Option.some.inj h
  go_enter Tryd.func54, Tryd.ntmps54
  go_wp2
  go_ret
  obtain ⟨z, hz, e⟩ := errW_mk 126 w.heap.size (by omega)
  exact ⟨z, hz, by rw [← e]; rfl, (Below.refl _ w).alloc (Nat.le_refl _) _⟩

end Go.Proofs.YtlokkefnbffjnaaDoor.U
