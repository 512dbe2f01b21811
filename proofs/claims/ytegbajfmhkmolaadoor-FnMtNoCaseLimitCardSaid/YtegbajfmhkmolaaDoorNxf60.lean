-- printed by a turned copy of the kit's print (wip/tools/patch_print.py)
import Derived.Test.YtegbajfmhkmolaaDoorNx0
import Derived.Test.YtegbajfmhkmolaaDoorNxf81
namespace Go.Proofs.YtegbajfmhkmolaaDoor.N
open Go.RowKit Go.Proofs.YtegbajfmhkmolaaDoorW.PrintWords Go.Proofs.YtegbajfmhkmolaaDoorW.PrintLast Go.Proofs.YtegbajfmhkmolaaDoorW.PrintMore
attribute [local go_sem] max2_int min2_int max_two min_two max_three min_three max_four min_four   -- for this text's walks alone
set_option linter.unusedVariables false
set_option linter.unusedSimpArgs false

/-! ### match_match0: function 60 -/
def match_match0.f (k : Nat) (a0 : ByteArray) (a1 : ByteArray) (a2 : Bool) : Option (Bool) := if a1.toList = ([42] : List UInt8) then (some true) else ((match_match.f k a0 a1 0 (.pointer none) (-1) a2).bind fun t101 => (some (t101 == 1)))
theorem match_match0.mono : ∀ a0 a1 a2 k, LeO (match_match0.f k a0 a1 a2) (match_match0.f (k + 1) a0 a1 a2) := by
  intro a0 a1 a2 k
  unfold match_match0.f
  repeat' first
      | (with_reducible exact match_match.mono _ _ _ _ _ _ _)
      | (with_reducible exact LeO.refl _)
      | (with_reducible exact LeO.none _)
      | (with_reducible refine LeO.ite ?_ ?_)
      | (with_reducible refine LeO.bind ?_ (fun _ => ?_))
      | exact match_match.mono _ _ _ _ _ _ _
      | exact LeO.none _
      | refine LeO.ite ?_ ?_
      | refine LeO.bind ?_ (fun _ => ?_)
set_option maxHeartbeats 8000000 in
set_option maxRecDepth 100000 in
theorem match_match0.calls (k : Nat) (a0 : ByteArray) (a1 : ByteArray) (a2 : Bool) (r : Bool) (w : World) (hG : Laid w) (h : match_match0.f k a0 a1 a2 = some r) :
    Calls Tryd.prog 60 #[.string a0, .string a1, .bool a2] w fun e w' => e = .returned (.bool r) ∧ Below w.heap.size w w' := by
  have HG := Aside0.mk hG
  clear hG
  have HB := Aside0.mk (Below.refl w.heap.size w)
  have H : (if a1.toList = ([42] : List UInt8) then (some true) else ((match_match.f k a0 a1 0 (.pointer none) (-1) a2).bind fun t101 => (some (t101 == 1)))) = some r := h
  clear h
  by_cases c4 : a1.toList = ([42] : List UInt8)
  · rw [if_pos c4] at H
    have c4b0 : (a1.toList == ([42] : List UInt8)) = true := beq_iff_eq.mpr c4
    have c4b1 : (a1.toList != ([42] : List UInt8)) = false := bne_eq_false_iff_eq.mpr c4
    clear c4
    obtain rfl := Option.some.inj H
    go_enter Tryd.func60, Tryd.ntmps60
    go_wp2
    go_ret
    exact ⟨by first | rfl | (simp [errW_none, errW_some] <;> rfl) | (simp [*, errW_none, errW_some] <;> rfl), by repeat (first | (with_reducible first | exact HB.out | apply below_alloc | apply pw_below_drewN | apply below_drew1) | exact HB.out)⟩
  · rw [if_neg c4] at H
    have c4b0 : (a1.toList == ([42] : List UInt8)) = false := beq_eq_false_iff_ne.mpr c4
    have c4b1 : (a1.toList != ([42] : List UInt8)) = true := bne_iff_ne.mpr c4
    replace H := Option.bind_eq_some_iff.mp H
    obtain ⟨t101, A50, H⟩ := H
    replace H : (some (t101 == 1)) = some r := H
    have A5 := Aside0.mk A50
    clear A50
    obtain rfl := Option.some.inj H
    go_enter Tryd.func60, Tryd.ntmps60
    go_wp2_with (first | ((with_reducible refine gate_callee (f := 81) rfl ?_); refine goesL_ (some 12) rfl rfl Tryd.func81 (by kernel_rfl) rfl #[.string a0, .string a1, .int .i64 0, (.pointer none), .int .i64 (-1), .bool a2] rfl (by (try simp only [List.map_toArray, List.map_cons, List.map_nil]); first | done | rfl | (simp only [List.length_drop, List.length_take]; rfl)) ?_; (with_reducible refine (match_match.calls k a0 a1 0 (.pointer none) (-1) a2 t101 _ ?side1 A5.out).mono ?_); (case side1 => first | exact HG.out | exact Laid.below HG.out (by repeat (first | (with_reducible first | exact HB.out | apply below_alloc | apply pw_below_drewN | apply below_drew1) | exact HB.out))); rintro e w6 ⟨rfl, hb⟩; refine ⟨_, rfl, ?_⟩; have n0_ := Aside0.mk (below_step (by repeat (first | (with_reducible first | exact HB.out | apply below_alloc | apply pw_below_drewN | apply below_drew1) | exact HB.out)) hb); clear HB; have HB := n0_; clear n0_; (try clear hb); (try clear hb2); (try clear hk); (try clear hi)))
    go_ret
    exact ⟨by first | rfl | (simp [errW_none, errW_some] <;> rfl) | (simp [*, errW_none, errW_some] <;> rfl), by repeat (first | (with_reducible first | exact HB.out | apply below_alloc | apply pw_below_drewN | apply below_drew1) | exact HB.out)⟩

end Go.Proofs.YtegbajfmhkmolaaDoor.N
