-- printed by a turned copy of the kit's print (wip/tools/patch_print.py)
import Derived.Test.YtegbajfmhkmolaaDoorPx0
import Derived.Test.YtegbajfmhkmolaaDoorPxf73
namespace Go.Proofs.YtegbajfmhkmolaaDoor.P
open Go.RowKit Go.Proofs.YtegbajfmhkmolaaDoorW.PrintWords Go.Proofs.YtegbajfmhkmolaaDoorW.PrintLast Go.Proofs.YtegbajfmhkmolaaDoorW.PrintMore
attribute [local go_sem] max2_int min2_int max_two min_two max_three min_three max_four min_four   -- for this text's walks alone
set_option linter.unusedVariables false
set_option linter.unusedSimpArgs false

/-! ### match_MatchLimitNoCase: function 46 -/
def match_MatchLimitNoCase.f (k : Nat) (a0 : ByteArray) (a1 : ByteArray) (a2 : Int) : Option (Bool × Bool) := (match_matchLimit0.f k a0 a1 a2 true).bind fun bt101 => (some (bt101.1, bt101.2))
theorem match_MatchLimitNoCase.mono : ∀ a0 a1 a2 k, LeO (match_MatchLimitNoCase.f k a0 a1 a2) (match_MatchLimitNoCase.f (k + 1) a0 a1 a2) := by
  intro a0 a1 a2 k
  unfold match_MatchLimitNoCase.f
  repeat' first
      | (with_reducible exact match_matchLimit0.mono _ _ _ _ _)
      | (with_reducible exact LeO.refl _)
      | (with_reducible exact LeO.none _)
      | (with_reducible refine LeO.ite ?_ ?_)
      | (with_reducible refine LeO.bind ?_ (fun _ => ?_))
      | exact match_matchLimit0.mono _ _ _ _ _
      | exact LeO.none _
      | refine LeO.ite ?_ ?_
      | refine LeO.bind ?_ (fun _ => ?_)
set_option maxHeartbeats 8000000 in
set_option maxRecDepth 100000 in
theorem match_MatchLimitNoCase.calls (k : Nat) (a0 : ByteArray) (a1 : ByteArray) (a2 : Int) (r1 : Bool) (r2 : Bool) (w : World) (hG : Laid w) (h : match_MatchLimitNoCase.f k a0 a1 a2 = some (r1, r2)) :
    Calls Tryd.prog 46 #[.string a0, .string a1, .int .i64 a2] w fun e w' => e = .returned (.tuple #[.bool r1, .bool r2]) ∧ Below w.heap.size w w' := by
  have HG := Aside0.mk hG
  clear hG
  have HB := Aside0.mk (Below.refl w.heap.size w)
  have H : ((match_matchLimit0.f k a0 a1 a2 true).bind fun bt101 => (some (bt101.1, bt101.2))) = some (r1, r2) := h
  clear h
  replace H := Option.bind_eq_some_iff.mp H
  obtain ⟨⟨t101, t102⟩, A40, H⟩ := H
  replace H : (some (t101, t102)) = some (r1, r2) := H
  have A4 := Aside0.mk A40
  clear A40
  simp only [Option.some.injEq, Prod.mk.injEq] at H
  obtain ⟨rfl, rfl⟩ := H
  go_enter Tryd.func46, Tryd.ntmps46
  go_wp2_with (first | ((with_reducible refine gate_callee (f := 73) rfl ?_); refine goesL_ (some 11) rfl rfl Tryd.func73 (by kernel_rfl) rfl #[.string a0, .string a1, .int .i64 a2, .bool true] rfl (by (try simp only [List.map_toArray, List.map_cons, List.map_nil]); first | done | rfl | (simp only [List.length_drop, List.length_take]; rfl)) ?_; (with_reducible refine (match_matchLimit0.calls k a0 a1 a2 true t101 t102 _ ?side1 A4.out).mono ?_); (case side1 => first | exact HG.out | exact Laid.below HG.out (by repeat (first | (with_reducible first | exact HB.out | apply below_alloc | apply pw_below_drewN | apply below_drew1) | exact HB.out))); rintro e w5 ⟨rfl, hb⟩; refine ⟨_, rfl, ?_⟩; have n0_ := Aside0.mk (below_step (by repeat (first | (with_reducible first | exact HB.out | apply below_alloc | apply pw_below_drewN | apply below_drew1) | exact HB.out)) hb); clear HB; have HB := n0_; clear n0_; (try clear hb); (try clear hb2); (try clear hk); (try clear hi)))
  go_ret2
  exact ⟨by first | rfl | (simp [errW_none, errW_some] <;> rfl) | (simp [*, errW_none, errW_some] <;> rfl), by repeat (first | (with_reducible first | exact HB.out | apply below_alloc | apply pw_below_drewN | apply below_drew1) | exact HB.out)⟩

end Go.Proofs.YtegbajfmhkmolaaDoor.P
