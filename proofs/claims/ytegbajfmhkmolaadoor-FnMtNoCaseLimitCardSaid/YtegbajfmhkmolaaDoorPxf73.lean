-- printed by a turned copy of the kit's print (wip/tools/patch_print.py)
import Derived.Test.YtegbajfmhkmolaaDoorPx0
import Derived.Test.YtegbajfmhkmolaaDoorPxf81
namespace Go.Proofs.YtegbajfmhkmolaaDoor.P
open Go.RowKit Go.Proofs.YtegbajfmhkmolaaDoorW.PrintWords Go.Proofs.YtegbajfmhkmolaaDoorW.PrintLast Go.Proofs.YtegbajfmhkmolaaDoorW.PrintMore
attribute [local go_sem] max2_int min2_int max_two min_two max_three min_three max_four min_four   -- for this text's walks alone
set_option linter.unusedVariables false
set_option linter.unusedSimpArgs false

/-! ### match_matchLimit0: function 73 -/
def match_matchLimit0.f (k : Nat) (a0 : ByteArray) (a1 : ByteArray) (a2 : Int) (a3 : Bool) : Option (Bool × Bool) := if a1.toList = ([42] : List UInt8) then some (true, false) else ((match_match.f k a0 a1 (a0.size : Int) 0 a2 a3).bind fun b => if b.1 = 2 then some (false, true) else some (b.1 == 1, false))
theorem match_matchLimit0.mono : ∀ a0 a1 a2 a3 k, LeO (match_matchLimit0.f k a0 a1 a2 a3) (match_matchLimit0.f (k + 1) a0 a1 a2 a3) := fun _ _ _ _ k => LeO.ite (LeO.refl _) (LeO.bind (match_match.mono _ _ _ _ _ _ k) (fun _ => LeO.refl _))
set_option maxHeartbeats 8000000 in
set_option maxRecDepth 100000 in
theorem match_matchLimit0.calls (k : Nat) (a0 : ByteArray) (a1 : ByteArray) (a2 : Int) (a3 : Bool) (r1 r2 : Bool) (w : World) (hG : Laid w) (h : match_matchLimit0.f k a0 a1 a2 a3 = some (r1, r2)) :
    Calls Tryd.prog 73 #[.string a0, .string a1, .int .i64 a2, .bool a3] w fun e w' => e = .returned (.tuple #[.bool r1, .bool r2]) ∧ Below w.heap.size w w' := by
  have HG := Aside0.mk hG
  clear hG
  unfold match_matchLimit0.f at h
  by_cases c : a1.toList = ([42] : List UInt8)
  · rw [if_pos c] at h
    have cb : (a1.toList == ([42] : List UInt8)) = true := beq_iff_eq.mpr c
    clear c
    simp only [Option.some.injEq, Prod.mk.injEq] at h
    obtain ⟨rfl, rfl⟩ := h
    go_enter Tryd.func73, Tryd.ntmps73
    go_wp2
    go_ret2
    exact ⟨rfl, Below.refl _ _⟩
  · rw [if_neg c] at h
    have cb : (a1.toList == ([42] : List UInt8)) = false := beq_eq_false_iff_ne.mpr c
    clear c
    obtain ⟨⟨t1, t2⟩, A, h⟩ := Option.bind_eq_some_iff.mp h
    have HA := Aside0.mk A
    have HR := Aside0.mk h
    clear A h
    go_enter Tryd.func73, Tryd.ntmps73
    go_wp2_with fail
    refine (match_match.calls k a0 a1 (a0.size : Int) w.heap.size 0 a2 a3 t1 t2 w _ (IsS3.new w w 0 (Below.refl _ _)) (below_alloc (Below.refl _ _) _) HG.out HA.out).mono ?_
    rintro e w1 ⟨rfl, hI, hB, hK⟩
    have HB := Aside0.mk hB
    clear hI hB hK
    have hr := HR.out
    clear HR HG
    by_cases c2 : t1 = 2
    · subst c2
      simp only [if_true, Option.some.injEq, Prod.mk.injEq] at hr
      obtain ⟨rfl, rfl⟩ := hr
      go_wp2
      go_ret2
      exact ⟨rfl, HB.out⟩
    · simp only [if_neg c2, Option.some.injEq, Prod.mk.injEq] at hr
      obtain ⟨rfl, rfl⟩ := hr
      have c2b : (t1 == 2) = false := beq_eq_false_iff_ne.mpr c2
      clear c2
      go_wp2
      go_ret2
      exact ⟨rfl, HB.out⟩

end Go.Proofs.YtegbajfmhkmolaaDoor.P
