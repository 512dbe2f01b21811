-- printed by a turned copy of the kit's print (wip/tools/patch_print.py)
import Derived.Test.YtlokkefnbffjnaaDoorUx0
namespace Go.Proofs.YtlokkefnbffjnaaDoor.U
open Go.RowKit Go.Proofs.YtlokkefnbffjnaaDoorW.PrintWords Go.Proofs.YtlokkefnbffjnaaDoorW.PrintLast Go.Proofs.YtlokkefnbffjnaaDoorW.PrintMore
attribute [local go_sem] max2_int min2_int max_two min_two max_three min_three max_four min_four   -- for this text's walks alone
set_option linter.unusedVariables false
set_option linter.unusedSimpArgs false

/-! ### strconv_ParseUint: function 55 -/
def strconv_ParseUint_55.f (a0 : ByteArray) (a1 a2 : Int) : Option (Int × Option Int) :=
  if a1 = 10 ∧ a2 = 64 ∧ a0.size ≤ 281474976710656 then some (match Lib.parseUintB 64 a0.data.toList with | .ok u => ((u : Int), none) | .range => (18446744073709551615, some 0) | _ => (0, some 0)) else none
theorem strconv_ParseUint_55.calls (a0 : ByteArray) (a1 a2 : Int) (r1 : Int) (r2 : Option Int) (w : World) (hG : Laid w) (h : strconv_ParseUint_55.f a0 a1 a2 = some (r1, r2)) :
    Calls Tryd.prog 55 #[.string a0, .int .i64 a1, .int .i64 a2] w fun e w' => ∃ z_r2 : Option Int, Zk z_r2 r2 ∧ e = .returned (.tuple #[.int .u64 r1, errW z_r2]) ∧ Below w.heap.size w w' := by
  simp only [strconv_ParseUint_55.f] at h
  split at h
  case isFalse => cases h
  case isTrue hc =>
  obtain ⟨rfl, rfl, hs⟩ := hc
  obtain ⟨te, pe, hes⟩ := hG.errS
  obtain ⟨te', pe', her⟩ := hG.errR
  cases hp : Lib.parseUintB 64 a0.data.toList with
  | ok u =>
    rw [hp] at h
    cases h
    refine (Tryd.strconv_ParseUint_10_at64_ok a0 (by omega) u hp w).mono ?_
    rintro e w' ⟨rfl, hw⟩
    refine ⟨none, rfl, rfl, ?_⟩
    rcases hw with rfl | rfl
    · exact Below.refl _ _
    · exact Lib.bytesWorld_below _ _ _
  | range =>
    rw [hp] at h
    cases h
    refine (Tryd.strconv_ParseUint_10_at64_range a0 hs hp _ w her (Or.inr ⟨_, _, rfl⟩)).mono ?_
    rintro e w' ⟨N, rfl, _, _, hb⟩
    obtain ⟨z, hz, e⟩ := errW_mk 149 N (by decide)
    exact ⟨z, hz, by rw [← e], hb⟩
  | _ =>
    rw [hp] at h
    cases h
    refine (Tryd.strconv_ParseUint_10_at64_syntax a0 hs hp _ w hes (Or.inr ⟨_, _, rfl⟩)).mono ?_
    rintro e w' ⟨N, rfl, _, _, hb⟩
    obtain ⟨z, hz, e⟩ := errW_mk 149 N (by decide)
    exact ⟨z, hz, by rw [← e], hb⟩

end Go.Proofs.YtlokkefnbffjnaaDoor.U
