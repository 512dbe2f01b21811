-- printed by a turned copy of the kit's print (wip/tools/patch_print.py)
import Derived.Test.YtegbajfmhkmolaaDoorNx0
import Derived.Test.YtegbajfmhkmolaaDoorNxf53
import Derived.Test.YtegbajfmhkmolaaDoorNxf92
import Derived.Test.YtegbajfmhkmolaaDoorNxf91
namespace Go.Proofs.YtegbajfmhkmolaaDoor.N
open Go.RowKit Go.Proofs.YtegbajfmhkmolaaDoorW.PrintWords Go.Proofs.YtegbajfmhkmolaaDoorW.PrintLast Go.Proofs.YtegbajfmhkmolaaDoorW.PrintMore
attribute [local go_sem] max2_int min2_int max_two min_two max_three min_three max_four min_four   -- for this text's walks alone
set_option linter.unusedVariables false
set_option linter.unusedSimpArgs false

/-! ### match_match: function 81 -/
mutual
def match_match.l0 : Nat → ByteArray → ByteArray → Int → Value → Int → Bool → Option (Int)
  | 0, _, _, _, _, _, _ => none
  | k + 1, x0, x1, x2, x3, x4, x5 => if (x1.size : Int) > 0 then (if 0 < (x1.size : Int) then (if (wrap32 (bt x1 0)) > 127 then ((utf8_DecodeRuneInString.f x1).bind fun bt101 => (match_match.j1 k x0 x1 x2 x3 x4 x5 false bt101.1 bt101.2)) else (match_match.j1 k x0 x1 x2 x3 x4 x5 false (wrap32 (bt x1 0)) 1)) else (none)) else (if (x0.size : Int) = 0 then (some 1) else (some 0))
def match_match.j1 : Nat → ByteArray → ByteArray → Int → Value → Int → Bool → Bool → Int → Int → Option (Int)
  | 0, _, _, _, _, _, _, _, _, _ => none
  | k + 1, x0, x1, x2, x3, x4, x5, x13, x14, x15 => if (x0.size : Int) > 0 then (if 0 < (x0.size : Int) then (if (wrap32 (bt x0 0)) > 127 then ((utf8_DecodeRuneInString.f x0).bind fun bt103 => (match_match.j2 k x0 x1 x2 x3 x4 x5 x13 x14 x15 bt103.1 bt103.2)) else (match_match.j2 k x0 x1 x2 x3 x4 x5 x13 x14 x15 (wrap32 (bt x0 0)) 1)) else (none)) else (match_match.j2 k x0 x1 x2 x3 x4 x5 x13 x14 x15 0 0)
def match_match.j2 : Nat → ByteArray → ByteArray → Int → Value → Int → Bool → Bool → Int → Int → Int → Int → Option (Int)
  | 0, _, _, _, _, _, _, _, _, _, _, _ => none
  | k + 1, x0, x1, x2, x3, x4, x5, x13, x14, x15, x16, x17 => if x14 = 63 then (if x17 = 0 then (some 0) else (if 0 ≤ x17 then (if x17 ≤ (x0.size : Int) then (if x13 = true then (match_match.l0 k (x0.extract (x17 : Int).toNat x0.size) x1 x2 x3 x4 x5) else (if 0 ≤ x15 then (if x15 ≤ (x1.size : Int) then (match_match.l0 k (x0.extract (x17 : Int).toNat x0.size) (x1.extract (x15 : Int).toNat x1.size) x2 x3 x4 x5) else (none)) else (none))) else (none)) else (none))) else (if x14 = 42 then (match_match.l1 k x0 x1 x2 x3 x4 x5 x17) else (if x17 = 0 then (some 0) else (if x14 = 92 then (if 0 ≤ x15 then (if x15 ≤ (x1.size : Int) then ((utf8_DecodeRuneInString.f (x1.extract (x15 : Int).toNat x1.size)).bind fun bt109 => (if bt109.2 = 0 then (some 0) else (match_match.j5 k x0 (x1.extract (x15 : Int).toNat x1.size) x2 x3 x4 x5 x13 bt109.1 bt109.2 x16 x17))) else (none)) else (none)) else (match_match.j5 k x0 x1 x2 x3 x4 x5 x13 x14 x15 x16 x17))))
def match_match.j4 : Nat → ByteArray → ByteArray → Int → Value → Int → Bool → Int → Option (Int)
  | 0, _, _, _, _, _, _, _ => none
  | k + 1, x0, x1, x2, x3, x4, x5, x17 => if (x1.size : Int) = 1 then (some 1) else ((match_matchTrimSuffix.f k x0 x1 x5).bind fun bt105 => (if bt105.2.2 = true then (if (bt105.2.1.size : Int) = 1 then (some 1) else (if 1 ≤ (bt105.2.1.size : Int) then ((match_match.f k bt105.1 (bt105.2.1.extract 1 bt105.2.1.size) x2 x3 x4 x5).bind fun t108 => (if t108 = 0 then (if (bt105.1.size : Int) = 0 then (some 0) else (if 0 ≤ x17 then (if x17 ≤ (bt105.1.size : Int) then (match_match.l0 k (bt105.1.extract (x17 : Int).toNat bt105.1.size) bt105.2.1 x2 x3 x4 x5) else (none)) else (none))) else (some t108))) else (none))) else (some 0)))
def match_match.l1 : Nat → ByteArray → ByteArray → Int → Value → Int → Bool → Int → Option (Int)
  | 0, _, _, _, _, _, _, _ => none
  | k + 1, x0, x1, x2, x3, x4, x5, x17 => if (x1.size : Int) > 1 then (if 1 < (x1.size : Int) then (if (bt x1 1) = 42 then (if 1 ≤ (x1.size : Int) then (match_match.l1 k x0 (x1.extract 1 x1.size) x2 x3 x4 x5 x17) else (none)) else (match_match.j4 k x0 x1 x2 x3 x4 x5 x17)) else (none)) else (match_match.j4 k x0 x1 x2 x3 x4 x5 x17)
def match_match.j5 : Nat → ByteArray → ByteArray → Int → Value → Int → Bool → Bool → Int → Int → Int → Int → Option (Int)
  | 0, _, _, _, _, _, _, _, _, _, _, _ => none
  | k + 1, x0, x1, x2, x3, x4, x5, x13, x14, x15, x16, x17 => if x5 = true then ((match_tolower.f x16).bind fun t111 => ((match_tolower.f x14).bind fun t112 => (match_match.j6 k x0 x1 x2 x3 x4 x5 x13 t112 x15 t111 x17))) else (match_match.j6 k x0 x1 x2 x3 x4 x5 x13 x14 x15 x16 x17)
def match_match.j6 : Nat → ByteArray → ByteArray → Int → Value → Int → Bool → Bool → Int → Int → Int → Int → Option (Int)
  | 0, _, _, _, _, _, _, _, _, _, _, _ => none
  | k + 1, x0, x1, x2, x3, x4, x5, x13, x14, x15, x16, x17 => if x16 = x14 then (if 0 ≤ x17 then (if x17 ≤ (x0.size : Int) then (if x13 = true then (match_match.l0 k (x0.extract (x17 : Int).toNat x0.size) x1 x2 x3 x4 x5) else (if 0 ≤ x15 then (if x15 ≤ (x1.size : Int) then (match_match.l0 k (x0.extract (x17 : Int).toNat x0.size) (x1.extract (x15 : Int).toNat x1.size) x2 x3 x4 x5) else (none)) else (none))) else (none)) else (none)) else (some 0)
def match_match.f : Nat → ByteArray → ByteArray → Int → Value → Int → Bool → Option (Int)
  | 0, _, _, _, _, _, _ => none
  | k + 1, a0, a1, a2, a3, a4, a5 => if a4 > (-1) then (none) else (match_match.l0 k a0 a1 a2 a3 a4 a5)
end
theorem match_match.mono_l : ∀ k, (∀ y0 y1 y2 y3 y4 y5, LeO (match_match.f k y0 y1 y2 y3 y4 y5) (match_match.f (k + 1) y0 y1 y2 y3 y4 y5)) ∧ (∀ y0 y1 y2 y3 y4 y5, LeO (match_match.l0 k y0 y1 y2 y3 y4 y5) (match_match.l0 (k + 1) y0 y1 y2 y3 y4 y5)) ∧ (∀ y0 y1 y2 y3 y4 y5 y6 y7 y8, LeO (match_match.j1 k y0 y1 y2 y3 y4 y5 y6 y7 y8) (match_match.j1 (k + 1) y0 y1 y2 y3 y4 y5 y6 y7 y8)) ∧ (∀ y0 y1 y2 y3 y4 y5 y6 y7 y8 y9 y10, LeO (match_match.j2 k y0 y1 y2 y3 y4 y5 y6 y7 y8 y9 y10) (match_match.j2 (k + 1) y0 y1 y2 y3 y4 y5 y6 y7 y8 y9 y10)) ∧ (∀ y0 y1 y2 y3 y4 y5 y6, LeO (match_match.j4 k y0 y1 y2 y3 y4 y5 y6) (match_match.j4 (k + 1) y0 y1 y2 y3 y4 y5 y6)) ∧ (∀ y0 y1 y2 y3 y4 y5 y6, LeO (match_match.l1 k y0 y1 y2 y3 y4 y5 y6) (match_match.l1 (k + 1) y0 y1 y2 y3 y4 y5 y6)) ∧ (∀ y0 y1 y2 y3 y4 y5 y6 y7 y8 y9 y10, LeO (match_match.j5 k y0 y1 y2 y3 y4 y5 y6 y7 y8 y9 y10) (match_match.j5 (k + 1) y0 y1 y2 y3 y4 y5 y6 y7 y8 y9 y10)) ∧ (∀ y0 y1 y2 y3 y4 y5 y6 y7 y8 y9 y10, LeO (match_match.j6 k y0 y1 y2 y3 y4 y5 y6 y7 y8 y9 y10) (match_match.j6 (k + 1) y0 y1 y2 y3 y4 y5 y6 y7 y8 y9 y10))
  | 0 => ⟨fun _ _ _ _ _ _ r h => by simp [match_match.f] at h, fun _ _ _ _ _ _ r h => by simp [match_match.l0] at h, fun _ _ _ _ _ _ _ _ _ r h => by simp [match_match.j1] at h, fun _ _ _ _ _ _ _ _ _ _ _ r h => by simp [match_match.j2] at h, fun _ _ _ _ _ _ _ r h => by simp [match_match.j4] at h, fun _ _ _ _ _ _ _ r h => by simp [match_match.l1] at h, fun _ _ _ _ _ _ _ _ _ _ _ r h => by simp [match_match.j5] at h, fun _ _ _ _ _ _ _ _ _ _ _ r h => by simp [match_match.j6] at h⟩
  | k + 1 => by
    obtain ⟨ih0, ih1, ih2, ih3, ih4, ih5, ih6, ih7⟩ := match_match.mono_l k
    refine ⟨?_, ?_, ?_, ?_, ?_, ?_, ?_, ?_⟩
    · intro y0 y1 y2 y3 y4 y5
      unfold match_match.f
      repeat' first
      | (with_reducible exact ih0 _ _ _ _ _ _)
      | (with_reducible exact ih1 _ _ _ _ _ _)
      | (with_reducible exact ih2 _ _ _ _ _ _ _ _ _)
      | (with_reducible exact ih3 _ _ _ _ _ _ _ _ _ _ _)
      | (with_reducible exact ih4 _ _ _ _ _ _ _)
      | (with_reducible exact ih5 _ _ _ _ _ _ _)
      | (with_reducible exact ih6 _ _ _ _ _ _ _ _ _ _ _)
      | (with_reducible exact ih7 _ _ _ _ _ _ _ _ _ _ _)
      | (with_reducible exact match_matchTrimSuffix.mono _ _ _ _)
      | (with_reducible exact LeO.refl _)
      | (with_reducible exact LeO.none _)
      | (with_reducible refine LeO.ite ?_ ?_)
      | (with_reducible refine LeO.bind ?_ (fun _ => ?_))
      | exact ih0 _ _ _ _ _ _
      | exact ih1 _ _ _ _ _ _
      | exact ih2 _ _ _ _ _ _ _ _ _
      | exact ih3 _ _ _ _ _ _ _ _ _ _ _
      | exact ih4 _ _ _ _ _ _ _
      | exact ih5 _ _ _ _ _ _ _
      | exact ih6 _ _ _ _ _ _ _ _ _ _ _
      | exact ih7 _ _ _ _ _ _ _ _ _ _ _
      | exact match_matchTrimSuffix.mono _ _ _ _
      | exact LeO.none _
      | refine LeO.ite ?_ ?_
      | refine LeO.bind ?_ (fun _ => ?_)
    · intro y0 y1 y2 y3 y4 y5
      unfold match_match.l0
      repeat' first
      | (with_reducible exact ih0 _ _ _ _ _ _)
      | (with_reducible exact ih1 _ _ _ _ _ _)
      | (with_reducible exact ih2 _ _ _ _ _ _ _ _ _)
      | (with_reducible exact ih3 _ _ _ _ _ _ _ _ _ _ _)
      | (with_reducible exact ih4 _ _ _ _ _ _ _)
      | (with_reducible exact ih5 _ _ _ _ _ _ _)
      | (with_reducible exact ih6 _ _ _ _ _ _ _ _ _ _ _)
      | (with_reducible exact ih7 _ _ _ _ _ _ _ _ _ _ _)
      | (with_reducible exact match_matchTrimSuffix.mono _ _ _ _)
      | (with_reducible exact LeO.refl _)
      | (with_reducible exact LeO.none _)
      | (with_reducible refine LeO.ite ?_ ?_)
      | (with_reducible refine LeO.bind ?_ (fun _ => ?_))
      | exact ih0 _ _ _ _ _ _
      | exact ih1 _ _ _ _ _ _
      | exact ih2 _ _ _ _ _ _ _ _ _
      | exact ih3 _ _ _ _ _ _ _ _ _ _ _
      | exact ih4 _ _ _ _ _ _ _
      | exact ih5 _ _ _ _ _ _ _
      | exact ih6 _ _ _ _ _ _ _ _ _ _ _
      | exact ih7 _ _ _ _ _ _ _ _ _ _ _
      | exact match_matchTrimSuffix.mono _ _ _ _
      | exact LeO.none _
      | refine LeO.ite ?_ ?_
      | refine LeO.bind ?_ (fun _ => ?_)
    · intro y0 y1 y2 y3 y4 y5 y6 y7 y8
      unfold match_match.j1
      repeat' first
      | (with_reducible exact ih0 _ _ _ _ _ _)
      | (with_reducible exact ih1 _ _ _ _ _ _)
      | (with_reducible exact ih2 _ _ _ _ _ _ _ _ _)
      | (with_reducible exact ih3 _ _ _ _ _ _ _ _ _ _ _)
      | (with_reducible exact ih4 _ _ _ _ _ _ _)
      | (with_reducible exact ih5 _ _ _ _ _ _ _)
      | (with_reducible exact ih6 _ _ _ _ _ _ _ _ _ _ _)
      | (with_reducible exact ih7 _ _ _ _ _ _ _ _ _ _ _)
      | (with_reducible exact match_matchTrimSuffix.mono _ _ _ _)
      | (with_reducible exact LeO.refl _)
      | (with_reducible exact LeO.none _)
      | (with_reducible refine LeO.ite ?_ ?_)
      | (with_reducible refine LeO.bind ?_ (fun _ => ?_))
      | exact ih0 _ _ _ _ _ _
      | exact ih1 _ _ _ _ _ _
      | exact ih2 _ _ _ _ _ _ _ _ _
      | exact ih3 _ _ _ _ _ _ _ _ _ _ _
      | exact ih4 _ _ _ _ _ _ _
      | exact ih5 _ _ _ _ _ _ _
      | exact ih6 _ _ _ _ _ _ _ _ _ _ _
      | exact ih7 _ _ _ _ _ _ _ _ _ _ _
      | exact match_matchTrimSuffix.mono _ _ _ _
      | exact LeO.none _
      | refine LeO.ite ?_ ?_
      | refine LeO.bind ?_ (fun _ => ?_)
    · intro y0 y1 y2 y3 y4 y5 y6 y7 y8 y9 y10
      unfold match_match.j2
      repeat' first
      | (with_reducible exact ih0 _ _ _ _ _ _)
      | (with_reducible exact ih1 _ _ _ _ _ _)
      | (with_reducible exact ih2 _ _ _ _ _ _ _ _ _)
      | (with_reducible exact ih3 _ _ _ _ _ _ _ _ _ _ _)
      | (with_reducible exact ih4 _ _ _ _ _ _ _)
      | (with_reducible exact ih5 _ _ _ _ _ _ _)
      | (with_reducible exact ih6 _ _ _ _ _ _ _ _ _ _ _)
      | (with_reducible exact ih7 _ _ _ _ _ _ _ _ _ _ _)
      | (with_reducible exact match_matchTrimSuffix.mono _ _ _ _)
      | (with_reducible exact LeO.refl _)
      | (with_reducible exact LeO.none _)
      | (with_reducible refine LeO.ite ?_ ?_)
      | (with_reducible refine LeO.bind ?_ (fun _ => ?_))
      | exact ih0 _ _ _ _ _ _
      | exact ih1 _ _ _ _ _ _
      | exact ih2 _ _ _ _ _ _ _ _ _
      | exact ih3 _ _ _ _ _ _ _ _ _ _ _
      | exact ih4 _ _ _ _ _ _ _
      | exact ih5 _ _ _ _ _ _ _
      | exact ih6 _ _ _ _ _ _ _ _ _ _ _
      | exact ih7 _ _ _ _ _ _ _ _ _ _ _
      | exact match_matchTrimSuffix.mono _ _ _ _
      | exact LeO.none _
      | refine LeO.ite ?_ ?_
      | refine LeO.bind ?_ (fun _ => ?_)
    · intro y0 y1 y2 y3 y4 y5 y6
      unfold match_match.j4
      repeat' first
      | (with_reducible exact ih0 _ _ _ _ _ _)
      | (with_reducible exact ih1 _ _ _ _ _ _)
      | (with_reducible exact ih2 _ _ _ _ _ _ _ _ _)
      | (with_reducible exact ih3 _ _ _ _ _ _ _ _ _ _ _)
      | (with_reducible exact ih4 _ _ _ _ _ _ _)
      | (with_reducible exact ih5 _ _ _ _ _ _ _)
      | (with_reducible exact ih6 _ _ _ _ _ _ _ _ _ _ _)
      | (with_reducible exact ih7 _ _ _ _ _ _ _ _ _ _ _)
      | (with_reducible exact match_matchTrimSuffix.mono _ _ _ _)
      | (with_reducible exact LeO.refl _)
      | (with_reducible exact LeO.none _)
      | (with_reducible refine LeO.ite ?_ ?_)
      | (with_reducible refine LeO.bind ?_ (fun _ => ?_))
      | exact ih0 _ _ _ _ _ _
      | exact ih1 _ _ _ _ _ _
      | exact ih2 _ _ _ _ _ _ _ _ _
      | exact ih3 _ _ _ _ _ _ _ _ _ _ _
      | exact ih4 _ _ _ _ _ _ _
      | exact ih5 _ _ _ _ _ _ _
      | exact ih6 _ _ _ _ _ _ _ _ _ _ _
      | exact ih7 _ _ _ _ _ _ _ _ _ _ _
      | exact match_matchTrimSuffix.mono _ _ _ _
      | exact LeO.none _
      | refine LeO.ite ?_ ?_
      | refine LeO.bind ?_ (fun _ => ?_)
    · intro y0 y1 y2 y3 y4 y5 y6
      unfold match_match.l1
      repeat' first
      | (with_reducible exact ih0 _ _ _ _ _ _)
      | (with_reducible exact ih1 _ _ _ _ _ _)
      | (with_reducible exact ih2 _ _ _ _ _ _ _ _ _)
      | (with_reducible exact ih3 _ _ _ _ _ _ _ _ _ _ _)
      | (with_reducible exact ih4 _ _ _ _ _ _ _)
      | (with_reducible exact ih5 _ _ _ _ _ _ _)
      | (with_reducible exact ih6 _ _ _ _ _ _ _ _ _ _ _)
      | (with_reducible exact ih7 _ _ _ _ _ _ _ _ _ _ _)
      | (with_reducible exact match_matchTrimSuffix.mono _ _ _ _)
      | (with_reducible exact LeO.refl _)
      | (with_reducible exact LeO.none _)
      | (with_reducible refine LeO.ite ?_ ?_)
      | (with_reducible refine LeO.bind ?_ (fun _ => ?_))
      | exact ih0 _ _ _ _ _ _
      | exact ih1 _ _ _ _ _ _
      | exact ih2 _ _ _ _ _ _ _ _ _
      | exact ih3 _ _ _ _ _ _ _ _ _ _ _
      | exact ih4 _ _ _ _ _ _ _
      | exact ih5 _ _ _ _ _ _ _
      | exact ih6 _ _ _ _ _ _ _ _ _ _ _
      | exact ih7 _ _ _ _ _ _ _ _ _ _ _
      | exact match_matchTrimSuffix.mono _ _ _ _
      | exact LeO.none _
      | refine LeO.ite ?_ ?_
      | refine LeO.bind ?_ (fun _ => ?_)
    · intro y0 y1 y2 y3 y4 y5 y6 y7 y8 y9 y10
      unfold match_match.j5
      repeat' first
      | (with_reducible exact ih0 _ _ _ _ _ _)
      | (with_reducible exact ih1 _ _ _ _ _ _)
      | (with_reducible exact ih2 _ _ _ _ _ _ _ _ _)
      | (with_reducible exact ih3 _ _ _ _ _ _ _ _ _ _ _)
      | (with_reducible exact ih4 _ _ _ _ _ _ _)
      | (with_reducible exact ih5 _ _ _ _ _ _ _)
      | (with_reducible exact ih6 _ _ _ _ _ _ _ _ _ _ _)
      | (with_reducible exact ih7 _ _ _ _ _ _ _ _ _ _ _)
      | (with_reducible exact match_matchTrimSuffix.mono _ _ _ _)
      | (with_reducible exact LeO.refl _)
      | (with_reducible exact LeO.none _)
      | (with_reducible refine LeO.ite ?_ ?_)
      | (with_reducible refine LeO.bind ?_ (fun _ => ?_))
      | exact ih0 _ _ _ _ _ _
      | exact ih1 _ _ _ _ _ _
      | exact ih2 _ _ _ _ _ _ _ _ _
      | exact ih3 _ _ _ _ _ _ _ _ _ _ _
      | exact ih4 _ _ _ _ _ _ _
      | exact ih5 _ _ _ _ _ _ _
      | exact ih6 _ _ _ _ _ _ _ _ _ _ _
      | exact ih7 _ _ _ _ _ _ _ _ _ _ _
      | exact match_matchTrimSuffix.mono _ _ _ _
      | exact LeO.none _
      | refine LeO.ite ?_ ?_
      | refine LeO.bind ?_ (fun _ => ?_)
    · intro y0 y1 y2 y3 y4 y5 y6 y7 y8 y9 y10
      unfold match_match.j6
      repeat' first
      | (with_reducible exact ih0 _ _ _ _ _ _)
      | (with_reducible exact ih1 _ _ _ _ _ _)
      | (with_reducible exact ih2 _ _ _ _ _ _ _ _ _)
      | (with_reducible exact ih3 _ _ _ _ _ _ _ _ _ _ _)
      | (with_reducible exact ih4 _ _ _ _ _ _ _)
      | (with_reducible exact ih5 _ _ _ _ _ _ _)
      | (with_reducible exact ih6 _ _ _ _ _ _ _ _ _ _ _)
      | (with_reducible exact ih7 _ _ _ _ _ _ _ _ _ _ _)
      | (with_reducible exact match_matchTrimSuffix.mono _ _ _ _)
      | (with_reducible exact LeO.refl _)
      | (with_reducible exact LeO.none _)
      | (with_reducible refine LeO.ite ?_ ?_)
      | (with_reducible refine LeO.bind ?_ (fun _ => ?_))
      | exact ih0 _ _ _ _ _ _
      | exact ih1 _ _ _ _ _ _
      | exact ih2 _ _ _ _ _ _ _ _ _
      | exact ih3 _ _ _ _ _ _ _ _ _ _ _
      | exact ih4 _ _ _ _ _ _ _
      | exact ih5 _ _ _ _ _ _ _
      | exact ih6 _ _ _ _ _ _ _ _ _ _ _
      | exact ih7 _ _ _ _ _ _ _ _ _ _ _
      | exact match_matchTrimSuffix.mono _ _ _ _
      | exact LeO.none _
      | refine LeO.ite ?_ ?_
      | refine LeO.bind ?_ (fun _ => ?_)
theorem match_match.mono : ∀ a0 a1 a2 a3 a4 a5 k, LeO (match_match.f k a0 a1 a2 a3 a4 a5) (match_match.f (k + 1) a0 a1 a2 a3 a4 a5) := by
  intro a0 a1 a2 a3 a4 a5 k
  obtain ⟨ih0, ih1, ih2, ih3, ih4, ih5, ih6, ih7⟩ := match_match.mono_l k
  exact ih0 a0 a1 a2 a3 a4 a5
set_option maxHeartbeats 8000000 in
set_option maxRecDepth 100000 in
theorem match_match.calls (k : Nat) : ∀ (a0 : ByteArray) (a1 : ByteArray) (a2 : Int) (a3 : Value) (a4 : Int) (a5 : Bool) (r : Int) (w : World) (hG : Laid w) (h : match_match.f k a0 a1 a2 a3 a4 a5 = some r),
    Calls Tryd.prog 81 #[.string a0, .string a1, .int .i64 a2, a3, .int .i64 a4, .bool a5] w fun e w' => e = .returned (.int .i64 r) ∧ Below w.heap.size w w' := by
  induction k using Nat.strongRecOn with
  | _ k ih =>
  intro a0 a1 a2 a3 a4 a5 r w hG h
  cases k with
  | zero => exact absurd h (by simp [match_match.f])
  | succ k =>
  simp only [match_match.f] at h
  have HG := Aside0.mk hG
  clear hG
  have HB := Aside0.mk (Below.refl w.heap.size w)
  have H : (if a4 > (-1) then (none) else (match_match.l0 k a0 a1 a2 a3 a4 a5)) = some r := h
  clear h
  by_cases c7 : a4 > (-1)
  · rw [if_pos c7] at H
    exact absurd H (by simp)
  · rw [if_neg c7] at H
    have c7b0 : decide ((-1) < a4) = false := decide_eq_false c7
    clear c7
    have H' := Aside0.mk H
    clear H
    go_enter Tryd.func81, Tryd.ntmps81
    go_wp2
    go_loopg [0, 1] k (fun kq v0 v1 w' => ∃ (x0_1 : ByteArray) (x1_1 : ByteArray), v0 = .string x0_1 ∧ v1 = .string x1_1 ∧ Aside0 (match_match.l0 kq x0_1 x1_1 a2 a3 a4 a5 = some r) ∧ Aside0 (kq ≤ k) ∧ Aside0 (Below w.heap.size w w'))
    case atStart => exact ⟨(a0), (a1), (by first | rfl | (simp; done) | (simp [*]; done)), (by first | rfl | (simp; done) | (simp [*]; done)), H', ⟨Nat.le_refl _⟩, ⟨by repeat (first | (with_reducible first | exact HB.out | apply below_alloc | apply pw_below_drewN | apply below_drew1) | exact HB.out)⟩⟩
    case round =>
      clear H'
      try clear p2
      try clear c7
      try clear c7b0
      obtain ⟨x0_1, x1_1, rfl, rfl, HA, HK1, HB⟩ := hrel
      cases gk with
      | zero => exact absurd HA.out (by simp [match_match.l0])
      | succ k1 =>
        have H := HA.out
        clear HA
        simp only [match_match.l0] at H
        by_cases c8 : (x1_1.size : Int) > 0
        · rw [if_pos c8] at H
          have c8b0 : decide (0 < (x1_1.size : Int)) = true := decide_eq_true c8
          have c8b1 : decide (0 < x1_1.size) = true := decide_eq_true (by omega)
          clear c8
          by_cases c9 : 0 < (x1_1.size : Int)
          · rw [if_pos c9] at H
            have c9b0 : decide (0 < (x1_1.size : Int)) = true := decide_eq_true c9
            have c9b1 : decide (0 < x1_1.size) = true := decide_eq_true (by omega)
            clear c9
            have HC11 := Aside0.mk H
            clear H
            have p10 : 0 ≤ (0 : Int) := (by omega)
            have q10 : 0 < x1_1.size := (by have : (0 : Int) < (x1_1.size : Int) := of_decide_eq_true (by first | (with_reducible assumption) | assumption); omega)
            have hx10 : ∀ h : 0 < x1_1.size, ((x1_1[0]'h).toNat : Int) = bt x1_1 0 := bt_at x1_1 0
            clear p10
            have qi10 : (0 < (x1_1.size : Int)) = True := eq_true (of_decide_eq_true (by first | (with_reducible assumption) | assumption))
            replace q10 := eq_true q10
            go_upto_if 41 with (fail)
            go_cut [14, 15] (fun v14 v15 wc => ∃ (kq : Nat) (x14_10 : Int) (x15_10 : Int), v14 = .int .i32 x14_10 ∧ v15 = .int .i64 x15_10 ∧ Aside0 (match_match.j1 kq x0_1 x1_1 a2 a3 a4 a5 false x14_10 x15_10 = some r) ∧ Aside0 (kq ≤ k1) ∧ Aside0 (Below w.heap.size w wc))
            case first =>
              have H := HC11.out
              clear HC11
              by_cases c12 : (wrap32 (bt x1_1 0)) > 127
              · rw [if_pos c12] at H
                have c12b0 : decide (127 < (wrap32 (bt x1_1 0))) = true := decide_eq_true c12
                clear c12
                (first | rw [c12b0] | (simp only [i64_w, i32_w]; rw [c12b0]) | skip)
                replace H := Option.bind_eq_some_iff.mp H
                obtain ⟨⟨t101, t102⟩, A130, H⟩ := H
                replace H : (match_match.j1 k1 x0_1 x1_1 a2 a3 a4 a5 false t101 t102) = some r := H
                have A13 := Aside0.mk A130
                clear A130
                have H' := Aside0.mk H
                clear H
                go_wp2_with (first | ((with_reducible refine gate_callee (f := 53) rfl ?_); refine goesL_ (some 44) rfl rfl Tryd.func53 (by kernel_rfl) rfl #[.string x1_1] rfl (by (try simp only [List.map_toArray, List.map_cons, List.map_nil]); first | done | rfl | (simp only [List.length_drop, List.length_take]; rfl)) ?_; (with_reducible refine (utf8_DecodeRuneInString.calls x1_1 t101 t102 _ ?side1 A13.out).mono ?_); (case side1 => first | exact HG.out | exact Laid.below HG.out (by repeat (first | (with_reducible first | exact HB.out | apply below_alloc | apply pw_below_drewN | apply below_drew1) | exact HB.out))); rintro e w14 ⟨rfl, hb⟩; refine ⟨_, rfl, ?_⟩; have n0_ := Aside0.mk (below_step (by repeat (first | (with_reducible first | exact HB.out | apply below_alloc | apply pw_below_drewN | apply below_drew1) | exact HB.out)) hb); clear HB; have HB := n0_; clear n0_; (try clear hb); (try clear hb2); (try clear hk); (try clear hi)))
                go_meet
                case rel => exact ⟨_, (t101), (t102), (by first | rfl | (simp; done) | (simp [*]; done)), (by first | rfl | (simp; done) | (simp [*]; done)), H', ⟨by have := HK1.out; first | omega | exact Nat.le_refl _⟩, ⟨by repeat (first | (with_reducible first | exact HB.out | apply below_alloc | apply pw_below_drewN | apply below_drew1) | exact HB.out)⟩⟩
              · rw [if_neg c12] at H
                have c12b0 : decide (127 < (wrap32 (bt x1_1 0))) = false := decide_eq_false c12
                clear c12
                (first | rw [c12b0] | (simp only [i64_w, i32_w]; rw [c12b0]) | skip)
                have H' := Aside0.mk H
                clear H
                go_wp2
                go_meet
                case rel => exact ⟨_, (wrap32 (bt x1_1 0)), (1), (by first | rfl | (simp; done) | (simp [*]; done)), (by first | rfl | (simp; done) | (simp [*]; done)), H', ⟨by have := HK1.out; first | omega | exact Nat.le_refl _⟩, ⟨by repeat (first | (with_reducible first | exact HB.out | apply below_alloc | apply pw_below_drewN | apply below_drew1) | exact HB.out)⟩⟩
            case rest =>
              clear HC11
              try clear c1
              try clear p1
              try clear q1
              try clear hx1
              try clear qi1
              try clear p2
              try clear p3
              try clear c5
              try clear c7
              try clear c7b0
              try clear c8
              try clear c8b0
              try clear c8b1
              try clear c9
              try clear c9b0
              try clear c9b1
              try clear p10
              try clear q10
              try clear hx10
              try clear qi10
              try clear c12
              try clear c12b0
              try clear p10
              try clear p2
              try clear q10
              obtain ⟨kq, x14_10, x15_10, rfl, rfl, HA, HJ10, HB⟩ := hcut
              cases kq with
              | zero => exact absurd HA.out (by simp [match_match.j1])
              | succ kj10 =>
                have H := HA.out
                clear HA
                simp only [match_match.j1] at H
                have HC15 := Aside0.mk H
                clear H
                go_upto_if 49 with (fail)
                go_cut [16, 17] (fun v16 v17 wc => ∃ (kq : Nat) (x16_14 : Int) (x17_14 : Int), v16 = .int .i32 x16_14 ∧ v17 = .int .i64 x17_14 ∧ Aside0 (match_match.j2 kq x0_1 x1_1 a2 a3 a4 a5 false x14_10 x15_10 x16_14 x17_14 = some r) ∧ Aside0 (kq ≤ kj10) ∧ Aside0 (Below w.heap.size w wc))
                case first =>
                  have H := HC15.out
                  clear HC15
                  by_cases c16 : (x0_1.size : Int) > 0
                  · rw [if_pos c16] at H
                    have c16b0 : decide (0 < (x0_1.size : Int)) = true := decide_eq_true c16
                    have c16b1 : decide (0 < x0_1.size) = true := decide_eq_true (by omega)
                    clear c16
                    (first | rw [c16b0] | (simp only [i64_w, i32_w]; rw [c16b0]) | rw [c16b1] | rw [if_pos (of_decide_eq_true c16b1)] | skip)
                    by_cases c17 : 0 < (x0_1.size : Int)
                    · rw [if_pos c17] at H
                      have c17b0 : decide (0 < (x0_1.size : Int)) = true := decide_eq_true c17
                      have c17b1 : decide (0 < x0_1.size) = true := decide_eq_true (by omega)
                      clear c17
                      by_cases c19 : (wrap32 (bt x0_1 0)) > 127
                      · rw [if_pos c19] at H
                        have c19b0 : decide (127 < (wrap32 (bt x0_1 0))) = true := decide_eq_true c19
                        clear c19
                        replace H := Option.bind_eq_some_iff.mp H
                        obtain ⟨⟨t103, t104⟩, A200, H⟩ := H
                        replace H : (match_match.j2 kj10 x0_1 x1_1 a2 a3 a4 a5 false x14_10 x15_10 t103 t104) = some r := H
                        have A20 := Aside0.mk A200
                        clear A200
                        have H' := Aside0.mk H
                        clear H
                        have p18 : 0 ≤ (0 : Int) := (by omega)
                        have q18 : 0 < x0_1.size := (by have : (0 : Int) < (x0_1.size : Int) := of_decide_eq_true (by first | (with_reducible assumption) | assumption); omega)
                        have hx18 : ∀ h : 0 < x0_1.size, ((x0_1[0]'h).toNat : Int) = bt x0_1 0 := bt_at x0_1 0
                        clear p18
                        have qi18 : (0 < (x0_1.size : Int)) = True := eq_true (of_decide_eq_true (by first | (with_reducible assumption) | assumption))
                        replace q18 := eq_true q18
                        go_wp2_with (first | ((with_reducible refine gate_callee (f := 53) rfl ?_); refine goesL_ (some 57) rfl rfl Tryd.func53 (by kernel_rfl) rfl #[.string x0_1] rfl (by (try simp only [List.map_toArray, List.map_cons, List.map_nil]); first | done | rfl | (simp only [List.length_drop, List.length_take]; rfl)) ?_; (with_reducible refine (utf8_DecodeRuneInString.calls x0_1 t103 t104 _ ?side1 A20.out).mono ?_); (case side1 => first | exact HG.out | exact Laid.below HG.out (by repeat (first | (with_reducible first | exact HB.out | apply below_alloc | apply pw_below_drewN | apply below_drew1) | exact HB.out))); rintro e w21 ⟨rfl, hb⟩; refine ⟨_, rfl, ?_⟩; have n0_ := Aside0.mk (below_step (by repeat (first | (with_reducible first | exact HB.out | apply below_alloc | apply pw_below_drewN | apply below_drew1) | exact HB.out)) hb); clear HB; have HB := n0_; clear n0_; (try clear hb); (try clear hb2); (try clear hk); (try clear hi)))
                        go_meet
                        case rel => exact ⟨_, (t103), (t104), (by first | rfl | (simp; done) | (simp [*]; done)), (by first | rfl | (simp; done) | (simp [*]; done)), H', ⟨by have := HK1.out; have := HJ10.out; first | omega | exact Nat.le_refl _⟩, ⟨by repeat (first | (with_reducible first | exact HB.out | apply below_alloc | apply pw_below_drewN | apply below_drew1) | exact HB.out)⟩⟩
                      · rw [if_neg c19] at H
                        have c19b0 : decide (127 < (wrap32 (bt x0_1 0))) = false := decide_eq_false c19
                        clear c19
                        have H' := Aside0.mk H
                        clear H
                        have p18 : 0 ≤ (0 : Int) := (by omega)
                        have q18 : 0 < x0_1.size := (by have : (0 : Int) < (x0_1.size : Int) := of_decide_eq_true (by first | (with_reducible assumption) | assumption); omega)
                        have hx18 : ∀ h : 0 < x0_1.size, ((x0_1[0]'h).toNat : Int) = bt x0_1 0 := bt_at x0_1 0
                        clear p18
                        have qi18 : (0 < (x0_1.size : Int)) = True := eq_true (of_decide_eq_true (by first | (with_reducible assumption) | assumption))
                        replace q18 := eq_true q18
                        go_wp2
                        go_meet
                        case rel => exact ⟨_, (wrap32 (bt x0_1 0)), (1), (by first | rfl | (simp; done) | (simp [*]; done)), (by first | rfl | (simp; done) | (simp [*]; done)), H', ⟨by have := HK1.out; have := HJ10.out; first | omega | exact Nat.le_refl _⟩, ⟨by repeat (first | (with_reducible first | exact HB.out | apply below_alloc | apply pw_below_drewN | apply below_drew1) | exact HB.out)⟩⟩
                    · rw [if_neg c17] at H
                      exact absurd H (by simp)
                  · rw [if_neg c16] at H
                    have c16b0 : decide (0 < (x0_1.size : Int)) = false := decide_eq_false c16
                    have c16b1 : decide (0 < x0_1.size) = false := decide_eq_false (by omega)
                    clear c16
                    (first | rw [c16b0] | (simp only [i64_w, i32_w]; rw [c16b0]) | rw [c16b1] | rw [if_neg (of_decide_eq_false c16b1)] | skip)
                    have H' := Aside0.mk H
                    clear H
                    go_wp2
                    go_meet
                    case rel => exact ⟨_, (0), (0), (by first | rfl | (simp; done) | (simp [*]; done)), (by first | rfl | (simp; done) | (simp [*]; done)), H', ⟨by have := HK1.out; have := HJ10.out; first | omega | exact Nat.le_refl _⟩, ⟨by repeat (first | (with_reducible first | exact HB.out | apply below_alloc | apply pw_below_drewN | apply below_drew1) | exact HB.out)⟩⟩
                case rest =>
                  clear HC15
                  try clear c1
                  try clear p1
                  try clear q1
                  try clear hx1
                  try clear qi1
                  try clear p2
                  try clear p3
                  try clear c5
                  try clear c7
                  try clear c7b0
                  try clear c8
                  try clear c8b0
                  try clear c8b1
                  try clear c9
                  try clear c9b0
                  try clear c9b1
                  try clear p10
                  try clear q10
                  try clear hx10
                  try clear qi10
                  try clear c12
                  try clear c12b0
                  try clear c16
                  try clear c16b0
                  try clear c16b1
                  try clear c17
                  try clear c17b0
                  try clear c17b1
                  try clear p18
                  try clear q18
                  try clear hx18
                  try clear qi18
                  try clear c19
                  try clear c19b0
                  try clear p1
                  try clear p10
                  try clear p18
                  try clear p2
                  try clear p3
                  try clear q1
                  try clear q10
                  try clear q18
                  obtain ⟨kq, x16_14, x17_14, rfl, rfl, HA, HJ14, HB⟩ := hcut
                  cases kq with
                  | zero => exact absurd HA.out (by simp [match_match.j2])
                  | succ kj14 =>
                    have H := HA.out
                    clear HA
                    simp only [match_match.j2] at H
                    by_cases c22 : x14_10 = 63
                    · rw [if_pos c22] at H
                      have c22b0 : (x14_10 == 63) = true := beq_iff_eq.mpr c22
                      have c22b1 : (x14_10 != 63) = false := bne_eq_false_iff_eq.mpr c22
                      clear c22
                      by_cases c23 : x17_14 = 0
                      · rw [if_pos c23] at H
                        have c23b0 : (x17_14 == 0) = true := beq_iff_eq.mpr c23
                        have c23b1 : (x17_14 != 0) = false := bne_eq_false_iff_eq.mpr c23
                        clear c23
                        obtain rfl := Option.some.inj H
                        go_wp2
                        go_ret
                        exact ⟨by first | rfl | (simp [errW_none, errW_some] <;> rfl) | (simp [*, errW_none, errW_some] <;> rfl), by repeat (first | (with_reducible first | exact HB.out | apply below_alloc | apply pw_below_drewN | apply below_drew1) | exact HB.out)⟩
                      · rw [if_neg c23] at H
                        have c23b0 : (x17_14 == 0) = false := beq_eq_false_iff_ne.mpr c23
                        have c23b1 : (x17_14 != 0) = true := bne_iff_ne.mpr c23
                        by_cases c24 : 0 ≤ x17_14
                        · rw [if_pos c24] at H
                          have c24b0 := eq_true c24
                          have c24b1 : decide (0 ≤ x17_14) = true := decide_eq_true c24
                          clear c24
                          by_cases c25 : x17_14 ≤ (x0_1.size : Int)
                          · rw [if_pos c25] at H
                            have c25b0 := eq_true c25
                            have c25b1 : decide (x17_14 ≤ (x0_1.size : Int)) = true := decide_eq_true c25
                            clear c25
                            by_cases c26 : false = true
                            · exact absurd c26 (by decide)
                            · replace c26 := Bool.eq_false_iff.mpr c26
                              clear c26
                              have H1 : (if 0 ≤ x15_10 then (if x15_10 ≤ (x1_1.size : Int) then (match_match.l0 kj14 (x0_1.extract (x17_14 : Int).toNat x0_1.size) (x1_1.extract (x15_10 : Int).toNat x1_1.size) a2 a3 a4 a5) else (none)) else (none)) = some r := by rw [if_neg (show ¬ (false = true) by decide)] at H; exact H
                              clear H
                              have H := H1
                              clear H1
                              by_cases c27 : 0 ≤ x15_10
                              · rw [if_pos c27] at H
                                have c27b0 := eq_true c27
                                have c27b1 : decide (0 ≤ x15_10) = true := decide_eq_true c27
                                clear c27
                                by_cases c28 : x15_10 ≤ (x1_1.size : Int)
                                · rw [if_pos c28] at H
                                  have c28b0 := eq_true c28
                                  have c28b1 : decide (x15_10 ≤ (x1_1.size : Int)) = true := decide_eq_true c28
                                  clear c28
                                  have H' := Aside0.mk H
                                  clear H
                                  go_wp2
                                  go_roundg kj14
                                  case measure => have := HK1.out; have := HJ10.out; have := HJ14.out; omega
                                  case rel => exact ⟨(x0_1.extract (x17_14 : Int).toNat x0_1.size), (x1_1.extract (x15_10 : Int).toNat x1_1.size), (by first | rfl | (simp; done) | (simp [*]; done)), (by first | rfl | (simp; done) | (simp [*]; done)), H', ⟨by have := HK1.out; have := HJ10.out; have := HJ14.out; omega⟩, ⟨by repeat (first | (with_reducible first | exact HB.out | apply below_alloc | apply pw_below_drewN | apply below_drew1) | exact HB.out)⟩⟩
                                · rw [if_neg c28] at H
                                  exact absurd H (by simp)
                              · rw [if_neg c27] at H
                                exact absurd H (by simp)
                          · rw [if_neg c25] at H
                            exact absurd H (by simp)
                        · rw [if_neg c24] at H
                          exact absurd H (by simp)
                    · rw [if_neg c22] at H
                      have c22b0 : (x14_10 == 63) = false := beq_eq_false_iff_ne.mpr c22
                      have c22b1 : (x14_10 != 63) = true := bne_iff_ne.mpr c22
                      by_cases c29 : x14_10 = 42
                      · rw [if_pos c29] at H
                        have c29b0 : (x14_10 == 42) = true := beq_iff_eq.mpr c29
                        have c29b1 : (x14_10 != 42) = false := bne_eq_false_iff_eq.mpr c29
                        clear c29
                        have HC30 := Aside0.mk H
                        clear H
                        go_upto_block 3 with (fail)
                        go_cut [1] (fun v1 wc => ∃ (kq : Nat) (x1_29 : ByteArray), v1 = .string x1_29 ∧ Aside0 (match_match.j4 kq x0_1 x1_29 a2 a3 a4 a5 x17_14 = some r) ∧ Aside0 (kq ≤ kj14) ∧ Aside0 (Below w.heap.size w wc))
                        case first =>
                          have H := HC30.out
                          clear HC30
                          have H' := Aside0.mk H
                          clear H
                          go_wp2
                          go_loopg [1] kj14 (fun kq v1 w' => ∃ (x1_4 : ByteArray), v1 = .string x1_4 ∧ Aside0 (match_match.l1 kq x0_1 x1_4 a2 a3 a4 a5 x17_14 = some r) ∧ Aside0 (kq ≤ kj14) ∧ Aside0 (Below w.heap.size w w'))
                          case atStart => exact ⟨(x1_1), (by first | rfl | (simp; done) | (simp [*]; done)), H', ⟨Nat.le_refl _⟩, ⟨by repeat (first | (with_reducible first | exact HB.out | apply below_alloc | apply pw_below_drewN | apply below_drew1) | exact HB.out)⟩⟩
                          case round =>
                            clear H'
                            try clear c1
                            try clear p1
                            try clear q1
                            try clear hx1
                            try clear qi1
                            try clear c2
                            try clear p2
                            try clear p3
                            try clear c5
                            try clear c7
                            try clear c7b0
                            try clear c8
                            try clear c8b0
                            try clear c8b1
                            try clear c9
                            try clear c9b0
                            try clear c9b1
                            try clear p10
                            try clear q10
                            try clear hx10
                            try clear qi10
                            try clear c12
                            try clear c12b0
                            try clear c16
                            try clear c16b0
                            try clear c16b1
                            try clear c17
                            try clear c17b0
                            try clear c17b1
                            try clear p18
                            try clear q18
                            try clear hx18
                            try clear qi18
                            try clear c19
                            try clear c19b0
                            try clear c22
                            try clear c22b0
                            try clear c22b1
                            try clear c23
                            try clear c23b0
                            try clear c23b1
                            try clear c24
                            try clear c24b0
                            try clear c24b1
                            try clear c25
                            try clear c25b0
                            try clear c25b1
                            try clear c26
                            try clear c27
                            try clear c27b0
                            try clear c27b1
                            try clear c28
                            try clear c28b0
                            try clear c28b1
                            try clear c29
                            try clear c29b0
                            try clear c29b1
                            try clear p1
                            try clear p10
                            try clear p18
                            try clear p2
                            try clear p3
                            try clear q1
                            try clear q10
                            try clear q18
                            obtain ⟨x1_4, rfl, HA, HK4, HB⟩ := hrel
                            cases gk with
                            | zero => exact absurd HA.out (by simp [match_match.l1])
                            | succ k4 =>
                              have H := HA.out
                              clear HA
                              simp only [match_match.l1] at H
                              by_cases c31 : (x1_4.size : Int) > 1
                              · rw [if_pos c31] at H
                                have c31b0 : decide (1 < (x1_4.size : Int)) = true := decide_eq_true c31
                                have c31b1 : decide (1 < x1_4.size) = true := decide_eq_true (by omega)
                                clear c31
                                (first | rw [c31b0] | (simp only [i64_w, i32_w]; rw [c31b0]) | rw [c31b1] | rw [if_pos (of_decide_eq_true c31b1)] | skip)
                                by_cases c32 : 1 < (x1_4.size : Int)
                                · rw [if_pos c32] at H
                                  have c32b0 : decide (1 < (x1_4.size : Int)) = true := decide_eq_true c32
                                  have c32b1 : decide (1 < x1_4.size) = true := decide_eq_true (by omega)
                                  clear c32
                                  by_cases c34 : (bt x1_4 1) = 42
                                  · rw [if_pos c34] at H
                                    have c34b0 : ((bt x1_4 1) == 42) = true := beq_iff_eq.mpr c34
                                    have c34b1 : ((bt x1_4 1) != 42) = false := bne_eq_false_iff_eq.mpr c34
                                    clear c34
                                    by_cases c35 : 1 ≤ (x1_4.size : Int)
                                    · rw [if_pos c35] at H
                                      have c35b0 := eq_true c35
                                      have c35b1 : decide (1 ≤ (x1_4.size : Int)) = true := decide_eq_true c35
                                      clear c35
                                      have H' := Aside0.mk H
                                      clear H
                                      have p33 : 0 ≤ (1 : Int) := (by omega)
                                      have q33 : 1 < x1_4.size := (by have : (1 : Int) < (x1_4.size : Int) := of_decide_eq_true (by first | (with_reducible assumption) | assumption); omega)
                                      have hx33 : ∀ h : 1 < x1_4.size, ((x1_4[1]'h).toNat : Int) = bt x1_4 1 := bt_at x1_4 1
                                      clear p33
                                      have qi33 : (1 < (x1_4.size : Int)) = True := eq_true (of_decide_eq_true (by first | (with_reducible assumption) | assumption))
                                      replace q33 := eq_true q33
                                      go_wp2
                                      go_roundg k4
                                      case measure => have := HK1.out; have := HJ10.out; have := HJ14.out; have := HK4.out; omega
                                      case rel => exact ⟨(x1_4.extract 1 x1_4.size), (by first | rfl | (simp; done) | (simp [*]; done)), H', ⟨by have := HK1.out; have := HJ10.out; have := HJ14.out; have := HK4.out; omega⟩, ⟨by repeat (first | (with_reducible first | exact HB.out | apply below_alloc | apply pw_below_drewN | apply below_drew1) | exact HB.out)⟩⟩
                                    · rw [if_neg c35] at H
                                      exact absurd H (by simp)
                                  · rw [if_neg c34] at H
                                    have c34b0 : ((bt x1_4 1) == 42) = false := beq_eq_false_iff_ne.mpr c34
                                    have c34b1 : ((bt x1_4 1) != 42) = true := bne_iff_ne.mpr c34
                                    have H' := Aside0.mk H
                                    clear H
                                    have p33 : 0 ≤ (1 : Int) := (by omega)
                                    have q33 : 1 < x1_4.size := (by have : (1 : Int) < (x1_4.size : Int) := of_decide_eq_true (by first | (with_reducible assumption) | assumption); omega)
                                    have hx33 : ∀ h : 1 < x1_4.size, ((x1_4[1]'h).toNat : Int) = bt x1_4 1 := bt_at x1_4 1
                                    clear p33
                                    have qi33 : (1 < (x1_4.size : Int)) = True := eq_true (of_decide_eq_true (by first | (with_reducible assumption) | assumption))
                                    replace q33 := eq_true q33
                                    go_wp2
                                    go_meet
                                    case rel => exact ⟨_, (x1_4), (by first | rfl | (simp; done) | (simp [*]; done)), H', ⟨by have := HK1.out; have := HJ10.out; have := HJ14.out; have := HK4.out; first | omega | exact Nat.le_refl _⟩, ⟨by repeat (first | (with_reducible first | exact HB.out | apply below_alloc | apply pw_below_drewN | apply below_drew1) | exact HB.out)⟩⟩
                                · rw [if_neg c32] at H
                                  exact absurd H (by simp)
                              · rw [if_neg c31] at H
                                have c31b0 : decide (1 < (x1_4.size : Int)) = false := decide_eq_false c31
                                have c31b1 : decide (1 < x1_4.size) = false := decide_eq_false (by omega)
                                clear c31
                                (first | rw [c31b0] | (simp only [i64_w, i32_w]; rw [c31b0]) | rw [c31b1] | rw [if_neg (of_decide_eq_false c31b1)] | skip)
                                have H' := Aside0.mk H
                                clear H
                                go_wp2
                                go_meet
                                case rel => exact ⟨_, (x1_4), (by first | rfl | (simp; done) | (simp [*]; done)), H', ⟨by have := HK1.out; have := HJ10.out; have := HJ14.out; have := HK4.out; first | omega | exact Nat.le_refl _⟩, ⟨by repeat (first | (with_reducible first | exact HB.out | apply below_alloc | apply pw_below_drewN | apply below_drew1) | exact HB.out)⟩⟩
                        case rest =>
                          clear HC30
                          try clear c1
                          try clear p1
                          try clear q1
                          try clear hx1
                          try clear qi1
                          try clear c2
                          try clear p2
                          try clear c3
                          try clear p3
                          try clear q3
                          try clear hx3
                          try clear qi3
                          try clear c5
                          try clear c7
                          try clear c7b0
                          try clear c8
                          try clear c8b0
                          try clear c8b1
                          try clear c9
                          try clear c9b0
                          try clear c9b1
                          try clear p10
                          try clear q10
                          try clear hx10
                          try clear qi10
                          try clear c12
                          try clear c12b0
                          try clear c16
                          try clear c16b0
                          try clear c16b1
                          try clear c17
                          try clear c17b0
                          try clear c17b1
                          try clear p18
                          try clear q18
                          try clear hx18
                          try clear qi18
                          try clear c19
                          try clear c19b0
                          try clear c22
                          try clear c22b0
                          try clear c22b1
                          try clear c23
                          try clear c23b0
                          try clear c23b1
                          try clear c24
                          try clear c24b0
                          try clear c24b1
                          try clear c25
                          try clear c25b0
                          try clear c25b1
                          try clear c26
                          try clear c27
                          try clear c27b0
                          try clear c27b1
                          try clear c28
                          try clear c28b0
                          try clear c28b1
                          try clear c29
                          try clear c29b0
                          try clear c29b1
                          try clear c31
                          try clear c31b0
                          try clear c31b1
                          try clear c32
                          try clear c32b0
                          try clear c32b1
                          try clear p32
                          try clear p33
                          try clear q33
                          try clear hx33
                          try clear qi33
                          try clear c34
                          try clear c34b0
                          try clear c34b1
                          try clear c35
                          try clear c35b0
                          try clear c35b1
                          try clear p1
                          try clear p10
                          try clear p18
                          try clear p2
                          try clear p3
                          try clear p33
                          try clear q1
                          try clear q10
                          try clear q18
                          try clear q33
                          obtain ⟨kq, x1_29, rfl, HA, HJ29, HB⟩ := hcut
                          cases kq with
                          | zero => exact absurd HA.out (by simp [match_match.j4])
                          | succ kj29 =>
                            have H := HA.out
                            clear HA
                            simp only [match_match.j4] at H
                            by_cases c36 : (x1_29.size : Int) = 1
                            · rw [if_pos c36] at H
                              have c36b0 : ((x1_29.size : Int) == 1) = true := beq_iff_eq.mpr c36
                              have c36b1 : ((x1_29.size : Int) != 1) = false := bne_eq_false_iff_eq.mpr c36
                              clear c36
                              obtain rfl := Option.some.inj H
                              go_wp2
                              go_ret
                              exact ⟨by first | rfl | (simp [errW_none, errW_some] <;> rfl) | (simp [*, errW_none, errW_some] <;> rfl), by repeat (first | (with_reducible first | exact HB.out | apply below_alloc | apply pw_below_drewN | apply below_drew1) | exact HB.out)⟩
                            · rw [if_neg c36] at H
                              have c36b0 : ((x1_29.size : Int) == 1) = false := beq_eq_false_iff_ne.mpr c36
                              have c36b1 : ((x1_29.size : Int) != 1) = true := bne_iff_ne.mpr c36
                              replace H := Option.bind_eq_some_iff.mp H
                              obtain ⟨⟨t105, t106, t107⟩, A370, H⟩ := H
                              replace H : (if t107 = true then (if (t106.size : Int) = 1 then (some 1) else (if 1 ≤ (t106.size : Int) then ((match_match.f kj29 t105 (t106.extract 1 t106.size) a2 a3 a4 a5).bind fun t108 => (if t108 = 0 then (if (t105.size : Int) = 0 then (some 0) else (if 0 ≤ x17_14 then (if x17_14 ≤ (t105.size : Int) then (match_match.l0 kj29 (t105.extract (x17_14 : Int).toNat t105.size) t106 a2 a3 a4 a5) else (none)) else (none))) else (some t108))) else (none))) else (some 0)) = some r := H
                              have A37 := Aside0.mk A370
                              clear A370
                              by_cases c38 : t107 = true
                              · subst c38
                                have H1 : (if (t106.size : Int) = 1 then (some 1) else (if 1 ≤ (t106.size : Int) then ((match_match.f kj29 t105 (t106.extract 1 t106.size) a2 a3 a4 a5).bind fun t108 => (if t108 = 0 then (if (t105.size : Int) = 0 then (some 0) else (if 0 ≤ x17_14 then (if x17_14 ≤ (t105.size : Int) then (match_match.l0 kj29 (t105.extract (x17_14 : Int).toNat t105.size) t106 a2 a3 a4 a5) else (none)) else (none))) else (some t108))) else (none))) = some r := by rw [if_pos rfl] at H; exact H
                                clear H
                                have H := H1
                                clear H1
                                by_cases c39 : (t106.size : Int) = 1
                                · rw [if_pos c39] at H
                                  have c39b0 : ((t106.size : Int) == 1) = true := beq_iff_eq.mpr c39
                                  have c39b1 : ((t106.size : Int) != 1) = false := bne_eq_false_iff_eq.mpr c39
                                  clear c39
                                  obtain rfl := Option.some.inj H
                                  go_wp2_with (first | ((with_reducible refine gate_callee (f := 91) rfl ?_); refine goesL_ (some 106) rfl rfl Tryd.func91 (by kernel_rfl) rfl #[.string x0_1, .string x1_29, .bool a5] rfl (by (try simp only [List.map_toArray, List.map_cons, List.map_nil]); first | done | rfl | (simp only [List.length_drop, List.length_take]; rfl)) ?_; (with_reducible refine (match_matchTrimSuffix.calls kj29 x0_1 x1_29 a5 t105 t106 true _ ?side1 A37.out).mono ?_); (case side1 => first | exact HG.out | exact Laid.below HG.out (by repeat (first | (with_reducible first | exact HB.out | apply below_alloc | apply pw_below_drewN | apply below_drew1) | exact HB.out))); rintro e w40 ⟨rfl, hb⟩; refine ⟨_, rfl, ?_⟩; have n0_ := Aside0.mk (below_step (by repeat (first | (with_reducible first | exact HB.out | apply below_alloc | apply pw_below_drewN | apply below_drew1) | exact HB.out)) hb); clear HB; have HB := n0_; clear n0_; (try clear hb); (try clear hb2); (try clear hk); (try clear hi)))
                                  go_ret
                                  exact ⟨by first | rfl | (simp [errW_none, errW_some] <;> rfl) | (simp [*, errW_none, errW_some] <;> rfl), by repeat (first | (with_reducible first | exact HB.out | apply below_alloc | apply pw_below_drewN | apply below_drew1) | exact HB.out)⟩
                                · rw [if_neg c39] at H
                                  have c39b0 : ((t106.size : Int) == 1) = false := beq_eq_false_iff_ne.mpr c39
                                  have c39b1 : ((t106.size : Int) != 1) = true := bne_iff_ne.mpr c39
                                  by_cases c41 : 1 ≤ (t106.size : Int)
                                  · rw [if_pos c41] at H
                                    have c41b0 := eq_true c41
                                    have c41b1 : decide (1 ≤ (t106.size : Int)) = true := decide_eq_true c41
                                    clear c41
                                    replace H := Option.bind_eq_some_iff.mp H
                                    obtain ⟨t108, A420, H⟩ := H
                                    replace H : (if t108 = 0 then (if (t105.size : Int) = 0 then (some 0) else (if 0 ≤ x17_14 then (if x17_14 ≤ (t105.size : Int) then (match_match.l0 kj29 (t105.extract (x17_14 : Int).toNat t105.size) t106 a2 a3 a4 a5) else (none)) else (none))) else (some t108)) = some r := H
                                    have A42 := Aside0.mk A420
                                    clear A420
                                    by_cases c43 : t108 = 0
                                    · rw [if_pos c43] at H
                                      have c43b0 : (t108 == 0) = true := beq_iff_eq.mpr c43
                                      have c43b1 : (t108 != 0) = false := bne_eq_false_iff_eq.mpr c43
                                      clear c43
                                      by_cases c44 : (t105.size : Int) = 0
                                      · rw [if_pos c44] at H
                                        have c44b0 : ((t105.size : Int) == 0) = true := beq_iff_eq.mpr c44
                                        have c44b1 : ((t105.size : Int) != 0) = false := bne_eq_false_iff_eq.mpr c44
                                        clear c44
                                        obtain rfl := Option.some.inj H
                                        go_wp2_with (first | ((with_reducible refine gate_callee (f := 91) rfl ?_); refine goesL_ (some 106) rfl rfl Tryd.func91 (by kernel_rfl) rfl #[.string x0_1, .string x1_29, .bool a5] rfl (by (try simp only [List.map_toArray, List.map_cons, List.map_nil]); first | done | rfl | (simp only [List.length_drop, List.length_take]; rfl)) ?_; (with_reducible refine (match_matchTrimSuffix.calls kj29 x0_1 x1_29 a5 t105 t106 true _ ?side1 A37.out).mono ?_); (case side1 => first | exact HG.out | exact Laid.below HG.out (by repeat (first | (with_reducible first | exact HB.out | apply below_alloc | apply pw_below_drewN | apply below_drew1) | exact HB.out))); rintro e w45 ⟨rfl, hb⟩; refine ⟨_, rfl, ?_⟩; have n0_ := Aside0.mk (below_step (by repeat (first | (with_reducible first | exact HB.out | apply below_alloc | apply pw_below_drewN | apply below_drew1) | exact HB.out)) hb); clear HB; have HB := n0_; clear n0_; (try clear hb); (try clear hb2); (try clear hk); (try clear hi)) | ((with_reducible refine gate_callee (f := 81) rfl ?_); refine goesL_ (some 122) rfl rfl Tryd.func81 (by kernel_rfl) rfl #[.string t105, .string (t106.extract 1 t106.size), .int .i64 a2, a3, .int .i64 a4, .bool a5] rfl (by (try simp only [List.map_toArray, List.map_cons, List.map_nil]); first | done | rfl | (simp only [List.length_drop, List.length_take]; rfl)) ?_; (with_reducible refine (ih kj29 (by have := HK1.out; have := HJ10.out; have := HJ14.out; have := HJ29.out; omega) t105 (t106.extract 1 t106.size) a2 a3 a4 a5 t108 _ ?side1 A42.out).mono ?_); (case side1 => first | exact HG.out | exact Laid.below HG.out (by repeat (first | (with_reducible first | exact HB.out | apply below_alloc | apply pw_below_drewN | apply below_drew1) | exact HB.out))); rintro e w46 ⟨rfl, hb⟩; refine ⟨_, rfl, ?_⟩; have n0_ := Aside0.mk (below_step (by repeat (first | (with_reducible first | exact HB.out | apply below_alloc | apply pw_below_drewN | apply below_drew1) | exact HB.out)) hb); clear HB; have HB := n0_; clear n0_; (try clear hb); (try clear hb2); (try clear hk); (try clear hi)))
                                        go_ret
                                        exact ⟨by first | rfl | (simp [errW_none, errW_some] <;> rfl) | (simp [*, errW_none, errW_some] <;> rfl), by repeat (first | (with_reducible first | exact HB.out | apply below_alloc | apply pw_below_drewN | apply below_drew1) | exact HB.out)⟩
                                      · rw [if_neg c44] at H
                                        have c44b0 : ((t105.size : Int) == 0) = false := beq_eq_false_iff_ne.mpr c44
                                        have c44b1 : ((t105.size : Int) != 0) = true := bne_iff_ne.mpr c44
                                        by_cases c47 : 0 ≤ x17_14
                                        · rw [if_pos c47] at H
                                          have c47b0 := eq_true c47
                                          have c47b1 : decide (0 ≤ x17_14) = true := decide_eq_true c47
                                          clear c47
                                          by_cases c48 : x17_14 ≤ (t105.size : Int)
                                          · rw [if_pos c48] at H
                                            have c48b0 := eq_true c48
                                            have c48b1 : decide (x17_14 ≤ (t105.size : Int)) = true := decide_eq_true c48
                                            clear c48
                                            have H' := Aside0.mk H
                                            clear H
                                            go_wp2_with (first | ((with_reducible refine gate_callee (f := 91) rfl ?_); refine goesL_ (some 106) rfl rfl Tryd.func91 (by kernel_rfl) rfl #[.string x0_1, .string x1_29, .bool a5] rfl (by (try simp only [List.map_toArray, List.map_cons, List.map_nil]); first | done | rfl | (simp only [List.length_drop, List.length_take]; rfl)) ?_; (with_reducible refine (match_matchTrimSuffix.calls kj29 x0_1 x1_29 a5 t105 t106 true _ ?side1 A37.out).mono ?_); (case side1 => first | exact HG.out | exact Laid.below HG.out (by repeat (first | (with_reducible first | exact HB.out | apply below_alloc | apply pw_below_drewN | apply below_drew1) | exact HB.out))); rintro e w49 ⟨rfl, hb⟩; refine ⟨_, rfl, ?_⟩; have n0_ := Aside0.mk (below_step (by repeat (first | (with_reducible first | exact HB.out | apply below_alloc | apply pw_below_drewN | apply below_drew1) | exact HB.out)) hb); clear HB; have HB := n0_; clear n0_; (try clear hb); (try clear hb2); (try clear hk); (try clear hi)) | ((with_reducible refine gate_callee (f := 81) rfl ?_); refine goesL_ (some 122) rfl rfl Tryd.func81 (by kernel_rfl) rfl #[.string t105, .string (t106.extract 1 t106.size), .int .i64 a2, a3, .int .i64 a4, .bool a5] rfl (by (try simp only [List.map_toArray, List.map_cons, List.map_nil]); first | done | rfl | (simp only [List.length_drop, List.length_take]; rfl)) ?_; (with_reducible refine (ih kj29 (by have := HK1.out; have := HJ10.out; have := HJ14.out; have := HJ29.out; omega) t105 (t106.extract 1 t106.size) a2 a3 a4 a5 t108 _ ?side1 A42.out).mono ?_); (case side1 => first | exact HG.out | exact Laid.below HG.out (by repeat (first | (with_reducible first | exact HB.out | apply below_alloc | apply pw_below_drewN | apply below_drew1) | exact HB.out))); rintro e w50 ⟨rfl, hb⟩; refine ⟨_, rfl, ?_⟩; have n0_ := Aside0.mk (below_step (by repeat (first | (with_reducible first | exact HB.out | apply below_alloc | apply pw_below_drewN | apply below_drew1) | exact HB.out)) hb); clear HB; have HB := n0_; clear n0_; (try clear hb); (try clear hb2); (try clear hk); (try clear hi)))
                                            go_roundg kj29
                                            case measure => have := HK1.out; have := HJ10.out; have := HJ14.out; have := HJ29.out; omega
                                            case rel => exact ⟨(t105.extract (x17_14 : Int).toNat t105.size), (t106), (by first | rfl | (simp; done) | (simp [*]; done)), (by first | rfl | (simp; done) | (simp [*]; done)), H', ⟨by have := HK1.out; have := HJ10.out; have := HJ14.out; have := HJ29.out; omega⟩, ⟨by repeat (first | (with_reducible first | exact HB.out | apply below_alloc | apply pw_below_drewN | apply below_drew1) | exact HB.out)⟩⟩
                                          · rw [if_neg c48] at H
                                            exact absurd H (by simp)
                                        · rw [if_neg c47] at H
                                          exact absurd H (by simp)
                                    · rw [if_neg c43] at H
                                      have c43b0 : (t108 == 0) = false := beq_eq_false_iff_ne.mpr c43
                                      have c43b1 : (t108 != 0) = true := bne_iff_ne.mpr c43
                                      obtain rfl := Option.some.inj H
                                      go_wp2_with (first | ((with_reducible refine gate_callee (f := 91) rfl ?_); refine goesL_ (some 106) rfl rfl Tryd.func91 (by kernel_rfl) rfl #[.string x0_1, .string x1_29, .bool a5] rfl (by (try simp only [List.map_toArray, List.map_cons, List.map_nil]); first | done | rfl | (simp only [List.length_drop, List.length_take]; rfl)) ?_; (with_reducible refine (match_matchTrimSuffix.calls kj29 x0_1 x1_29 a5 t105 t106 true _ ?side1 A37.out).mono ?_); (case side1 => first | exact HG.out | exact Laid.below HG.out (by repeat (first | (with_reducible first | exact HB.out | apply below_alloc | apply pw_below_drewN | apply below_drew1) | exact HB.out))); rintro e w51 ⟨rfl, hb⟩; refine ⟨_, rfl, ?_⟩; have n0_ := Aside0.mk (below_step (by repeat (first | (with_reducible first | exact HB.out | apply below_alloc | apply pw_below_drewN | apply below_drew1) | exact HB.out)) hb); clear HB; have HB := n0_; clear n0_; (try clear hb); (try clear hb2); (try clear hk); (try clear hi)) | ((with_reducible refine gate_callee (f := 81) rfl ?_); refine goesL_ (some 122) rfl rfl Tryd.func81 (by kernel_rfl) rfl #[.string t105, .string (t106.extract 1 t106.size), .int .i64 a2, a3, .int .i64 a4, .bool a5] rfl (by (try simp only [List.map_toArray, List.map_cons, List.map_nil]); first | done | rfl | (simp only [List.length_drop, List.length_take]; rfl)) ?_; (with_reducible refine (ih kj29 (by have := HK1.out; have := HJ10.out; have := HJ14.out; have := HJ29.out; omega) t105 (t106.extract 1 t106.size) a2 a3 a4 a5 t108 _ ?side1 A42.out).mono ?_); (case side1 => first | exact HG.out | exact Laid.below HG.out (by repeat (first | (with_reducible first | exact HB.out | apply below_alloc | apply pw_below_drewN | apply below_drew1) | exact HB.out))); rintro e w52 ⟨rfl, hb⟩; refine ⟨_, rfl, ?_⟩; have n0_ := Aside0.mk (below_step (by repeat (first | (with_reducible first | exact HB.out | apply below_alloc | apply pw_below_drewN | apply below_drew1) | exact HB.out)) hb); clear HB; have HB := n0_; clear n0_; (try clear hb); (try clear hb2); (try clear hk); (try clear hi)))
                                      go_ret
                                      exact ⟨by first | rfl | (simp [errW_none, errW_some] <;> rfl) | (simp [*, errW_none, errW_some] <;> rfl), by repeat (first | (with_reducible first | exact HB.out | apply below_alloc | apply pw_below_drewN | apply below_drew1) | exact HB.out)⟩
                                  · rw [if_neg c41] at H
                                    exact absurd H (by simp)
                              · replace c38 := Bool.eq_false_iff.mpr c38
                                subst c38
                                have H1 : (some 0) = some r := by rw [if_neg (show ¬ (false = true) by decide)] at H; exact H
                                clear H
                                have H := H1
                                clear H1
                                obtain rfl := Option.some.inj H
                                go_wp2_with (first | ((with_reducible refine gate_callee (f := 91) rfl ?_); refine goesL_ (some 106) rfl rfl Tryd.func91 (by kernel_rfl) rfl #[.string x0_1, .string x1_29, .bool a5] rfl (by (try simp only [List.map_toArray, List.map_cons, List.map_nil]); first | done | rfl | (simp only [List.length_drop, List.length_take]; rfl)) ?_; (with_reducible refine (match_matchTrimSuffix.calls kj29 x0_1 x1_29 a5 t105 t106 false _ ?side1 A37.out).mono ?_); (case side1 => first | exact HG.out | exact Laid.below HG.out (by repeat (first | (with_reducible first | exact HB.out | apply below_alloc | apply pw_below_drewN | apply below_drew1) | exact HB.out))); rintro e w53 ⟨rfl, hb⟩; refine ⟨_, rfl, ?_⟩; have n0_ := Aside0.mk (below_step (by repeat (first | (with_reducible first | exact HB.out | apply below_alloc | apply pw_below_drewN | apply below_drew1) | exact HB.out)) hb); clear HB; have HB := n0_; clear n0_; (try clear hb); (try clear hb2); (try clear hk); (try clear hi)))
                                go_ret
                                exact ⟨by first | rfl | (simp [errW_none, errW_some] <;> rfl) | (simp [*, errW_none, errW_some] <;> rfl), by repeat (first | (with_reducible first | exact HB.out | apply below_alloc | apply pw_below_drewN | apply below_drew1) | exact HB.out)⟩
                      · rw [if_neg c29] at H
                        have c29b0 : (x14_10 == 42) = false := beq_eq_false_iff_ne.mpr c29
                        have c29b1 : (x14_10 != 42) = true := bne_iff_ne.mpr c29
                        by_cases c54 : x17_14 = 0
                        · rw [if_pos c54] at H
                          have c54b0 : (x17_14 == 0) = true := beq_iff_eq.mpr c54
                          have c54b1 : (x17_14 != 0) = false := bne_eq_false_iff_eq.mpr c54
                          clear c54
                          obtain rfl := Option.some.inj H
                          go_wp2
                          go_ret
                          exact ⟨by first | rfl | (simp [errW_none, errW_some] <;> rfl) | (simp [*, errW_none, errW_some] <;> rfl), by repeat (first | (with_reducible first | exact HB.out | apply below_alloc | apply pw_below_drewN | apply below_drew1) | exact HB.out)⟩
                        · rw [if_neg c54] at H
                          have c54b0 : (x17_14 == 0) = false := beq_eq_false_iff_ne.mpr c54
                          have c54b1 : (x17_14 != 0) = true := bne_iff_ne.mpr c54
                          have HC55 := Aside0.mk H
                          clear H
                          go_upto_if 64 with (fail)
                          go_cut [1, 14, 15] (fun v1 v14 v15 wc => ∃ (kq : Nat) (x1_54 : ByteArray) (x14_54 : Int) (x15_54 : Int), v1 = .string x1_54 ∧ v14 = .int .i32 x14_54 ∧ v15 = .int .i64 x15_54 ∧ Aside0 (match_match.j5 kq x0_1 x1_54 a2 a3 a4 a5 false x14_54 x15_54 x16_14 x17_14 = some r) ∧ Aside0 (kq ≤ kj14) ∧ Aside0 (Below w.heap.size w wc))
                          case first =>
                            have H := HC55.out
                            clear HC55
                            by_cases c56 : x14_10 = 92
                            · rw [if_pos c56] at H
                              have c56b0 : (x14_10 == 92) = true := beq_iff_eq.mpr c56
                              have c56b1 : (x14_10 != 92) = false := bne_eq_false_iff_eq.mpr c56
                              clear c56
                              (first | rw [c56b0] | (simp only [i64_w, i32_w]; rw [c56b0]) | skip)
                              by_cases c57 : 0 ≤ x15_10
                              · rw [if_pos c57] at H
                                have c57b0 := eq_true c57
                                have c57b1 : decide (0 ≤ x15_10) = true := decide_eq_true c57
                                clear c57
                                by_cases c58 : x15_10 ≤ (x1_1.size : Int)
                                · rw [if_pos c58] at H
                                  have c58b0 := eq_true c58
                                  have c58b1 : decide (x15_10 ≤ (x1_1.size : Int)) = true := decide_eq_true c58
                                  clear c58
                                  replace H := Option.bind_eq_some_iff.mp H
                                  obtain ⟨⟨t109, t110⟩, A590, H⟩ := H
                                  replace H : (if t110 = 0 then (some 0) else (match_match.j5 kj14 x0_1 (x1_1.extract (x15_10 : Int).toNat x1_1.size) a2 a3 a4 a5 false t109 t110 x16_14 x17_14)) = some r := H
                                  have A59 := Aside0.mk A590
                                  clear A590
                                  by_cases c60 : t110 = 0
                                  · rw [if_pos c60] at H
                                    have c60b0 : (t110 == 0) = true := beq_iff_eq.mpr c60
                                    have c60b1 : (t110 != 0) = false := bne_eq_false_iff_eq.mpr c60
                                    clear c60
                                    obtain rfl := Option.some.inj H
                                    go_wp2_with (first | ((with_reducible refine gate_callee (f := 53) rfl ?_); refine goesL_ (some 70) rfl rfl Tryd.func53 (by kernel_rfl) rfl #[.string (x1_1.extract (x15_10 : Int).toNat x1_1.size)] rfl (by (try simp only [List.map_toArray, List.map_cons, List.map_nil]); first | done | rfl | (simp only [List.length_drop, List.length_take]; rfl)) ?_; (with_reducible refine (utf8_DecodeRuneInString.calls (x1_1.extract (x15_10 : Int).toNat x1_1.size) t109 t110 _ ?side1 A59.out).mono ?_); (case side1 => first | exact HG.out | exact Laid.below HG.out (by repeat (first | (with_reducible first | exact HB.out | apply below_alloc | apply pw_below_drewN | apply below_drew1) | exact HB.out))); rintro e w61 ⟨rfl, hb⟩; refine ⟨_, rfl, ?_⟩; have n0_ := Aside0.mk (below_step (by repeat (first | (with_reducible first | exact HB.out | apply below_alloc | apply pw_below_drewN | apply below_drew1) | exact HB.out)) hb); clear HB; have HB := n0_; clear n0_; (try clear hb); (try clear hb2); (try clear hk); (try clear hi)))
                                    go_ret
                                    exact ⟨by first | rfl | (simp [errW_none, errW_some] <;> rfl) | (simp [*, errW_none, errW_some] <;> rfl), by repeat (first | (with_reducible first | exact HB.out | apply below_alloc | apply pw_below_drewN | apply below_drew1) | exact HB.out)⟩
                                  · rw [if_neg c60] at H
                                    have c60b0 : (t110 == 0) = false := beq_eq_false_iff_ne.mpr c60
                                    have c60b1 : (t110 != 0) = true := bne_iff_ne.mpr c60
                                    have H' := Aside0.mk H
                                    clear H
                                    go_wp2_with (first | ((with_reducible refine gate_callee (f := 53) rfl ?_); refine goesL_ (some 70) rfl rfl Tryd.func53 (by kernel_rfl) rfl #[.string (x1_1.extract (x15_10 : Int).toNat x1_1.size)] rfl (by (try simp only [List.map_toArray, List.map_cons, List.map_nil]); first | done | rfl | (simp only [List.length_drop, List.length_take]; rfl)) ?_; (with_reducible refine (utf8_DecodeRuneInString.calls (x1_1.extract (x15_10 : Int).toNat x1_1.size) t109 t110 _ ?side1 A59.out).mono ?_); (case side1 => first | exact HG.out | exact Laid.below HG.out (by repeat (first | (with_reducible first | exact HB.out | apply below_alloc | apply pw_below_drewN | apply below_drew1) | exact HB.out))); rintro e w62 ⟨rfl, hb⟩; refine ⟨_, rfl, ?_⟩; have n0_ := Aside0.mk (below_step (by repeat (first | (with_reducible first | exact HB.out | apply below_alloc | apply pw_below_drewN | apply below_drew1) | exact HB.out)) hb); clear HB; have HB := n0_; clear n0_; (try clear hb); (try clear hb2); (try clear hk); (try clear hi)))
                                    go_meet
                                    case rel => exact ⟨_, (x1_1.extract (x15_10 : Int).toNat x1_1.size), (t109), (t110), (by first | rfl | (simp; done) | (simp [*]; done)), (by first | rfl | (simp; done) | (simp [*]; done)), (by first | rfl | (simp; done) | (simp [*]; done)), H', ⟨by have := HK1.out; have := HJ10.out; have := HJ14.out; first | omega | exact Nat.le_refl _⟩, ⟨by repeat (first | (with_reducible first | exact HB.out | apply below_alloc | apply pw_below_drewN | apply below_drew1) | exact HB.out)⟩⟩
                                · rw [if_neg c58] at H
                                  exact absurd H (by simp)
                              · rw [if_neg c57] at H
                                exact absurd H (by simp)
                            · rw [if_neg c56] at H
                              have c56b0 : (x14_10 == 92) = false := beq_eq_false_iff_ne.mpr c56
                              have c56b1 : (x14_10 != 92) = true := bne_iff_ne.mpr c56
                              (first | rw [c56b0] | (simp only [i64_w, i32_w]; rw [c56b0]) | skip)
                              have H' := Aside0.mk H
                              clear H
                              go_wp2
                              go_meet
                              case rel => exact ⟨_, (x1_1), (x14_10), (x15_10), (by first | rfl | (simp; done) | (simp [*]; done)), (by first | rfl | (simp; done) | (simp [*]; done)), (by first | rfl | (simp; done) | (simp [*]; done)), H', ⟨by have := HK1.out; have := HJ10.out; have := HJ14.out; first | omega | exact Nat.le_refl _⟩, ⟨by repeat (first | (with_reducible first | exact HB.out | apply below_alloc | apply pw_below_drewN | apply below_drew1) | exact HB.out)⟩⟩
                          case rest =>
                            clear HC55
                            try clear c1
                            try clear p1
                            try clear q1
                            try clear hx1
                            try clear qi1
                            try clear c2
                            try clear p2
                            try clear c3
                            try clear p3
                            try clear q3
                            try clear hx3
                            try clear qi3
                            try clear c4
                            try clear c5
                            try clear c6
                            try clear c7
                            try clear c7b0
                            try clear c8
                            try clear c8b0
                            try clear c8b1
                            try clear c9
                            try clear c9b0
                            try clear c9b1
                            try clear p10
                            try clear q10
                            try clear hx10
                            try clear qi10
                            try clear c12
                            try clear c12b0
                            try clear c16
                            try clear c16b0
                            try clear c16b1
                            try clear c17
                            try clear c17b0
                            try clear c17b1
                            try clear p18
                            try clear q18
                            try clear hx18
                            try clear qi18
                            try clear c19
                            try clear c19b0
                            try clear c22
                            try clear c22b0
                            try clear c22b1
                            try clear c23
                            try clear c23b0
                            try clear c23b1
                            try clear c24
                            try clear c24b0
                            try clear c24b1
                            try clear c25
                            try clear c25b0
                            try clear c25b1
                            try clear c26
                            try clear c27
                            try clear c27b0
                            try clear c27b1
                            try clear c28
                            try clear c28b0
                            try clear c28b1
                            try clear c29
                            try clear c29b0
                            try clear c29b1
                            try clear c31
                            try clear c31b0
                            try clear c31b1
                            try clear c32
                            try clear c32b0
                            try clear c32b1
                            try clear p32
                            try clear p33
                            try clear q33
                            try clear hx33
                            try clear qi33
                            try clear c34
                            try clear c34b0
                            try clear c34b1
                            try clear c35
                            try clear c35b0
                            try clear c35b1
                            try clear c36
                            try clear c36b0
                            try clear c36b1
                            try clear c38
                            try clear c39
                            try clear c39b0
                            try clear c39b1
                            try clear c41
                            try clear c41b0
                            try clear c41b1
                            try clear c43
                            try clear c43b0
                            try clear c43b1
                            try clear c44
                            try clear c44b0
                            try clear c44b1
                            try clear c47
                            try clear c47b0
                            try clear c47b1
                            try clear c48
                            try clear c48b0
                            try clear c48b1
                            try clear c53
                            try clear c54
                            try clear c54b0
                            try clear c54b1
                            try clear c56
                            try clear c56b0
                            try clear c56b1
                            try clear c57
                            try clear c57b0
                            try clear c57b1
                            try clear c58
                            try clear c58b0
                            try clear c58b1
                            try clear c60
                            try clear c60b0
                            try clear c60b1
                            try clear p1
                            try clear p10
                            try clear p18
                            try clear p2
                            try clear p3
                            try clear p32
                            try clear p33
                            try clear q1
                            try clear q10
                            try clear q18
                            try clear q3
                            try clear q33
                            obtain ⟨kq, x1_54, x14_54, x15_54, rfl, rfl, rfl, HA, HJ54, HB⟩ := hcut
                            cases kq with
                            | zero => exact absurd HA.out (by simp [match_match.j5])
                            | succ kj54 =>
                              have H := HA.out
                              clear HA
                              simp only [match_match.j5] at H
                              have HC63 := Aside0.mk H
                              clear H
                              go_upto_if 75 with (fail)
                              go_cut [14, 16] (fun v14 v16 wc => ∃ (kq : Nat) (x14_62 : Int) (x16_62 : Int), v14 = .int .i32 x14_62 ∧ v16 = .int .i32 x16_62 ∧ Aside0 (match_match.j6 kq x0_1 x1_54 a2 a3 a4 a5 false x14_62 x15_54 x16_62 x17_14 = some r) ∧ Aside0 (kq ≤ kj54) ∧ Aside0 (Below w.heap.size w wc))
                              case first =>
                                have H := HC63.out
                                clear HC63
                                by_cases c64 : a5 = true
                                · subst c64
                                  have H1 : ((match_tolower.f x16_14).bind fun t111 => ((match_tolower.f x14_54).bind fun t112 => (match_match.j6 kj54 x0_1 x1_54 a2 a3 a4 true false t112 x15_54 t111 x17_14))) = some r := by rw [if_pos rfl] at H; exact H
                                  clear H
                                  have H := H1
                                  clear H1
                                  replace H := Option.bind_eq_some_iff.mp H
                                  obtain ⟨t111, A650, H⟩ := H
                                  replace H : ((match_tolower.f x14_54).bind fun t112 => (match_match.j6 kj54 x0_1 x1_54 a2 a3 a4 true false t112 x15_54 t111 x17_14)) = some r := H
                                  have A65 := Aside0.mk A650
                                  clear A650
                                  replace H := Option.bind_eq_some_iff.mp H
                                  obtain ⟨t112, A660, H⟩ := H
                                  replace H : (match_match.j6 kj54 x0_1 x1_54 a2 a3 a4 true false t112 x15_54 t111 x17_14) = some r := H
                                  have A66 := Aside0.mk A660
                                  clear A660
                                  have H' := Aside0.mk H
                                  clear H
                                  go_wp2_with (first | ((with_reducible refine gate_callee (f := 92) rfl ?_); refine goesL_ (some 77) rfl rfl Tryd.func92 (by kernel_rfl) rfl #[.int .i32 x16_14] rfl (by (try simp only [List.map_toArray, List.map_cons, List.map_nil]); first | done | rfl | (simp only [List.length_drop, List.length_take]; rfl)) ?_; (with_reducible refine (match_tolower.calls x16_14 t111 _ A65.out).mono ?_); rintro e w' ⟨rfl, ⟨nd, rfl⟩⟩; refine ⟨_, rfl, ?_⟩) | ((with_reducible refine gate_callee (f := 92) rfl ?_); refine goesL_ (some 79) rfl rfl Tryd.func92 (by kernel_rfl) rfl #[.int .i32 x14_54] rfl (by (try simp only [List.map_toArray, List.map_cons, List.map_nil]); first | done | rfl | (simp only [List.length_drop, List.length_take]; rfl)) ?_; (with_reducible refine (match_tolower.calls x14_54 t112 _ A66.out).mono ?_); rintro e w' ⟨rfl, ⟨nd, rfl⟩⟩; refine ⟨_, rfl, ?_⟩))
                                  go_meet
                                  case rel => exact ⟨_, (t112), (t111), (by first | rfl | (simp; done) | (simp [*]; done)), (by first | rfl | (simp; done) | (simp [*]; done)), H', ⟨by have := HK1.out; have := HJ10.out; have := HJ14.out; have := HJ54.out; first | omega | exact Nat.le_refl _⟩, ⟨by repeat (first | (with_reducible first | exact HB.out | apply below_alloc | apply pw_below_drewN | apply below_drew1) | exact HB.out)⟩⟩
                                · replace c64 := Bool.eq_false_iff.mpr c64
                                  subst c64
                                  have H1 : (match_match.j6 kj54 x0_1 x1_54 a2 a3 a4 false false x14_54 x15_54 x16_14 x17_14) = some r := by rw [if_neg (show ¬ (false = true) by decide)] at H; exact H
                                  clear H
                                  have H := H1
                                  clear H1
                                  have H' := Aside0.mk H
                                  clear H
                                  go_wp2
                                  go_meet
                                  case rel => exact ⟨_, (x14_54), (x16_14), (by first | rfl | (simp; done) | (simp [*]; done)), (by first | rfl | (simp; done) | (simp [*]; done)), H', ⟨by have := HK1.out; have := HJ10.out; have := HJ14.out; have := HJ54.out; first | omega | exact Nat.le_refl _⟩, ⟨by repeat (first | (with_reducible first | exact HB.out | apply below_alloc | apply pw_below_drewN | apply below_drew1) | exact HB.out)⟩⟩
                              case rest =>
                                clear HC63
                                try clear c1
                                try clear p1
                                try clear q1
                                try clear hx1
                                try clear qi1
                                try clear c2
                                try clear p2
                                try clear c3
                                try clear p3
                                try clear q3
                                try clear hx3
                                try clear qi3
                                try clear c4
                                try clear c5
                                try clear c6
                                try clear c7
                                try clear c7b0
                                try clear c8
                                try clear c8b0
                                try clear c8b1
                                try clear c9
                                try clear c9b0
                                try clear c9b1
                                try clear p10
                                try clear q10
                                try clear hx10
                                try clear qi10
                                try clear c12
                                try clear c12b0
                                try clear c16
                                try clear c16b0
                                try clear c16b1
                                try clear c17
                                try clear c17b0
                                try clear c17b1
                                try clear p18
                                try clear q18
                                try clear hx18
                                try clear qi18
                                try clear c19
                                try clear c19b0
                                try clear c22
                                try clear c22b0
                                try clear c22b1
                                try clear c23
                                try clear c23b0
                                try clear c23b1
                                try clear c24
                                try clear c24b0
                                try clear c24b1
                                try clear c25
                                try clear c25b0
                                try clear c25b1
                                try clear c26
                                try clear c27
                                try clear c27b0
                                try clear c27b1
                                try clear c28
                                try clear c28b0
                                try clear c28b1
                                try clear c29
                                try clear c29b0
                                try clear c29b1
                                try clear c31
                                try clear c31b0
                                try clear c31b1
                                try clear c32
                                try clear c32b0
                                try clear c32b1
                                try clear p32
                                try clear p33
                                try clear q33
                                try clear hx33
                                try clear qi33
                                try clear c34
                                try clear c34b0
                                try clear c34b1
                                try clear c35
                                try clear c35b0
                                try clear c35b1
                                try clear c36
                                try clear c36b0
                                try clear c36b1
                                try clear c38
                                try clear c39
                                try clear c39b0
                                try clear c39b1
                                try clear c41
                                try clear c41b0
                                try clear c41b1
                                try clear c43
                                try clear c43b0
                                try clear c43b1
                                try clear c44
                                try clear c44b0
                                try clear c44b1
                                try clear c47
                                try clear c47b0
                                try clear c47b1
                                try clear c48
                                try clear c48b0
                                try clear c48b1
                                try clear c53
                                try clear c54
                                try clear c54b0
                                try clear c54b1
                                try clear c56
                                try clear c56b0
                                try clear c56b1
                                try clear c57
                                try clear c57b0
                                try clear c57b1
                                try clear c58
                                try clear c58b0
                                try clear c58b1
                                try clear c60
                                try clear c60b0
                                try clear c60b1
                                try clear c64
                                try clear p1
                                try clear p10
                                try clear p18
                                try clear p2
                                try clear p3
                                try clear p32
                                try clear p33
                                try clear q1
                                try clear q10
                                try clear q18
                                try clear q3
                                try clear q33
                                obtain ⟨kq, x14_62, x16_62, rfl, rfl, HA, HJ62, HB⟩ := hcut
                                cases kq with
                                | zero => exact absurd HA.out (by simp [match_match.j6])
                                | succ kj62 =>
                                  have H := HA.out
                                  clear HA
                                  simp only [match_match.j6] at H
                                  by_cases c67 : x16_62 = x14_62
                                  · rw [if_pos c67] at H
                                    have c67b0 : (x16_62 == x14_62) = true := beq_iff_eq.mpr c67
                                    have c67b1 : (x16_62 != x14_62) = false := bne_eq_false_iff_eq.mpr c67
                                    clear c67
                                    by_cases c68 : 0 ≤ x17_14
                                    · rw [if_pos c68] at H
                                      have c68b0 := eq_true c68
                                      have c68b1 : decide (0 ≤ x17_14) = true := decide_eq_true c68
                                      clear c68
                                      by_cases c69 : x17_14 ≤ (x0_1.size : Int)
                                      · rw [if_pos c69] at H
                                        have c69b0 := eq_true c69
                                        have c69b1 : decide (x17_14 ≤ (x0_1.size : Int)) = true := decide_eq_true c69
                                        clear c69
                                        by_cases c70 : false = true
                                        · exact absurd c70 (by decide)
                                        · replace c70 := Bool.eq_false_iff.mpr c70
                                          clear c70
                                          have H1 : (if 0 ≤ x15_54 then (if x15_54 ≤ (x1_54.size : Int) then (match_match.l0 kj62 (x0_1.extract (x17_14 : Int).toNat x0_1.size) (x1_54.extract (x15_54 : Int).toNat x1_54.size) a2 a3 a4 a5) else (none)) else (none)) = some r := by rw [if_neg (show ¬ (false = true) by decide)] at H; exact H
                                          clear H
                                          have H := H1
                                          clear H1
                                          by_cases c71 : 0 ≤ x15_54
                                          · rw [if_pos c71] at H
                                            have c71b0 := eq_true c71
                                            have c71b1 : decide (0 ≤ x15_54) = true := decide_eq_true c71
                                            clear c71
                                            by_cases c72 : x15_54 ≤ (x1_54.size : Int)
                                            · rw [if_pos c72] at H
                                              have c72b0 := eq_true c72
                                              have c72b1 : decide (x15_54 ≤ (x1_54.size : Int)) = true := decide_eq_true c72
                                              clear c72
                                              have H' := Aside0.mk H
                                              clear H
                                              go_wp2
                                              go_roundg kj62
                                              case measure => have := HK1.out; have := HJ10.out; have := HJ14.out; have := HJ54.out; have := HJ62.out; omega
                                              case rel => exact ⟨(x0_1.extract (x17_14 : Int).toNat x0_1.size), (x1_54.extract (x15_54 : Int).toNat x1_54.size), (by first | rfl | (simp; done) | (simp [*]; done)), (by first | rfl | (simp; done) | (simp [*]; done)), H', ⟨by have := HK1.out; have := HJ10.out; have := HJ14.out; have := HJ54.out; have := HJ62.out; omega⟩, ⟨by repeat (first | (with_reducible first | exact HB.out | apply below_alloc | apply pw_below_drewN | apply below_drew1) | exact HB.out)⟩⟩
                                            · rw [if_neg c72] at H
                                              exact absurd H (by simp)
                                          · rw [if_neg c71] at H
                                            exact absurd H (by simp)
                                      · rw [if_neg c69] at H
                                        exact absurd H (by simp)
                                    · rw [if_neg c68] at H
                                      exact absurd H (by simp)
                                  · rw [if_neg c67] at H
                                    have c67b0 : (x16_62 == x14_62) = false := beq_eq_false_iff_ne.mpr c67
                                    have c67b1 : (x16_62 != x14_62) = true := bne_iff_ne.mpr c67
                                    obtain rfl := Option.some.inj H
                                    go_wp2
                                    go_ret
                                    exact ⟨by first | rfl | (simp [errW_none, errW_some] <;> rfl) | (simp [*, errW_none, errW_some] <;> rfl), by repeat (first | (with_reducible first | exact HB.out | apply below_alloc | apply pw_below_drewN | apply below_drew1) | exact HB.out)⟩
          · rw [if_neg c9] at H
            exact absurd H (by simp)
        · rw [if_neg c8] at H
          have c8b0 : decide (0 < (x1_1.size : Int)) = false := decide_eq_false c8
          have c8b1 : decide (0 < x1_1.size) = false := decide_eq_false (by omega)
          clear c8
          by_cases c73 : (x0_1.size : Int) = 0
          · rw [if_pos c73] at H
            have c73b0 : ((x0_1.size : Int) == 0) = true := beq_iff_eq.mpr c73
            have c73b1 : ((x0_1.size : Int) != 0) = false := bne_eq_false_iff_eq.mpr c73
            clear c73
            obtain rfl := Option.some.inj H
            go_wp2
            go_ret
            exact ⟨by first | rfl | (simp [errW_none, errW_some] <;> rfl) | (simp [*, errW_none, errW_some] <;> rfl), by repeat (first | (with_reducible first | exact HB.out | apply below_alloc | apply pw_below_drewN | apply below_drew1) | exact HB.out)⟩
          · rw [if_neg c73] at H
            have c73b0 : ((x0_1.size : Int) == 0) = false := beq_eq_false_iff_ne.mpr c73
            have c73b1 : ((x0_1.size : Int) != 0) = true := bne_iff_ne.mpr c73
            obtain rfl := Option.some.inj H
            go_wp2
            go_ret
            exact ⟨by first | rfl | (simp [errW_none, errW_some] <;> rfl) | (simp [*, errW_none, errW_some] <;> rfl), by repeat (first | (with_reducible first | exact HB.out | apply below_alloc | apply pw_below_drewN | apply below_drew1) | exact HB.out)⟩

end Go.Proofs.YtegbajfmhkmolaaDoor.N
