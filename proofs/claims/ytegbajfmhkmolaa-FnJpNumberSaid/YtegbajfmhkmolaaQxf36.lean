-- printed by a turned copy of the kit's print (wip/tools/patch_print.py)
import Derived.Test.YtegbajfmhkmolaaQx0
namespace Go.Proofs.Ytegbajfmhkmolaa.Q
open Go.RowKit Go.Proofs.YtegbajfmhkmolaaW.PrintWords Go.Proofs.YtegbajfmhkmolaaW.PrintLast Go.Proofs.YtegbajfmhkmolaaW.PrintMore
attribute [local go_sem] max2_int min2_int max_two min_two max_three min_three max_four min_four   -- for this text's walks alone
set_option linter.unusedVariables false
set_option linter.unusedSimpArgs false

/-! ### jsonparser_validJSONNumber: function 36 -/
mutual
def jsonparser_validJSONNumber.j0 : Nat → List Int → Int → Option (Bool)
  | 0, _, _ => none
  | k + 1, x0, x3 => if 0 ≤ x3 then (if x3 < (x0.length : Int) then (if (rd x0 x3) = 48 then (if (wrap64 (x3 + 1)) < (x0.length : Int) then (if 0 ≤ (wrap64 (x3 + 1)) then (if (rd x0 (wrap64 (x3 + 1))) ≥ 48 then (if (rd x0 (wrap64 (x3 + 1))) ≤ 57 then (some false) else (jsonparser_validJSONNumber.j3 k x0 (wrap64 (x3 + 1)))) else (jsonparser_validJSONNumber.j3 k x0 (wrap64 (x3 + 1)))) else (none)) else (jsonparser_validJSONNumber.j3 k x0 (wrap64 (x3 + 1)))) else (if (rd x0 x3) < 49 then (jsonparser_validJSONNumber.j1 k x0 x3 true) else (jsonparser_validJSONNumber.j1 k x0 x3 (decide ((rd x0 x3) > 57))))) else (none)) else (none)
def jsonparser_validJSONNumber.j3 : Nat → List Int → Int → Option (Bool)
  | 0, _, _ => none
  | k + 1, x0, x3 => if x3 < (x0.length : Int) then (if 0 ≤ x3 then (jsonparser_validJSONNumber.j4 k x0 x3 ((rd x0 x3) == 46)) else (none)) else (jsonparser_validJSONNumber.j4 k x0 x3 false)
def jsonparser_validJSONNumber.j4 : Nat → List Int → Int → Bool → Option (Bool)
  | 0, _, _, _ => none
  | k + 1, x0, x3, x84 => if x84 = true then (jsonparser_validJSONNumber.l1 k x0 (wrap64 (x3 + 1)) (wrap64 (x3 + 1))) else (jsonparser_validJSONNumber.j6 k x0 x3)
def jsonparser_validJSONNumber.j6 : Nat → List Int → Int → Option (Bool)
  | 0, _, _ => none
  | k + 1, x0, x3 => if x3 < (x0.length : Int) then (if 0 ≤ x3 then (if (rd x0 x3) = 101 then (jsonparser_validJSONNumber.j7 k x0 x3 true) else (jsonparser_validJSONNumber.j7 k x0 x3 ((rd x0 x3) == 69))) else (none)) else (jsonparser_validJSONNumber.j7 k x0 x3 false)
def jsonparser_validJSONNumber.j7 : Nat → List Int → Int → Bool → Option (Bool)
  | 0, _, _, _ => none
  | k + 1, x0, x3, x128 => if x128 = true then (if (wrap64 (x3 + 1)) < (x0.length : Int) then (if 0 ≤ (wrap64 (x3 + 1)) then (if (rd x0 (wrap64 (x3 + 1))) = 43 then (jsonparser_validJSONNumber.j8 k x0 (wrap64 (x3 + 1)) true) else (jsonparser_validJSONNumber.j8 k x0 (wrap64 (x3 + 1)) ((rd x0 (wrap64 (x3 + 1))) == 45))) else (none)) else (jsonparser_validJSONNumber.j8 k x0 (wrap64 (x3 + 1)) false)) else (some (x3 == (x0.length : Int)))
def jsonparser_validJSONNumber.j8 : Nat → List Int → Int → Bool → Option (Bool)
  | 0, _, _, _ => none
  | k + 1, x0, x3, x148 => if x148 = true then (jsonparser_validJSONNumber.j9 k x0 (wrap64 (x3 + 1))) else (jsonparser_validJSONNumber.j9 k x0 x3)
def jsonparser_validJSONNumber.j9 : Nat → List Int → Int → Option (Bool)
  | 0, _, _ => none
  | k + 1, x0, x3 => jsonparser_validJSONNumber.l2 k x0 x3 x3
def jsonparser_validJSONNumber.l2 : Nat → List Int → Int → Int → Option (Bool)
  | 0, _, _, _ => none
  | k + 1, x0, x3, x5 => if x3 < (x0.length : Int) then (if 0 ≤ x3 then (if (rd x0 x3) ≥ 48 then (if (rd x0 x3) ≤ 57 then (jsonparser_validJSONNumber.l2 k x0 (wrap64 (x3 + 1)) x5) else (if x3 = x5 then (some false) else (some (x3 == (x0.length : Int))))) else (if x3 = x5 then (some false) else (some (x3 == (x0.length : Int))))) else (none)) else (if x3 = x5 then (some false) else (some (x3 == (x0.length : Int))))
def jsonparser_validJSONNumber.l1 : Nat → List Int → Int → Int → Option (Bool)
  | 0, _, _, _ => none
  | k + 1, x0, x3, x4 => if x3 < (x0.length : Int) then (if 0 ≤ x3 then (if (rd x0 x3) ≥ 48 then (if (rd x0 x3) ≤ 57 then (jsonparser_validJSONNumber.l1 k x0 (wrap64 (x3 + 1)) x4) else (if x3 = x4 then (some false) else (jsonparser_validJSONNumber.j6 k x0 x3))) else (if x3 = x4 then (some false) else (jsonparser_validJSONNumber.j6 k x0 x3))) else (none)) else (if x3 = x4 then (some false) else (jsonparser_validJSONNumber.j6 k x0 x3))
def jsonparser_validJSONNumber.j1 : Nat → List Int → Int → Bool → Option (Bool)
  | 0, _, _, _ => none
  | k + 1, x0, x3, x53 => if x53 = true then (some false) else (jsonparser_validJSONNumber.l0 k x0 x3)
def jsonparser_validJSONNumber.l0 : Nat → List Int → Int → Option (Bool)
  | 0, _, _ => none
  | k + 1, x0, x3 => if x3 < (x0.length : Int) then (if 0 ≤ x3 then (if (rd x0 x3) ≥ 48 then (if (rd x0 x3) ≤ 57 then (jsonparser_validJSONNumber.l0 k x0 (wrap64 (x3 + 1))) else (jsonparser_validJSONNumber.j3 k x0 x3)) else (jsonparser_validJSONNumber.j3 k x0 x3)) else (none)) else (jsonparser_validJSONNumber.j3 k x0 x3)
end
def jsonparser_validJSONNumber.f (k : Nat) (l0 : List Int) : Option (Bool) := if 0 < (l0.length : Int) then (if (rd l0 0) = 45 then (if (0 + 1) = (l0.length : Int) then (some false) else (jsonparser_validJSONNumber.j0 k l0 (0 + 1))) else (jsonparser_validJSONNumber.j0 k l0 0)) else (none)
theorem jsonparser_validJSONNumber.mono_l : ∀ k, (∀ y0 y1, LeO (jsonparser_validJSONNumber.j0 k y0 y1) (jsonparser_validJSONNumber.j0 (k + 1) y0 y1)) ∧ (∀ y0 y1, LeO (jsonparser_validJSONNumber.j3 k y0 y1) (jsonparser_validJSONNumber.j3 (k + 1) y0 y1)) ∧ (∀ y0 y1 y2, LeO (jsonparser_validJSONNumber.j4 k y0 y1 y2) (jsonparser_validJSONNumber.j4 (k + 1) y0 y1 y2)) ∧ (∀ y0 y1, LeO (jsonparser_validJSONNumber.j6 k y0 y1) (jsonparser_validJSONNumber.j6 (k + 1) y0 y1)) ∧ (∀ y0 y1 y2, LeO (jsonparser_validJSONNumber.j7 k y0 y1 y2) (jsonparser_validJSONNumber.j7 (k + 1) y0 y1 y2)) ∧ (∀ y0 y1 y2, LeO (jsonparser_validJSONNumber.j8 k y0 y1 y2) (jsonparser_validJSONNumber.j8 (k + 1) y0 y1 y2)) ∧ (∀ y0 y1, LeO (jsonparser_validJSONNumber.j9 k y0 y1) (jsonparser_validJSONNumber.j9 (k + 1) y0 y1)) ∧ (∀ y0 y1 y2, LeO (jsonparser_validJSONNumber.l2 k y0 y1 y2) (jsonparser_validJSONNumber.l2 (k + 1) y0 y1 y2)) ∧ (∀ y0 y1 y2, LeO (jsonparser_validJSONNumber.l1 k y0 y1 y2) (jsonparser_validJSONNumber.l1 (k + 1) y0 y1 y2)) ∧ (∀ y0 y1 y2, LeO (jsonparser_validJSONNumber.j1 k y0 y1 y2) (jsonparser_validJSONNumber.j1 (k + 1) y0 y1 y2)) ∧ (∀ y0 y1, LeO (jsonparser_validJSONNumber.l0 k y0 y1) (jsonparser_validJSONNumber.l0 (k + 1) y0 y1))
  | 0 => ⟨fun _ _ r h => by simp [jsonparser_validJSONNumber.j0] at h, fun _ _ r h => by simp [jsonparser_validJSONNumber.j3] at h, fun _ _ _ r h => by simp [jsonparser_validJSONNumber.j4] at h, fun _ _ r h => by simp [jsonparser_validJSONNumber.j6] at h, fun _ _ _ r h => by simp [jsonparser_validJSONNumber.j7] at h, fun _ _ _ r h => by simp [jsonparser_validJSONNumber.j8] at h, fun _ _ r h => by simp [jsonparser_validJSONNumber.j9] at h, fun _ _ _ r h => by simp [jsonparser_validJSONNumber.l2] at h, fun _ _ _ r h => by simp [jsonparser_validJSONNumber.l1] at h, fun _ _ _ r h => by simp [jsonparser_validJSONNumber.j1] at h, fun _ _ r h => by simp [jsonparser_validJSONNumber.l0] at h⟩
  | k + 1 => by
    obtain ⟨ih0, ih1, ih2, ih3, ih4, ih5, ih6, ih7, ih8, ih9, ih10⟩ := jsonparser_validJSONNumber.mono_l k
    refine ⟨?_, ?_, ?_, ?_, ?_, ?_, ?_, ?_, ?_, ?_, ?_⟩
    · intro y0 y1
      unfold jsonparser_validJSONNumber.j0
      repeat' first
      | (with_reducible exact ih0 _ _)
      | (with_reducible exact ih1 _ _)
      | (with_reducible exact ih2 _ _ _)
      | (with_reducible exact ih3 _ _)
      | (with_reducible exact ih4 _ _ _)
      | (with_reducible exact ih5 _ _ _)
      | (with_reducible exact ih6 _ _)
      | (with_reducible exact ih7 _ _ _)
      | (with_reducible exact ih8 _ _ _)
      | (with_reducible exact ih9 _ _ _)
      | (with_reducible exact ih10 _ _)
      | (with_reducible exact LeO.refl _)
      | (with_reducible exact LeO.none _)
      | (with_reducible refine LeO.ite ?_ ?_)
      | (with_reducible refine LeO.bind ?_ (fun _ => ?_))
      | exact ih0 _ _
      | exact ih1 _ _
      | exact ih2 _ _ _
      | exact ih3 _ _
      | exact ih4 _ _ _
      | exact ih5 _ _ _
      | exact ih6 _ _
      | exact ih7 _ _ _
      | exact ih8 _ _ _
      | exact ih9 _ _ _
      | exact ih10 _ _
      | exact LeO.none _
      | refine LeO.ite ?_ ?_
      | refine LeO.bind ?_ (fun _ => ?_)
    · intro y0 y1
      unfold jsonparser_validJSONNumber.j3
      repeat' first
      | (with_reducible exact ih0 _ _)
      | (with_reducible exact ih1 _ _)
      | (with_reducible exact ih2 _ _ _)
      | (with_reducible exact ih3 _ _)
      | (with_reducible exact ih4 _ _ _)
      | (with_reducible exact ih5 _ _ _)
      | (with_reducible exact ih6 _ _)
      | (with_reducible exact ih7 _ _ _)
      | (with_reducible exact ih8 _ _ _)
      | (with_reducible exact ih9 _ _ _)
      | (with_reducible exact ih10 _ _)
      | (with_reducible exact LeO.refl _)
      | (with_reducible exact LeO.none _)
      | (with_reducible refine LeO.ite ?_ ?_)
      | (with_reducible refine LeO.bind ?_ (fun _ => ?_))
      | exact ih0 _ _
      | exact ih1 _ _
      | exact ih2 _ _ _
      | exact ih3 _ _
      | exact ih4 _ _ _
      | exact ih5 _ _ _
      | exact ih6 _ _
      | exact ih7 _ _ _
      | exact ih8 _ _ _
      | exact ih9 _ _ _
      | exact ih10 _ _
      | exact LeO.none _
      | refine LeO.ite ?_ ?_
      | refine LeO.bind ?_ (fun _ => ?_)
    · intro y0 y1 y2
      unfold jsonparser_validJSONNumber.j4
      repeat' first
      | (with_reducible exact ih0 _ _)
      | (with_reducible exact ih1 _ _)
      | (with_reducible exact ih2 _ _ _)
      | (with_reducible exact ih3 _ _)
      | (with_reducible exact ih4 _ _ _)
      | (with_reducible exact ih5 _ _ _)
      | (with_reducible exact ih6 _ _)
      | (with_reducible exact ih7 _ _ _)
      | (with_reducible exact ih8 _ _ _)
      | (with_reducible exact ih9 _ _ _)
      | (with_reducible exact ih10 _ _)
      | (with_reducible exact LeO.refl _)
      | (with_reducible exact LeO.none _)
      | (with_reducible refine LeO.ite ?_ ?_)
      | (with_reducible refine LeO.bind ?_ (fun _ => ?_))
      | exact ih0 _ _
      | exact ih1 _ _
      | exact ih2 _ _ _
      | exact ih3 _ _
      | exact ih4 _ _ _
      | exact ih5 _ _ _
      | exact ih6 _ _
      | exact ih7 _ _ _
      | exact ih8 _ _ _
      | exact ih9 _ _ _
      | exact ih10 _ _
      | exact LeO.none _
      | refine LeO.ite ?_ ?_
      | refine LeO.bind ?_ (fun _ => ?_)
    · intro y0 y1
      unfold jsonparser_validJSONNumber.j6
      repeat' first
      | (with_reducible exact ih0 _ _)
      | (with_reducible exact ih1 _ _)
      | (with_reducible exact ih2 _ _ _)
      | (with_reducible exact ih3 _ _)
      | (with_reducible exact ih4 _ _ _)
      | (with_reducible exact ih5 _ _ _)
      | (with_reducible exact ih6 _ _)
      | (with_reducible exact ih7 _ _ _)
      | (with_reducible exact ih8 _ _ _)
      | (with_reducible exact ih9 _ _ _)
      | (with_reducible exact ih10 _ _)
      | (with_reducible exact LeO.refl _)
      | (with_reducible exact LeO.none _)
      | (with_reducible refine LeO.ite ?_ ?_)
      | (with_reducible refine LeO.bind ?_ (fun _ => ?_))
      | exact ih0 _ _
      | exact ih1 _ _
      | exact ih2 _ _ _
      | exact ih3 _ _
      | exact ih4 _ _ _
      | exact ih5 _ _ _
      | exact ih6 _ _
      | exact ih7 _ _ _
      | exact ih8 _ _ _
      | exact ih9 _ _ _
      | exact ih10 _ _
      | exact LeO.none _
      | refine LeO.ite ?_ ?_
      | refine LeO.bind ?_ (fun _ => ?_)
    · intro y0 y1 y2
      unfold jsonparser_validJSONNumber.j7
      repeat' first
      | (with_reducible exact ih0 _ _)
      | (with_reducible exact ih1 _ _)
      | (with_reducible exact ih2 _ _ _)
      | (with_reducible exact ih3 _ _)
      | (with_reducible exact ih4 _ _ _)
      | (with_reducible exact ih5 _ _ _)
      | (with_reducible exact ih6 _ _)
      | (with_reducible exact ih7 _ _ _)
      | (with_reducible exact ih8 _ _ _)
      | (with_reducible exact ih9 _ _ _)
      | (with_reducible exact ih10 _ _)
      | (with_reducible exact LeO.refl _)
      | (with_reducible exact LeO.none _)
      | (with_reducible refine LeO.ite ?_ ?_)
      | (with_reducible refine LeO.bind ?_ (fun _ => ?_))
      | exact ih0 _ _
      | exact ih1 _ _
      | exact ih2 _ _ _
      | exact ih3 _ _
      | exact ih4 _ _ _
      | exact ih5 _ _ _
      | exact ih6 _ _
      | exact ih7 _ _ _
      | exact ih8 _ _ _
      | exact ih9 _ _ _
      | exact ih10 _ _
      | exact LeO.none _
      | refine LeO.ite ?_ ?_
      | refine LeO.bind ?_ (fun _ => ?_)
    · intro y0 y1 y2
      unfold jsonparser_validJSONNumber.j8
      repeat' first
      | (with_reducible exact ih0 _ _)
      | (with_reducible exact ih1 _ _)
      | (with_reducible exact ih2 _ _ _)
      | (with_reducible exact ih3 _ _)
      | (with_reducible exact ih4 _ _ _)
      | (with_reducible exact ih5 _ _ _)
      | (with_reducible exact ih6 _ _)
      | (with_reducible exact ih7 _ _ _)
      | (with_reducible exact ih8 _ _ _)
      | (with_reducible exact ih9 _ _ _)
      | (with_reducible exact ih10 _ _)
      | (with_reducible exact LeO.refl _)
      | (with_reducible exact LeO.none _)
      | (with_reducible refine LeO.ite ?_ ?_)
      | (with_reducible refine LeO.bind ?_ (fun _ => ?_))
      | exact ih0 _ _
      | exact ih1 _ _
      | exact ih2 _ _ _
      | exact ih3 _ _
      | exact ih4 _ _ _
      | exact ih5 _ _ _
      | exact ih6 _ _
      | exact ih7 _ _ _
      | exact ih8 _ _ _
      | exact ih9 _ _ _
      | exact ih10 _ _
      | exact LeO.none _
      | refine LeO.ite ?_ ?_
      | refine LeO.bind ?_ (fun _ => ?_)
    · intro y0 y1
      unfold jsonparser_validJSONNumber.j9
      repeat' first
      | (with_reducible exact ih0 _ _)
      | (with_reducible exact ih1 _ _)
      | (with_reducible exact ih2 _ _ _)
      | (with_reducible exact ih3 _ _)
      | (with_reducible exact ih4 _ _ _)
      | (with_reducible exact ih5 _ _ _)
      | (with_reducible exact ih6 _ _)
      | (with_reducible exact ih7 _ _ _)
      | (with_reducible exact ih8 _ _ _)
      | (with_reducible exact ih9 _ _ _)
      | (with_reducible exact ih10 _ _)
      | (with_reducible exact LeO.refl _)
      | (with_reducible exact LeO.none _)
      | (with_reducible refine LeO.ite ?_ ?_)
      | (with_reducible refine LeO.bind ?_ (fun _ => ?_))
      | exact ih0 _ _
      | exact ih1 _ _
      | exact ih2 _ _ _
      | exact ih3 _ _
      | exact ih4 _ _ _
      | exact ih5 _ _ _
      | exact ih6 _ _
      | exact ih7 _ _ _
      | exact ih8 _ _ _
      | exact ih9 _ _ _
      | exact ih10 _ _
      | exact LeO.none _
      | refine LeO.ite ?_ ?_
      | refine LeO.bind ?_ (fun _ => ?_)
    · intro y0 y1 y2
      unfold jsonparser_validJSONNumber.l2
      repeat' first
      | (with_reducible exact ih0 _ _)
      | (with_reducible exact ih1 _ _)
      | (with_reducible exact ih2 _ _ _)
      | (with_reducible exact ih3 _ _)
      | (with_reducible exact ih4 _ _ _)
      | (with_reducible exact ih5 _ _ _)
      | (with_reducible exact ih6 _ _)
      | (with_reducible exact ih7 _ _ _)
      | (with_reducible exact ih8 _ _ _)
      | (with_reducible exact ih9 _ _ _)
      | (with_reducible exact ih10 _ _)
      | (with_reducible exact LeO.refl _)
      | (with_reducible exact LeO.none _)
      | (with_reducible refine LeO.ite ?_ ?_)
      | (with_reducible refine LeO.bind ?_ (fun _ => ?_))
      | exact ih0 _ _
      | exact ih1 _ _
      | exact ih2 _ _ _
      | exact ih3 _ _
      | exact ih4 _ _ _
      | exact ih5 _ _ _
      | exact ih6 _ _
      | exact ih7 _ _ _
      | exact ih8 _ _ _
      | exact ih9 _ _ _
      | exact ih10 _ _
      | exact LeO.none _
      | refine LeO.ite ?_ ?_
      | refine LeO.bind ?_ (fun _ => ?_)
    · intro y0 y1 y2
      unfold jsonparser_validJSONNumber.l1
      repeat' first
      | (with_reducible exact ih0 _ _)
      | (with_reducible exact ih1 _ _)
      | (with_reducible exact ih2 _ _ _)
      | (with_reducible exact ih3 _ _)
      | (with_reducible exact ih4 _ _ _)
      | (with_reducible exact ih5 _ _ _)
      | (with_reducible exact ih6 _ _)
      | (with_reducible exact ih7 _ _ _)
      | (with_reducible exact ih8 _ _ _)
      | (with_reducible exact ih9 _ _ _)
      | (with_reducible exact ih10 _ _)
      | (with_reducible exact LeO.refl _)
      | (with_reducible exact LeO.none _)
      | (with_reducible refine LeO.ite ?_ ?_)
      | (with_reducible refine LeO.bind ?_ (fun _ => ?_))
      | exact ih0 _ _
      | exact ih1 _ _
      | exact ih2 _ _ _
      | exact ih3 _ _
      | exact ih4 _ _ _
      | exact ih5 _ _ _
      | exact ih6 _ _
      | exact ih7 _ _ _
      | exact ih8 _ _ _
      | exact ih9 _ _ _
      | exact ih10 _ _
      | exact LeO.none _
      | refine LeO.ite ?_ ?_
      | refine LeO.bind ?_ (fun _ => ?_)
    · intro y0 y1 y2
      unfold jsonparser_validJSONNumber.j1
      repeat' first
      | (with_reducible exact ih0 _ _)
      | (with_reducible exact ih1 _ _)
      | (with_reducible exact ih2 _ _ _)
      | (with_reducible exact ih3 _ _)
      | (with_reducible exact ih4 _ _ _)
      | (with_reducible exact ih5 _ _ _)
      | (with_reducible exact ih6 _ _)
      | (with_reducible exact ih7 _ _ _)
      | (with_reducible exact ih8 _ _ _)
      | (with_reducible exact ih9 _ _ _)
      | (with_reducible exact ih10 _ _)
      | (with_reducible exact LeO.refl _)
      | (with_reducible exact LeO.none _)
      | (with_reducible refine LeO.ite ?_ ?_)
      | (with_reducible refine LeO.bind ?_ (fun _ => ?_))
      | exact ih0 _ _
      | exact ih1 _ _
      | exact ih2 _ _ _
      | exact ih3 _ _
      | exact ih4 _ _ _
      | exact ih5 _ _ _
      | exact ih6 _ _
      | exact ih7 _ _ _
      | exact ih8 _ _ _
      | exact ih9 _ _ _
      | exact ih10 _ _
      | exact LeO.none _
      | refine LeO.ite ?_ ?_
      | refine LeO.bind ?_ (fun _ => ?_)
    · intro y0 y1
      unfold jsonparser_validJSONNumber.l0
      repeat' first
      | (with_reducible exact ih0 _ _)
      | (with_reducible exact ih1 _ _)
      | (with_reducible exact ih2 _ _ _)
      | (with_reducible exact ih3 _ _)
      | (with_reducible exact ih4 _ _ _)
      | (with_reducible exact ih5 _ _ _)
      | (with_reducible exact ih6 _ _)
      | (with_reducible exact ih7 _ _ _)
      | (with_reducible exact ih8 _ _ _)
      | (with_reducible exact ih9 _ _ _)
      | (with_reducible exact ih10 _ _)
      | (with_reducible exact LeO.refl _)
      | (with_reducible exact LeO.none _)
      | (with_reducible refine LeO.ite ?_ ?_)
      | (with_reducible refine LeO.bind ?_ (fun _ => ?_))
      | exact ih0 _ _
      | exact ih1 _ _
      | exact ih2 _ _ _
      | exact ih3 _ _
      | exact ih4 _ _ _
      | exact ih5 _ _ _
      | exact ih6 _ _
      | exact ih7 _ _ _
      | exact ih8 _ _ _
      | exact ih9 _ _ _
      | exact ih10 _ _
      | exact LeO.none _
      | refine LeO.ite ?_ ?_
      | refine LeO.bind ?_ (fun _ => ?_)
theorem jsonparser_validJSONNumber.mono : ∀ a0 k, LeO (jsonparser_validJSONNumber.f k a0) (jsonparser_validJSONNumber.f (k + 1) a0) := by
  intro a0 k
  obtain ⟨ih0, ih1, ih2, ih3, ih4, ih5, ih6, ih7, ih8, ih9, ih10⟩ := jsonparser_validJSONNumber.mono_l k
  unfold jsonparser_validJSONNumber.f
  repeat' first
      | (with_reducible exact ih0 _ _)
      | (with_reducible exact ih1 _ _)
      | (with_reducible exact ih2 _ _ _)
      | (with_reducible exact ih3 _ _)
      | (with_reducible exact ih4 _ _ _)
      | (with_reducible exact ih5 _ _ _)
      | (with_reducible exact ih6 _ _)
      | (with_reducible exact ih7 _ _ _)
      | (with_reducible exact ih8 _ _ _)
      | (with_reducible exact ih9 _ _ _)
      | (with_reducible exact ih10 _ _)
      | (with_reducible exact LeO.refl _)
      | (with_reducible exact LeO.none _)
      | (with_reducible refine LeO.ite ?_ ?_)
      | (with_reducible refine LeO.bind ?_ (fun _ => ?_))
      | exact ih0 _ _
      | exact ih1 _ _
      | exact ih2 _ _ _
      | exact ih3 _ _
      | exact ih4 _ _ _
      | exact ih5 _ _ _
      | exact ih6 _ _
      | exact ih7 _ _ _
      | exact ih8 _ _ _
      | exact ih9 _ _ _
      | exact ih10 _ _
      | exact LeO.none _
      | refine LeO.ite ?_ ?_
      | refine LeO.bind ?_ (fun _ => ?_)
set_option maxHeartbeats 8000000 in
set_option maxRecDepth 100000 in
theorem jsonparser_validJSONNumber.calls (k : Nat) (A0 : Option Addr) (c0 : Nat) (l0 : List Int) (r : Bool) (w : World) (hr0 : Kd.C (Kd.int .u8) w A0 l0.length l0) (hc0 : l0.length ≤ c0) (h : jsonparser_validJSONNumber.f k l0 = some r) :
    Calls Try.prog 36 #[.slice A0 l0.length c0] w fun e w' => e = .returned (.bool r) ∧ Drawn0 w w' := by
  have HR0 := Aside0.mk hr0
  have HC0 := Aside0.mk hc0
  clear hr0 hc0
  have H : (if 0 < (l0.length : Int) then (if (rd l0 0) = 45 then (if (0 + 1) = (l0.length : Int) then (some false) else (jsonparser_validJSONNumber.j0 k l0 (0 + 1))) else (jsonparser_validJSONNumber.j0 k l0 0)) else (none)) = some r := h
  clear h
  by_cases c2 : 0 < (l0.length : Int)
  · rw [if_pos c2] at H
    have c2b0 : decide (0 < (l0.length : Int)) = true := decide_eq_true c2
    have c2b1 : decide (0 < l0.length) = true := decide_eq_true (by omega)
    clear c2
    have HC3 := Aside0.mk H
    clear H
    have p101 : 0 ≤ (0 : Int) := (by omega)
    have q101 : 0 < (l0.length : Int) := of_decide_eq_true (by first | (with_reducible assumption) | assumption)
    obtain ⟨ad101, e101, hx101_0⟩ := Kd.at_int HR0.out 0 p101 q101
    cases e101
    have qi101 : (0 < l0.length) = True := eq_true (by omega)
    (try rw [show ((0 : Int)).toNat = 0 from rfl] at hx101_0)
    (try rw [Addr.add_zero'] at hx101_0)
    replace p101 := eq_true p101
    replace q101 := eq_true q101
    go_enter Try.func36, Try.ntmps36
    go_upto_if 10 with (fail)
    go_cut [3] (fun v3 wc => ∃ (kq : Nat) (x3_2 : Int), v3 = .int .i64 x3_2 ∧ Aside0 (jsonparser_validJSONNumber.j0 kq l0 x3_2 = some r) ∧ Aside0 (kq ≤ k) ∧ Drawn0 w wc)
    case first => as_aux_lemma =>
      have H := HC3.out
      clear HC3
      by_cases c4 : (rd l0 0) = 45
      · rw [if_pos c4] at H
        have c4b0 : ((rd l0 0) == 45) = true := beq_iff_eq.mpr c4
        have c4b1 : ((rd l0 0) != 45) = false := bne_eq_false_iff_eq.mpr c4
        clear c4
        (first | rw [c4b0] | (simp only [i64_w, i32_w]; rw [c4b0]) | skip)
        by_cases c5 : (0 + 1) = (l0.length : Int)
        · rw [if_pos c5] at H
          have c5b0 : ((0 + 1) == (l0.length : Int)) = true := beq_iff_eq.mpr c5
          have c5b1 : ((0 + 1) != (l0.length : Int)) = false := bne_eq_false_iff_eq.mpr c5
          clear c5
          obtain rfl := Option.some.inj H
          go_wp2
          go_ret
          exact ⟨by first | rfl | (simp; done) | (simp [*]; done), by repeat (first | exact Drawn0.refl _ | apply Drawn0.step)⟩
        · rw [if_neg c5] at H
          have c5b0 : ((0 + 1) == (l0.length : Int)) = false := beq_eq_false_iff_ne.mpr c5
          have c5b1 : ((0 + 1) != (l0.length : Int)) = true := bne_iff_ne.mpr c5
          have H' := Aside0.mk H
          clear H
          go_wp2
          go_meet
          case rel => exact ⟨_, (0 + 1), (by first | rfl | (simp; done) | (simp [*]; done)), H', ⟨by first | omega | exact Nat.le_refl _⟩, by repeat (first | exact Drawn0.refl _ | apply Drawn0.step)⟩
      · rw [if_neg c4] at H
        have c4b0 : ((rd l0 0) == 45) = false := beq_eq_false_iff_ne.mpr c4
        have c4b1 : ((rd l0 0) != 45) = true := bne_iff_ne.mpr c4
        (first | rw [c4b0] | (simp only [i64_w, i32_w]; rw [c4b0]) | skip)
        have H' := Aside0.mk H
        clear H
        go_wp2
        go_meet
        case rel => exact ⟨_, (0), (by first | rfl | (simp; done) | (simp [*]; done)), H', ⟨by first | omega | exact Nat.le_refl _⟩, by repeat (first | exact Drawn0.refl _ | apply Drawn0.step)⟩
    case rest => as_aux_lemma =>
      clear HC3
      try clear p1
      try clear q1
      try clear hx1
      try clear qi1
      try clear c2
      try clear c2b0
      try clear c2b1
      try clear p2
      try clear c3
      try clear c4
      try clear c4b0
      try clear c4b1
      try clear c5
      try clear c5b0
      try clear c5b1
      try clear hx101_0
      try clear p101
      try clear q101
      obtain ⟨kq, x3_2, rfl, HA, HJ2, ⟨mc2, rfl⟩⟩ := hcut
      cases kq with
      | zero => exact absurd HA.out (by simp [jsonparser_validJSONNumber.j0])
      | succ kj2 =>
        have H := HA.out
        clear HA
        simp only [jsonparser_validJSONNumber.j0] at H
        by_cases c6 : 0 ≤ x3_2
        · rw [if_pos c6] at H
          have c6b0 : decide (0 ≤ x3_2) = true := decide_eq_true c6
          clear c6
          by_cases c7 : x3_2 < (l0.length : Int)
          · rw [if_pos c7] at H
            have c7b0 : decide (x3_2 < (l0.length : Int)) = true := decide_eq_true c7
            clear c7
            have HC8 := Aside0.mk H
            clear H
            have p102 : 0 ≤ (x3_2 : Int) := of_decide_eq_true (by first | (with_reducible assumption) | assumption)
            have q102 : x3_2 < (l0.length : Int) := of_decide_eq_true (by first | (with_reducible assumption) | assumption)
            obtain ⟨ad102, e102, hx102_0⟩ := Kd.at_int HR0.out x3_2 p102 q102
            obtain rfl : ad101 = ad102 := (by injection e102)
            replace p102 := eq_true p102
            replace q102 := eq_true q102
            go_upto_if 21 with (fail)
            go_cut [3] (fun v3 wc => ∃ (kq : Nat) (x3_7 : Int), v3 = .int .i64 x3_7 ∧ Aside0 (jsonparser_validJSONNumber.j3 kq l0 x3_7 = some r) ∧ Aside0 (kq ≤ kj2) ∧ Drawn0 w wc)
            case first => as_aux_lemma =>
              have H := HC8.out
              clear HC8
              by_cases c9 : (rd l0 x3_2) = 48
              · rw [if_pos c9] at H
                have c9b0 : ((rd l0 x3_2) == 48) = true := beq_iff_eq.mpr c9
                have c9b1 : ((rd l0 x3_2) != 48) = false := bne_eq_false_iff_eq.mpr c9
                clear c9
                (first | rw [c9b0] | (simp only [i64_w, i32_w]; rw [c9b0]) | skip)
                by_cases c10 : (wrap64 (x3_2 + 1)) < (l0.length : Int)
                · rw [if_pos c10] at H
                  have c10b0 : decide ((wrap64 (x3_2 + 1)) < (l0.length : Int)) = true := decide_eq_true c10
                  clear c10
                  obtain ⟨ji11, hji11⟩ : ∃ j_ : Int, (wrap64 (x3_2 + 1)) = j_ := ⟨_, rfl⟩
                  replace H : (if 0 ≤ (ji11) then (if (rd l0 (ji11)) ≥ 48 then (if (rd l0 (ji11)) ≤ 57 then (some false) else (jsonparser_validJSONNumber.j3 kj2 l0 ji11)) else (jsonparser_validJSONNumber.j3 kj2 l0 ji11)) else (none)) = some r := by first | (rw [hji11] at H; exact H) | (simp only [hji11] at H ⊢; exact H)
                  (try rw [hji11] at c10b0)
                  have hji11w : (IntKind.i64.wrap (x3_2 + 1)) = ji11 := (i64_w _).trans hji11
                  by_cases c12 : 0 ≤ (ji11)
                  · rw [if_pos c12] at H
                    have c12b0 : decide (0 ≤ (ji11)) = true := decide_eq_true c12
                    clear c12
                    by_cases c13 : (rd l0 (ji11)) ≥ 48
                    · rw [if_pos c13] at H
                      have c13b0 : decide (48 ≤ (rd l0 (ji11))) = true := decide_eq_true c13
                      clear c13
                      by_cases c14 : (rd l0 (ji11)) ≤ 57
                      · rw [if_pos c14] at H
                        have c14b0 : decide ((rd l0 (ji11)) ≤ 57) = true := decide_eq_true c14
                        clear c14
                        obtain rfl := Option.some.inj H
                        have p103 : 0 ≤ ((ji11) : Int) := of_decide_eq_true (by first | (with_reducible assumption) | assumption)
                        have q103 : (ji11) < (l0.length : Int) := of_decide_eq_true (by first | (with_reducible assumption) | assumption)
                        obtain ⟨ad103, e103, hx103_0⟩ := Kd.at_int HR0.out (ji11) p103 q103
                        obtain rfl : ad101 = ad103 := (by injection e103)
                        replace p103 := eq_true p103
                        replace q103 := eq_true q103
                        have p104 : 0 ≤ ((ji11) : Int) := of_decide_eq_true (by first | (with_reducible assumption) | assumption)
                        have q104 : (ji11) < (l0.length : Int) := of_decide_eq_true (by first | (with_reducible assumption) | assumption)
                        obtain ⟨ad104, e104, hx104_0⟩ := Kd.at_int HR0.out (ji11) p104 q104
                        obtain rfl : ad101 = ad104 := (by injection e104)
                        replace p104 := eq_true p104
                        replace q104 := eq_true q104
                        go_wp2
                        go_ret
                        exact ⟨by first | rfl | (simp; done) | (simp only [← hji11] <;> (first | rfl | simp)) | (simp [*]; done), by repeat (first | exact Drawn0.refl _ | apply Drawn0.step)⟩
                      · rw [if_neg c14] at H
                        have c14b0 : decide ((rd l0 (ji11)) ≤ 57) = false := decide_eq_false c14
                        clear c14
                        have H' := Aside0.mk H
                        clear H
                        have p103 : 0 ≤ ((ji11) : Int) := of_decide_eq_true (by first | (with_reducible assumption) | assumption)
                        have q103 : (ji11) < (l0.length : Int) := of_decide_eq_true (by first | (with_reducible assumption) | assumption)
                        obtain ⟨ad103, e103, hx103_0⟩ := Kd.at_int HR0.out (ji11) p103 q103
                        obtain rfl : ad101 = ad103 := (by injection e103)
                        replace p103 := eq_true p103
                        replace q103 := eq_true q103
                        have p104 : 0 ≤ ((ji11) : Int) := of_decide_eq_true (by first | (with_reducible assumption) | assumption)
                        have q104 : (ji11) < (l0.length : Int) := of_decide_eq_true (by first | (with_reducible assumption) | assumption)
                        obtain ⟨ad104, e104, hx104_0⟩ := Kd.at_int HR0.out (ji11) p104 q104
                        obtain rfl : ad101 = ad104 := (by injection e104)
                        replace p104 := eq_true p104
                        replace q104 := eq_true q104
                        go_wp2
                        (try simp only [← hji11])
                        go_meet
                        case rel => exact ⟨_, (ji11), (by first | rfl | (simp; done) | (simp only [← hji11] <;> (first | rfl | simp)) | (simp [*]; done)), (by first | exact H' | (simp only [← hji11] at H' ⊢; exact H')), ⟨by have := HJ2.out; first | omega | exact Nat.le_refl _⟩, by repeat (first | exact Drawn0.refl _ | apply Drawn0.step)⟩
                    · rw [if_neg c13] at H
                      have c13b0 : decide (48 ≤ (rd l0 (ji11))) = false := decide_eq_false c13
                      clear c13
                      have H' := Aside0.mk H
                      clear H
                      have p103 : 0 ≤ ((ji11) : Int) := of_decide_eq_true (by first | (with_reducible assumption) | assumption)
                      have q103 : (ji11) < (l0.length : Int) := of_decide_eq_true (by first | (with_reducible assumption) | assumption)
                      obtain ⟨ad103, e103, hx103_0⟩ := Kd.at_int HR0.out (ji11) p103 q103
                      obtain rfl : ad101 = ad103 := (by injection e103)
                      replace p103 := eq_true p103
                      replace q103 := eq_true q103
                      go_wp2
                      (try simp only [← hji11])
                      go_meet
                      case rel => exact ⟨_, (ji11), (by first | rfl | (simp; done) | (simp only [← hji11] <;> (first | rfl | simp)) | (simp [*]; done)), (by first | exact H' | (simp only [← hji11] at H' ⊢; exact H')), ⟨by have := HJ2.out; first | omega | exact Nat.le_refl _⟩, by repeat (first | exact Drawn0.refl _ | apply Drawn0.step)⟩
                  · rw [if_neg c12] at H
                    exact absurd H (by simp)
                · rw [if_neg c10] at H
                  have c10b0 : decide ((wrap64 (x3_2 + 1)) < (l0.length : Int)) = false := decide_eq_false c10
                  clear c10
                  have H' := Aside0.mk H
                  clear H
                  go_wp2
                  go_meet
                  case rel => exact ⟨_, (wrap64 (x3_2 + 1)), (by first | rfl | (simp; done) | (simp [*]; done)), H', ⟨by have := HJ2.out; first | omega | exact Nat.le_refl _⟩, by repeat (first | exact Drawn0.refl _ | apply Drawn0.step)⟩
              · rw [if_neg c9] at H
                have c9b0 : ((rd l0 x3_2) == 48) = false := beq_eq_false_iff_ne.mpr c9
                have c9b1 : ((rd l0 x3_2) != 48) = true := bne_iff_ne.mpr c9
                (first | rw [c9b0] | (simp only [i64_w, i32_w]; rw [c9b0]) | skip)
                have HC15 := Aside0.mk H
                clear H
                go_upto_region 10 with (fail)
                go_cut [53] (fun v53 wc => ∃ (kq : Nat) (x53_14 : Bool), v53 = .bool x53_14 ∧ Aside0 (jsonparser_validJSONNumber.j1 kq l0 x3_2 x53_14 = some r) ∧ Aside0 (kq ≤ kj2) ∧ Drawn0 w wc)
                case first => as_aux_lemma =>
                  have H := HC15.out
                  clear HC15
                  by_cases c16 : (rd l0 x3_2) < 49
                  · rw [if_pos c16] at H
                    have c16b0 : decide ((rd l0 x3_2) < 49) = true := decide_eq_true c16
                    clear c16
                    (first | rw [c16b0] | (simp only [i64_w, i32_w]; rw [c16b0]) | skip)
                    have H' := Aside0.mk H
                    clear H
                    have p105 : 0 ≤ (x3_2 : Int) := of_decide_eq_true (by first | (with_reducible assumption) | assumption)
                    have q105 : x3_2 < (l0.length : Int) := of_decide_eq_true (by first | (with_reducible assumption) | assumption)
                    obtain ⟨ad105, e105, hx105_0⟩ := Kd.at_int HR0.out x3_2 p105 q105
                    obtain rfl : ad101 = ad105 := (by injection e105)
                    replace p105 := eq_true p105
                    replace q105 := eq_true q105
                    go_wp2
                    go_meet
                    case rel => exact ⟨_, (true), (by first | rfl | (simp; done) | (simp [*]; done)), H', ⟨by have := HJ2.out; first | omega | exact Nat.le_refl _⟩, by repeat (first | exact Drawn0.refl _ | apply Drawn0.step)⟩
                  · rw [if_neg c16] at H
                    have c16b0 : decide ((rd l0 x3_2) < 49) = false := decide_eq_false c16
                    clear c16
                    (first | rw [c16b0] | (simp only [i64_w, i32_w]; rw [c16b0]) | skip)
                    have H' := Aside0.mk H
                    clear H
                    have p105 : 0 ≤ (x3_2 : Int) := of_decide_eq_true (by first | (with_reducible assumption) | assumption)
                    have q105 : x3_2 < (l0.length : Int) := of_decide_eq_true (by first | (with_reducible assumption) | assumption)
                    obtain ⟨ad105, e105, hx105_0⟩ := Kd.at_int HR0.out x3_2 p105 q105
                    obtain rfl : ad101 = ad105 := (by injection e105)
                    replace p105 := eq_true p105
                    replace q105 := eq_true q105
                    have p106 : 0 ≤ (x3_2 : Int) := of_decide_eq_true (by first | (with_reducible assumption) | assumption)
                    have q106 : x3_2 < (l0.length : Int) := of_decide_eq_true (by first | (with_reducible assumption) | assumption)
                    obtain ⟨ad106, e106, hx106_0⟩ := Kd.at_int HR0.out x3_2 p106 q106
                    obtain rfl : ad101 = ad106 := (by injection e106)
                    replace p106 := eq_true p106
                    replace q106 := eq_true q106
                    go_wp2
                    go_meet
                    case rel => exact ⟨_, (decide ((rd l0 x3_2) > 57)), (by first | rfl | (simp; done) | (simp [*]; done)), H', ⟨by have := HJ2.out; first | omega | exact Nat.le_refl _⟩, by repeat (first | exact Drawn0.refl _ | apply Drawn0.step)⟩
                case rest => as_aux_lemma =>
                  clear HC15
                  try clear c1
                  try clear p1
                  try clear q1
                  try clear hx1
                  try clear qi1
                  try clear c2
                  try clear c2b0
                  try clear c2b1
                  try clear p2
                  try clear c3
                  try clear c4
                  try clear c4b0
                  try clear c4b1
                  try clear c5
                  try clear c5b0
                  try clear c5b1
                  try clear c6
                  try clear c6b0
                  try clear p6
                  try clear c7
                  try clear c7b0
                  try clear c9
                  try clear c9b0
                  try clear c9b1
                  try clear c10
                  try clear c10b0
                  try clear p10
                  try clear q10
                  try clear hx10
                  try clear qi10
                  try clear c12
                  try clear c12b0
                  try clear c13
                  try clear c13b0
                  try clear c14
                  try clear c14b0
                  try clear c16
                  try clear c16b0
                  try clear hx101_0
                  try clear hx102_0
                  try clear hx103_0
                  try clear hx104_0
                  try clear hx105_0
                  try clear hx106_0
                  try clear p1
                  try clear p101
                  try clear p102
                  try clear p103
                  try clear p104
                  try clear p105
                  try clear p106
                  try clear p2
                  try clear q1
                  try clear q101
                  try clear q102
                  try clear q103
                  try clear q104
                  try clear q105
                  try clear q106
                  obtain ⟨kq, x53_14, rfl, HA, HJ14, ⟨mc14, rfl⟩⟩ := hcut
                  cases kq with
                  | zero => exact absurd HA.out (by simp [jsonparser_validJSONNumber.j1])
                  | succ kj14 =>
                    have H := HA.out
                    clear HA
                    simp only [jsonparser_validJSONNumber.j1] at H
                    by_cases c17 : x53_14 = true
                    · subst c17
                      have H1 : (some false) = some r := by rw [if_pos rfl] at H; exact H
                      clear H
                      have H := H1
                      clear H1
                      obtain rfl := Option.some.inj H
                      go_wp2
                      go_ret
                      exact ⟨by first | rfl | (simp; done) | (simp [*]; done), by repeat (first | exact Drawn0.refl _ | apply Drawn0.step)⟩
                    · replace c17 := Bool.eq_false_iff.mpr c17
                      subst c17
                      have H1 : (jsonparser_validJSONNumber.l0 kj14 l0 x3_2) = some r := by rw [if_neg (show ¬ (false = true) by decide)] at H; exact H
                      clear H
                      have H := H1
                      clear H1
                      have H' := Aside0.mk H
                      clear H
                      go_wp2
                      go_loopg [3] kj14 (fun kq v3 w' => ∃ (x3_3 : Int), v3 = .int .i64 x3_3 ∧ Aside0 (jsonparser_validJSONNumber.l0 kq l0 x3_3 = some r) ∧ Aside0 (kq ≤ kj14) ∧ Drawn0 w w')
                      case atStart => exact ⟨(x3_2), (by first | rfl | (simp; done) | (simp [*]; done)), H', ⟨Nat.le_refl _⟩, by repeat (first | exact Drawn0.refl _ | apply Drawn0.step)⟩
                      case round => as_aux_lemma =>
                        clear H'
                        try clear c1
                        try clear p1
                        try clear q1
                        try clear hx1
                        try clear qi1
                        try clear c2
                        try clear c2b0
                        try clear c2b1
                        try clear p2
                        try clear c3
                        try clear c4
                        try clear c4b0
                        try clear c4b1
                        try clear c5
                        try clear c5b0
                        try clear c5b1
                        try clear c6
                        try clear c6b0
                        try clear p6
                        try clear c7
                        try clear c7b0
                        try clear c9
                        try clear c9b0
                        try clear c9b1
                        try clear c10
                        try clear c10b0
                        try clear p10
                        try clear q10
                        try clear hx10
                        try clear qi10
                        try clear c12
                        try clear c12b0
                        try clear c13
                        try clear c13b0
                        try clear c14
                        try clear c14b0
                        try clear c16
                        try clear c16b0
                        try clear c17
                        try clear hx101_0
                        try clear hx102_0
                        try clear hx103_0
                        try clear hx104_0
                        try clear hx105_0
                        try clear hx106_0
                        try clear p1
                        try clear p10
                        try clear p101
                        try clear p102
                        try clear p103
                        try clear p104
                        try clear p105
                        try clear p106
                        try clear p2
                        try clear p6
                        try clear q1
                        try clear q10
                        try clear q101
                        try clear q102
                        try clear q103
                        try clear q104
                        try clear q105
                        try clear q106
                        obtain ⟨x3_3, rfl, HA, HK3, ⟨m3, rfl⟩⟩ := hrel
                        cases gk with
                        | zero => exact absurd HA.out (by simp [jsonparser_validJSONNumber.l0])
                        | succ k3 =>
                          have H := HA.out
                          clear HA
                          simp only [jsonparser_validJSONNumber.l0] at H
                          by_cases c18 : x3_3 < (l0.length : Int)
                          · rw [if_pos c18] at H
                            have c18b0 : decide (x3_3 < (l0.length : Int)) = true := decide_eq_true c18
                            clear c18
                            by_cases c19 : 0 ≤ x3_3
                            · rw [if_pos c19] at H
                              have c19b0 : decide (0 ≤ x3_3) = true := decide_eq_true c19
                              clear c19
                              by_cases c20 : (rd l0 x3_3) ≥ 48
                              · rw [if_pos c20] at H
                                have c20b0 : decide (48 ≤ (rd l0 x3_3)) = true := decide_eq_true c20
                                clear c20
                                by_cases c21 : (rd l0 x3_3) ≤ 57
                                · rw [if_pos c21] at H
                                  have c21b0 : decide ((rd l0 x3_3) ≤ 57) = true := decide_eq_true c21
                                  clear c21
                                  have H' := Aside0.mk H
                                  clear H
                                  have p107 : 0 ≤ (x3_3 : Int) := of_decide_eq_true (by first | (with_reducible assumption) | assumption)
                                  have q107 : x3_3 < (l0.length : Int) := of_decide_eq_true (by first | (with_reducible assumption) | assumption)
                                  obtain ⟨ad107, e107, hx107_0⟩ := Kd.at_int HR0.out x3_3 p107 q107
                                  obtain rfl : ad101 = ad107 := (by injection e107)
                                  replace p107 := eq_true p107
                                  replace q107 := eq_true q107
                                  have p108 : 0 ≤ (x3_3 : Int) := of_decide_eq_true (by first | (with_reducible assumption) | assumption)
                                  have q108 : x3_3 < (l0.length : Int) := of_decide_eq_true (by first | (with_reducible assumption) | assumption)
                                  obtain ⟨ad108, e108, hx108_0⟩ := Kd.at_int HR0.out x3_3 p108 q108
                                  obtain rfl : ad101 = ad108 := (by injection e108)
                                  replace p108 := eq_true p108
                                  replace q108 := eq_true q108
                                  go_wp2
                                  go_roundg k3
                                  case measure => have := HJ2.out; have := HJ14.out; have := HK3.out; omega
                                  case rel => exact ⟨(wrap64 (x3_3 + 1)), (by first | rfl | (simp; done) | (simp [*]; done)), H', ⟨by have := HJ2.out; have := HJ14.out; have := HK3.out; omega⟩, by repeat (first | exact Drawn0.refl _ | apply Drawn0.step)⟩
                                · rw [if_neg c21] at H
                                  have c21b0 : decide ((rd l0 x3_3) ≤ 57) = false := decide_eq_false c21
                                  clear c21
                                  have H' := Aside0.mk H
                                  clear H
                                  have p107 : 0 ≤ (x3_3 : Int) := of_decide_eq_true (by first | (with_reducible assumption) | assumption)
                                  have q107 : x3_3 < (l0.length : Int) := of_decide_eq_true (by first | (with_reducible assumption) | assumption)
                                  obtain ⟨ad107, e107, hx107_0⟩ := Kd.at_int HR0.out x3_3 p107 q107
                                  obtain rfl : ad101 = ad107 := (by injection e107)
                                  replace p107 := eq_true p107
                                  replace q107 := eq_true q107
                                  have p108 : 0 ≤ (x3_3 : Int) := of_decide_eq_true (by first | (with_reducible assumption) | assumption)
                                  have q108 : x3_3 < (l0.length : Int) := of_decide_eq_true (by first | (with_reducible assumption) | assumption)
                                  obtain ⟨ad108, e108, hx108_0⟩ := Kd.at_int HR0.out x3_3 p108 q108
                                  obtain rfl : ad101 = ad108 := (by injection e108)
                                  replace p108 := eq_true p108
                                  replace q108 := eq_true q108
                                  go_wp2
                                  go_meet
                                  case rel => exact ⟨_, (x3_3), (by first | rfl | (simp; done) | (simp [*]; done)), H', ⟨by have := HJ2.out; have := HJ14.out; have := HK3.out; first | omega | exact Nat.le_refl _⟩, by repeat (first | exact Drawn0.refl _ | apply Drawn0.step)⟩
                              · rw [if_neg c20] at H
                                have c20b0 : decide (48 ≤ (rd l0 x3_3)) = false := decide_eq_false c20
                                clear c20
                                have H' := Aside0.mk H
                                clear H
                                have p107 : 0 ≤ (x3_3 : Int) := of_decide_eq_true (by first | (with_reducible assumption) | assumption)
                                have q107 : x3_3 < (l0.length : Int) := of_decide_eq_true (by first | (with_reducible assumption) | assumption)
                                obtain ⟨ad107, e107, hx107_0⟩ := Kd.at_int HR0.out x3_3 p107 q107
                                obtain rfl : ad101 = ad107 := (by injection e107)
                                replace p107 := eq_true p107
                                replace q107 := eq_true q107
                                go_wp2
                                go_meet
                                case rel => exact ⟨_, (x3_3), (by first | rfl | (simp; done) | (simp [*]; done)), H', ⟨by have := HJ2.out; have := HJ14.out; have := HK3.out; first | omega | exact Nat.le_refl _⟩, by repeat (first | exact Drawn0.refl _ | apply Drawn0.step)⟩
                            · rw [if_neg c19] at H
                              exact absurd H (by simp)
                          · rw [if_neg c18] at H
                            have c18b0 : decide (x3_3 < (l0.length : Int)) = false := decide_eq_false c18
                            clear c18
                            have H' := Aside0.mk H
                            clear H
                            go_wp2
                            go_meet
                            case rel => exact ⟨_, (x3_3), (by first | rfl | (simp; done) | (simp [*]; done)), H', ⟨by have := HJ2.out; have := HJ14.out; have := HK3.out; first | omega | exact Nat.le_refl _⟩, by repeat (first | exact Drawn0.refl _ | apply Drawn0.step)⟩
            case rest => as_aux_lemma =>
              clear HC8
              try clear c1
              try clear p1
              try clear q1
              try clear hx1
              try clear qi1
              try clear c2
              try clear c2b0
              try clear c2b1
              try clear p2
              try clear c3
              try clear c4
              try clear c4b0
              try clear c4b1
              try clear c5
              try clear c5b0
              try clear c5b1
              try clear c6
              try clear c6b0
              try clear p6
              try clear c7
              try clear c7b0
              try clear c9
              try clear c9b0
              try clear c9b1
              try clear c10
              try clear c10b0
              try clear p10
              try clear q10
              try clear hx10
              try clear qi10
              try clear c12
              try clear c12b0
              try clear c13
              try clear c13b0
              try clear c14
              try clear c14b0
              try clear c16
              try clear c16b0
              try clear c17
              try clear c18
              try clear c18b0
              try clear c19
              try clear c19b0
              try clear c20
              try clear c20b0
              try clear c21
              try clear c21b0
              try clear hx101_0
              try clear hx102_0
              try clear hx103_0
              try clear hx104_0
              try clear hx105_0
              try clear hx106_0
              try clear hx107_0
              try clear hx108_0
              try clear p1
              try clear p10
              try clear p101
              try clear p102
              try clear p103
              try clear p104
              try clear p105
              try clear p106
              try clear p107
              try clear p108
              try clear p2
              try clear p6
              try clear q1
              try clear q10
              try clear q101
              try clear q102
              try clear q103
              try clear q104
              try clear q105
              try clear q106
              try clear q107
              try clear q108
              obtain ⟨kq, x3_7, rfl, HA, HJ7, ⟨mc7, rfl⟩⟩ := hcut
              cases kq with
              | zero => exact absurd HA.out (by simp [jsonparser_validJSONNumber.j3])
              | succ kj7 =>
                have H := HA.out
                clear HA
                simp only [jsonparser_validJSONNumber.j3] at H
                have HC22 := Aside0.mk H
                clear H
                go_upto_region 14 with (fail)
                go_cut [84] (fun v84 wc => ∃ (kq : Nat) (x84_21 : Bool), v84 = .bool x84_21 ∧ Aside0 (jsonparser_validJSONNumber.j4 kq l0 x3_7 x84_21 = some r) ∧ Aside0 (kq ≤ kj7) ∧ Drawn0 w wc)
                case first => as_aux_lemma =>
                  have H := HC22.out
                  clear HC22
                  by_cases c23 : x3_7 < (l0.length : Int)
                  · rw [if_pos c23] at H
                    have c23b0 : decide (x3_7 < (l0.length : Int)) = true := decide_eq_true c23
                    clear c23
                    (first | rw [c23b0] | (simp only [i64_w, i32_w]; rw [c23b0]) | skip)
                    by_cases c24 : 0 ≤ x3_7
                    · rw [if_pos c24] at H
                      have c24b0 : decide (0 ≤ x3_7) = true := decide_eq_true c24
                      clear c24
                      have H' := Aside0.mk H
                      clear H
                      have p109 : 0 ≤ (x3_7 : Int) := of_decide_eq_true (by first | (with_reducible assumption) | assumption)
                      have q109 : x3_7 < (l0.length : Int) := of_decide_eq_true (by first | (with_reducible assumption) | assumption)
                      obtain ⟨ad109, e109, hx109_0⟩ := Kd.at_int HR0.out x3_7 p109 q109
                      obtain rfl : ad101 = ad109 := (by injection e109)
                      replace p109 := eq_true p109
                      replace q109 := eq_true q109
                      go_wp2
                      go_meet
                      case rel => exact ⟨_, (((rd l0 x3_7) == 46)), (by first | rfl | (simp; done) | (simp [*]; done)), H', ⟨by have := HJ2.out; have := HJ7.out; first | omega | exact Nat.le_refl _⟩, by repeat (first | exact Drawn0.refl _ | apply Drawn0.step)⟩
                    · rw [if_neg c24] at H
                      exact absurd H (by simp)
                  · rw [if_neg c23] at H
                    have c23b0 : decide (x3_7 < (l0.length : Int)) = false := decide_eq_false c23
                    clear c23
                    (first | rw [c23b0] | (simp only [i64_w, i32_w]; rw [c23b0]) | skip)
                    have H' := Aside0.mk H
                    clear H
                    go_wp2
                    go_meet
                    case rel => exact ⟨_, (false), (by first | rfl | (simp; done) | (simp [*]; done)), H', ⟨by have := HJ2.out; have := HJ7.out; first | omega | exact Nat.le_refl _⟩, by repeat (first | exact Drawn0.refl _ | apply Drawn0.step)⟩
                case rest => as_aux_lemma =>
                  clear HC22
                  try clear c1
                  try clear p1
                  try clear q1
                  try clear hx1
                  try clear qi1
                  try clear c2
                  try clear c2b0
                  try clear c2b1
                  try clear p2
                  try clear c3
                  try clear c4
                  try clear c4b0
                  try clear c4b1
                  try clear c5
                  try clear c5b0
                  try clear c5b1
                  try clear c6
                  try clear c6b0
                  try clear p6
                  try clear c7
                  try clear c7b0
                  try clear c9
                  try clear c9b0
                  try clear c9b1
                  try clear c10
                  try clear c10b0
                  try clear p10
                  try clear q10
                  try clear hx10
                  try clear qi10
                  try clear c12
                  try clear c12b0
                  try clear c13
                  try clear c13b0
                  try clear c14
                  try clear c14b0
                  try clear c16
                  try clear c16b0
                  try clear c17
                  try clear c18
                  try clear c18b0
                  try clear c19
                  try clear c19b0
                  try clear c20
                  try clear c20b0
                  try clear c21
                  try clear c21b0
                  try clear c23
                  try clear c23b0
                  try clear c24
                  try clear c24b0
                  try clear hx101_0
                  try clear hx102_0
                  try clear hx103_0
                  try clear hx104_0
                  try clear hx105_0
                  try clear hx106_0
                  try clear hx107_0
                  try clear hx108_0
                  try clear hx109_0
                  try clear p1
                  try clear p10
                  try clear p101
                  try clear p102
                  try clear p103
                  try clear p104
                  try clear p105
                  try clear p106
                  try clear p107
                  try clear p108
                  try clear p109
                  try clear p2
                  try clear p6
                  try clear q1
                  try clear q10
                  try clear q101
                  try clear q102
                  try clear q103
                  try clear q104
                  try clear q105
                  try clear q106
                  try clear q107
                  try clear q108
                  try clear q109
                  obtain ⟨kq, x84_21, rfl, HA, HJ21, ⟨mc21, rfl⟩⟩ := hcut
                  cases kq with
                  | zero => exact absurd HA.out (by simp [jsonparser_validJSONNumber.j4])
                  | succ kj21 =>
                    have H := HA.out
                    clear HA
                    simp only [jsonparser_validJSONNumber.j4] at H
                    have HC25 := Aside0.mk H
                    clear H
                    go_upto_if 84 with (fail)
                    go_cut [3] (fun v3 wc => ∃ (kq : Nat) (x3_24 : Int), v3 = .int .i64 x3_24 ∧ Aside0 (jsonparser_validJSONNumber.j6 kq l0 x3_24 = some r) ∧ Aside0 (kq ≤ kj21) ∧ Drawn0 w wc)
                    case first => as_aux_lemma =>
                      have H := HC25.out
                      clear HC25
                      by_cases c26 : x84_21 = true
                      · subst c26
                        have H1 : (jsonparser_validJSONNumber.l1 kj21 l0 (wrap64 (x3_7 + 1)) (wrap64 (x3_7 + 1))) = some r := by rw [if_pos rfl] at H; exact H
                        clear H
                        have H := H1
                        clear H1
                        have H' := Aside0.mk H
                        clear H
                        go_wp2
                        go_loopg [3] kj21 (fun kq v3 w' => ∃ (x3_4 : Int), v3 = .int .i64 x3_4 ∧ Aside0 (jsonparser_validJSONNumber.l1 kq l0 x3_4 (wrap64 (x3_7 + 1)) = some r) ∧ Aside0 (kq ≤ kj21) ∧ Drawn0 w w')
                        case atStart => exact ⟨(wrap64 (x3_7 + 1)), (by first | rfl | (simp; done) | (simp [*]; done)), H', ⟨Nat.le_refl _⟩, by repeat (first | exact Drawn0.refl _ | apply Drawn0.step)⟩
                        case round => as_aux_lemma =>
                          clear H'
                          try clear c1
                          try clear p1
                          try clear q1
                          try clear hx1
                          try clear qi1
                          try clear c2
                          try clear c2b0
                          try clear c2b1
                          try clear p2
                          try clear c3
                          try clear c4
                          try clear c4b0
                          try clear c4b1
                          try clear c5
                          try clear c5b0
                          try clear c5b1
                          try clear c6
                          try clear c6b0
                          try clear p6
                          try clear c7
                          try clear c7b0
                          try clear c9
                          try clear c9b0
                          try clear c9b1
                          try clear c10
                          try clear c10b0
                          try clear p10
                          try clear q10
                          try clear hx10
                          try clear qi10
                          try clear c12
                          try clear c12b0
                          try clear c13
                          try clear c13b0
                          try clear c14
                          try clear c14b0
                          try clear c16
                          try clear c16b0
                          try clear c17
                          try clear c18
                          try clear c18b0
                          try clear c19
                          try clear c19b0
                          try clear c20
                          try clear c20b0
                          try clear c21
                          try clear c21b0
                          try clear c23
                          try clear c23b0
                          try clear c24
                          try clear c24b0
                          try clear c26
                          try clear hx101_0
                          try clear hx102_0
                          try clear hx103_0
                          try clear hx104_0
                          try clear hx105_0
                          try clear hx106_0
                          try clear hx107_0
                          try clear hx108_0
                          try clear hx109_0
                          try clear p1
                          try clear p10
                          try clear p101
                          try clear p102
                          try clear p103
                          try clear p104
                          try clear p105
                          try clear p106
                          try clear p107
                          try clear p108
                          try clear p109
                          try clear p2
                          try clear p6
                          try clear q1
                          try clear q10
                          try clear q101
                          try clear q102
                          try clear q103
                          try clear q104
                          try clear q105
                          try clear q106
                          try clear q107
                          try clear q108
                          try clear q109
                          obtain ⟨x3_4, rfl, HA, HK4, ⟨m4, rfl⟩⟩ := hrel
                          cases gk with
                          | zero => exact absurd HA.out (by simp [jsonparser_validJSONNumber.l1])
                          | succ k4 =>
                            have H := HA.out
                            clear HA
                            simp only [jsonparser_validJSONNumber.l1] at H
                            by_cases c27 : x3_4 < (l0.length : Int)
                            · rw [if_pos c27] at H
                              have c27b0 : decide (x3_4 < (l0.length : Int)) = true := decide_eq_true c27
                              clear c27
                              (first | rw [c27b0] | (simp only [i64_w, i32_w]; rw [c27b0]) | skip)
                              by_cases c28 : 0 ≤ x3_4
                              · rw [if_pos c28] at H
                                have c28b0 : decide (0 ≤ x3_4) = true := decide_eq_true c28
                                clear c28
                                by_cases c29 : (rd l0 x3_4) ≥ 48
                                · rw [if_pos c29] at H
                                  have c29b0 : decide (48 ≤ (rd l0 x3_4)) = true := decide_eq_true c29
                                  clear c29
                                  by_cases c30 : (rd l0 x3_4) ≤ 57
                                  · rw [if_pos c30] at H
                                    have c30b0 : decide ((rd l0 x3_4) ≤ 57) = true := decide_eq_true c30
                                    clear c30
                                    have H' := Aside0.mk H
                                    clear H
                                    have p110 : 0 ≤ (x3_4 : Int) := of_decide_eq_true (by first | (with_reducible assumption) | assumption)
                                    have q110 : x3_4 < (l0.length : Int) := of_decide_eq_true (by first | (with_reducible assumption) | assumption)
                                    obtain ⟨ad110, e110, hx110_0⟩ := Kd.at_int HR0.out x3_4 p110 q110
                                    obtain rfl : ad101 = ad110 := (by injection e110)
                                    replace p110 := eq_true p110
                                    replace q110 := eq_true q110
                                    have p111 : 0 ≤ (x3_4 : Int) := of_decide_eq_true (by first | (with_reducible assumption) | assumption)
                                    have q111 : x3_4 < (l0.length : Int) := of_decide_eq_true (by first | (with_reducible assumption) | assumption)
                                    obtain ⟨ad111, e111, hx111_0⟩ := Kd.at_int HR0.out x3_4 p111 q111
                                    obtain rfl : ad101 = ad111 := (by injection e111)
                                    replace p111 := eq_true p111
                                    replace q111 := eq_true q111
                                    go_wp2
                                    go_roundg k4
                                    case measure => have := HJ2.out; have := HJ7.out; have := HJ21.out; have := HK4.out; omega
                                    case rel => exact ⟨(wrap64 (x3_4 + 1)), (by first | rfl | (simp; done) | (simp [*]; done)), H', ⟨by have := HJ2.out; have := HJ7.out; have := HJ21.out; have := HK4.out; omega⟩, by repeat (first | exact Drawn0.refl _ | apply Drawn0.step)⟩
                                  · rw [if_neg c30] at H
                                    have c30b0 : decide ((rd l0 x3_4) ≤ 57) = false := decide_eq_false c30
                                    clear c30
                                    by_cases c31 : x3_4 = (wrap64 (x3_7 + 1))
                                    · rw [if_pos c31] at H
                                      have c31b0 : (x3_4 == (wrap64 (x3_7 + 1))) = true := beq_iff_eq.mpr c31
                                      have c31b1 : (x3_4 != (wrap64 (x3_7 + 1))) = false := bne_eq_false_iff_eq.mpr c31
                                      clear c31
                                      obtain rfl := Option.some.inj H
                                      have p110 : 0 ≤ (x3_4 : Int) := of_decide_eq_true (by first | (with_reducible assumption) | assumption)
                                      have q110 : x3_4 < (l0.length : Int) := of_decide_eq_true (by first | (with_reducible assumption) | assumption)
                                      obtain ⟨ad110, e110, hx110_0⟩ := Kd.at_int HR0.out x3_4 p110 q110
                                      obtain rfl : ad101 = ad110 := (by injection e110)
                                      replace p110 := eq_true p110
                                      replace q110 := eq_true q110
                                      have p111 : 0 ≤ (x3_4 : Int) := of_decide_eq_true (by first | (with_reducible assumption) | assumption)
                                      have q111 : x3_4 < (l0.length : Int) := of_decide_eq_true (by first | (with_reducible assumption) | assumption)
                                      obtain ⟨ad111, e111, hx111_0⟩ := Kd.at_int HR0.out x3_4 p111 q111
                                      obtain rfl : ad101 = ad111 := (by injection e111)
                                      replace p111 := eq_true p111
                                      replace q111 := eq_true q111
                                      go_wp2
                                      go_ret
                                      exact ⟨by first | rfl | (simp; done) | (simp [*]; done), by repeat (first | exact Drawn0.refl _ | apply Drawn0.step)⟩
                                    · rw [if_neg c31] at H
                                      have c31b0 : (x3_4 == (wrap64 (x3_7 + 1))) = false := beq_eq_false_iff_ne.mpr c31
                                      have c31b1 : (x3_4 != (wrap64 (x3_7 + 1))) = true := bne_iff_ne.mpr c31
                                      have H' := Aside0.mk H
                                      clear H
                                      have p110 : 0 ≤ (x3_4 : Int) := of_decide_eq_true (by first | (with_reducible assumption) | assumption)
                                      have q110 : x3_4 < (l0.length : Int) := of_decide_eq_true (by first | (with_reducible assumption) | assumption)
                                      obtain ⟨ad110, e110, hx110_0⟩ := Kd.at_int HR0.out x3_4 p110 q110
                                      obtain rfl : ad101 = ad110 := (by injection e110)
                                      replace p110 := eq_true p110
                                      replace q110 := eq_true q110
                                      have p111 : 0 ≤ (x3_4 : Int) := of_decide_eq_true (by first | (with_reducible assumption) | assumption)
                                      have q111 : x3_4 < (l0.length : Int) := of_decide_eq_true (by first | (with_reducible assumption) | assumption)
                                      obtain ⟨ad111, e111, hx111_0⟩ := Kd.at_int HR0.out x3_4 p111 q111
                                      obtain rfl : ad101 = ad111 := (by injection e111)
                                      replace p111 := eq_true p111
                                      replace q111 := eq_true q111
                                      go_wp2
                                      go_meet
                                      case rel => exact ⟨_, (x3_4), (by first | rfl | (simp; done) | (simp [*]; done)), H', ⟨by have := HJ2.out; have := HJ7.out; have := HJ21.out; have := HK4.out; first | omega | exact Nat.le_refl _⟩, by repeat (first | exact Drawn0.refl _ | apply Drawn0.step)⟩
                                · rw [if_neg c29] at H
                                  have c29b0 : decide (48 ≤ (rd l0 x3_4)) = false := decide_eq_false c29
                                  clear c29
                                  by_cases c32 : x3_4 = (wrap64 (x3_7 + 1))
                                  · rw [if_pos c32] at H
                                    have c32b0 : (x3_4 == (wrap64 (x3_7 + 1))) = true := beq_iff_eq.mpr c32
                                    have c32b1 : (x3_4 != (wrap64 (x3_7 + 1))) = false := bne_eq_false_iff_eq.mpr c32
                                    clear c32
                                    obtain rfl := Option.some.inj H
                                    have p110 : 0 ≤ (x3_4 : Int) := of_decide_eq_true (by first | (with_reducible assumption) | assumption)
                                    have q110 : x3_4 < (l0.length : Int) := of_decide_eq_true (by first | (with_reducible assumption) | assumption)
                                    obtain ⟨ad110, e110, hx110_0⟩ := Kd.at_int HR0.out x3_4 p110 q110
                                    obtain rfl : ad101 = ad110 := (by injection e110)
                                    replace p110 := eq_true p110
                                    replace q110 := eq_true q110
                                    go_wp2
                                    go_ret
                                    exact ⟨by first | rfl | (simp; done) | (simp [*]; done), by repeat (first | exact Drawn0.refl _ | apply Drawn0.step)⟩
                                  · rw [if_neg c32] at H
                                    have c32b0 : (x3_4 == (wrap64 (x3_7 + 1))) = false := beq_eq_false_iff_ne.mpr c32
                                    have c32b1 : (x3_4 != (wrap64 (x3_7 + 1))) = true := bne_iff_ne.mpr c32
                                    have H' := Aside0.mk H
                                    clear H
                                    have p110 : 0 ≤ (x3_4 : Int) := of_decide_eq_true (by first | (with_reducible assumption) | assumption)
                                    have q110 : x3_4 < (l0.length : Int) := of_decide_eq_true (by first | (with_reducible assumption) | assumption)
                                    obtain ⟨ad110, e110, hx110_0⟩ := Kd.at_int HR0.out x3_4 p110 q110
                                    obtain rfl : ad101 = ad110 := (by injection e110)
                                    replace p110 := eq_true p110
                                    replace q110 := eq_true q110
                                    go_wp2
                                    go_meet
                                    case rel => exact ⟨_, (x3_4), (by first | rfl | (simp; done) | (simp [*]; done)), H', ⟨by have := HJ2.out; have := HJ7.out; have := HJ21.out; have := HK4.out; first | omega | exact Nat.le_refl _⟩, by repeat (first | exact Drawn0.refl _ | apply Drawn0.step)⟩
                              · rw [if_neg c28] at H
                                exact absurd H (by simp)
                            · rw [if_neg c27] at H
                              have c27b0 : decide (x3_4 < (l0.length : Int)) = false := decide_eq_false c27
                              clear c27
                              (first | rw [c27b0] | (simp only [i64_w, i32_w]; rw [c27b0]) | skip)
                              by_cases c33 : x3_4 = (wrap64 (x3_7 + 1))
                              · rw [if_pos c33] at H
                                have c33b0 : (x3_4 == (wrap64 (x3_7 + 1))) = true := beq_iff_eq.mpr c33
                                have c33b1 : (x3_4 != (wrap64 (x3_7 + 1))) = false := bne_eq_false_iff_eq.mpr c33
                                clear c33
                                obtain rfl := Option.some.inj H
                                go_wp2
                                go_ret
                                exact ⟨by first | rfl | (simp; done) | (simp [*]; done), by repeat (first | exact Drawn0.refl _ | apply Drawn0.step)⟩
                              · rw [if_neg c33] at H
                                have c33b0 : (x3_4 == (wrap64 (x3_7 + 1))) = false := beq_eq_false_iff_ne.mpr c33
                                have c33b1 : (x3_4 != (wrap64 (x3_7 + 1))) = true := bne_iff_ne.mpr c33
                                have H' := Aside0.mk H
                                clear H
                                go_wp2
                                go_meet
                                case rel => exact ⟨_, (x3_4), (by first | rfl | (simp; done) | (simp [*]; done)), H', ⟨by have := HJ2.out; have := HJ7.out; have := HJ21.out; have := HK4.out; first | omega | exact Nat.le_refl _⟩, by repeat (first | exact Drawn0.refl _ | apply Drawn0.step)⟩
                      · replace c26 := Bool.eq_false_iff.mpr c26
                        subst c26
                        have H1 : (jsonparser_validJSONNumber.j6 kj21 l0 x3_7) = some r := by rw [if_neg (show ¬ (false = true) by decide)] at H; exact H
                        clear H
                        have H := H1
                        clear H1
                        have H' := Aside0.mk H
                        clear H
                        go_wp2
                        go_meet
                        case rel => exact ⟨_, (x3_7), (by first | rfl | (simp; done) | (simp [*]; done)), H', ⟨by have := HJ2.out; have := HJ7.out; have := HJ21.out; first | omega | exact Nat.le_refl _⟩, by repeat (first | exact Drawn0.refl _ | apply Drawn0.step)⟩
                    case rest => as_aux_lemma =>
                      clear HC25
                      try clear c1
                      try clear p1
                      try clear q1
                      try clear hx1
                      try clear qi1
                      try clear c2
                      try clear c2b0
                      try clear c2b1
                      try clear p2
                      try clear c3
                      try clear c4
                      try clear c4b0
                      try clear c4b1
                      try clear c5
                      try clear c5b0
                      try clear c5b1
                      try clear c6
                      try clear c6b0
                      try clear p6
                      try clear c7
                      try clear c7b0
                      try clear c9
                      try clear c9b0
                      try clear c9b1
                      try clear c10
                      try clear c10b0
                      try clear p10
                      try clear q10
                      try clear hx10
                      try clear qi10
                      try clear p11
                      try clear q11
                      try clear hx11
                      try clear c12
                      try clear c12b0
                      try clear c13
                      try clear c13b0
                      try clear c14
                      try clear c14b0
                      try clear c16
                      try clear c16b0
                      try clear c17
                      try clear c18
                      try clear c18b0
                      try clear c19
                      try clear c19b0
                      try clear c20
                      try clear c20b0
                      try clear c21
                      try clear c21b0
                      try clear c23
                      try clear c23b0
                      try clear c24
                      try clear c24b0
                      try clear c26
                      try clear c27
                      try clear c27b0
                      try clear c28
                      try clear c28b0
                      try clear c29
                      try clear c29b0
                      try clear c30
                      try clear c30b0
                      try clear c31
                      try clear c31b0
                      try clear c31b1
                      try clear c32
                      try clear c32b0
                      try clear c32b1
                      try clear c33
                      try clear c33b0
                      try clear c33b1
                      try clear hx101_0
                      try clear hx102_0
                      try clear hx103_0
                      try clear hx104_0
                      try clear hx105_0
                      try clear hx106_0
                      try clear hx107_0
                      try clear hx108_0
                      try clear hx109_0
                      try clear hx110_0
                      try clear hx111_0
                      try clear p1
                      try clear p10
                      try clear p101
                      try clear p102
                      try clear p103
                      try clear p104
                      try clear p105
                      try clear p106
                      try clear p107
                      try clear p108
                      try clear p109
                      try clear p110
                      try clear p111
                      try clear p2
                      try clear p6
                      try clear q1
                      try clear q10
                      try clear q101
                      try clear q102
                      try clear q103
                      try clear q104
                      try clear q105
                      try clear q106
                      try clear q107
                      try clear q108
                      try clear q109
                      try clear q110
                      try clear q111
                      obtain ⟨kq, x3_24, rfl, HA, HJ24, ⟨mc24, rfl⟩⟩ := hcut
                      cases kq with
                      | zero => exact absurd HA.out (by simp [jsonparser_validJSONNumber.j6])
                      | succ kj24 =>
                        have H := HA.out
                        clear HA
                        simp only [jsonparser_validJSONNumber.j6] at H
                        have HC34 := Aside0.mk H
                        clear H
                        go_upto_region 21 with (fail)
                        go_cut [128] (fun v128 wc => ∃ (kq : Nat) (x128_33 : Bool), v128 = .bool x128_33 ∧ Aside0 (jsonparser_validJSONNumber.j7 kq l0 x3_24 x128_33 = some r) ∧ Aside0 (kq ≤ kj24) ∧ Drawn0 w wc)
                        case first => as_aux_lemma =>
                          have H := HC34.out
                          clear HC34
                          by_cases c35 : x3_24 < (l0.length : Int)
                          · rw [if_pos c35] at H
                            have c35b0 : decide (x3_24 < (l0.length : Int)) = true := decide_eq_true c35
                            clear c35
                            (first | rw [c35b0] | (simp only [i64_w, i32_w]; rw [c35b0]) | skip)
                            by_cases c36 : 0 ≤ x3_24
                            · rw [if_pos c36] at H
                              have c36b0 : decide (0 ≤ x3_24) = true := decide_eq_true c36
                              clear c36
                              by_cases c37 : (rd l0 x3_24) = 101
                              · rw [if_pos c37] at H
                                have c37b0 : ((rd l0 x3_24) == 101) = true := beq_iff_eq.mpr c37
                                have c37b1 : ((rd l0 x3_24) != 101) = false := bne_eq_false_iff_eq.mpr c37
                                clear c37
                                have H' := Aside0.mk H
                                clear H
                                have p112 : 0 ≤ (x3_24 : Int) := of_decide_eq_true (by first | (with_reducible assumption) | assumption)
                                have q112 : x3_24 < (l0.length : Int) := of_decide_eq_true (by first | (with_reducible assumption) | assumption)
                                obtain ⟨ad112, e112, hx112_0⟩ := Kd.at_int HR0.out x3_24 p112 q112
                                obtain rfl : ad101 = ad112 := (by injection e112)
                                replace p112 := eq_true p112
                                replace q112 := eq_true q112
                                go_wp2
                                go_meet
                                case rel => exact ⟨_, (true), (by first | rfl | (simp; done) | (simp [*]; done)), H', ⟨by have := HJ2.out; have := HJ7.out; have := HJ21.out; have := HJ24.out; first | omega | exact Nat.le_refl _⟩, by repeat (first | exact Drawn0.refl _ | apply Drawn0.step)⟩
                              · rw [if_neg c37] at H
                                have c37b0 : ((rd l0 x3_24) == 101) = false := beq_eq_false_iff_ne.mpr c37
                                have c37b1 : ((rd l0 x3_24) != 101) = true := bne_iff_ne.mpr c37
                                have H' := Aside0.mk H
                                clear H
                                have p112 : 0 ≤ (x3_24 : Int) := of_decide_eq_true (by first | (with_reducible assumption) | assumption)
                                have q112 : x3_24 < (l0.length : Int) := of_decide_eq_true (by first | (with_reducible assumption) | assumption)
                                obtain ⟨ad112, e112, hx112_0⟩ := Kd.at_int HR0.out x3_24 p112 q112
                                obtain rfl : ad101 = ad112 := (by injection e112)
                                replace p112 := eq_true p112
                                replace q112 := eq_true q112
                                have p113 : 0 ≤ (x3_24 : Int) := of_decide_eq_true (by first | (with_reducible assumption) | assumption)
                                have q113 : x3_24 < (l0.length : Int) := of_decide_eq_true (by first | (with_reducible assumption) | assumption)
                                obtain ⟨ad113, e113, hx113_0⟩ := Kd.at_int HR0.out x3_24 p113 q113
                                obtain rfl : ad101 = ad113 := (by injection e113)
                                replace p113 := eq_true p113
                                replace q113 := eq_true q113
                                go_wp2
                                go_meet
                                case rel => exact ⟨_, (((rd l0 x3_24) == 69)), (by first | rfl | (simp; done) | (simp [*]; done)), H', ⟨by have := HJ2.out; have := HJ7.out; have := HJ21.out; have := HJ24.out; first | omega | exact Nat.le_refl _⟩, by repeat (first | exact Drawn0.refl _ | apply Drawn0.step)⟩
                            · rw [if_neg c36] at H
                              exact absurd H (by simp)
                          · rw [if_neg c35] at H
                            have c35b0 : decide (x3_24 < (l0.length : Int)) = false := decide_eq_false c35
                            clear c35
                            (first | rw [c35b0] | (simp only [i64_w, i32_w]; rw [c35b0]) | skip)
                            have H' := Aside0.mk H
                            clear H
                            go_wp2
                            go_meet
                            case rel => exact ⟨_, (false), (by first | rfl | (simp; done) | (simp [*]; done)), H', ⟨by have := HJ2.out; have := HJ7.out; have := HJ21.out; have := HJ24.out; first | omega | exact Nat.le_refl _⟩, by repeat (first | exact Drawn0.refl _ | apply Drawn0.step)⟩
                        case rest => as_aux_lemma =>
                          clear HC34
                          try clear c1
                          try clear p1
                          try clear q1
                          try clear hx1
                          try clear qi1
                          try clear c2
                          try clear c2b0
                          try clear c2b1
                          try clear p2
                          try clear c3
                          try clear c4
                          try clear c4b0
                          try clear c4b1
                          try clear c5
                          try clear c5b0
                          try clear c5b1
                          try clear c6
                          try clear c6b0
                          try clear p6
                          try clear c7
                          try clear c7b0
                          try clear c9
                          try clear c9b0
                          try clear c9b1
                          try clear c10
                          try clear c10b0
                          try clear p10
                          try clear q10
                          try clear hx10
                          try clear qi10
                          try clear p11
                          try clear q11
                          try clear hx11
                          try clear c12
                          try clear c12b0
                          try clear c13
                          try clear c13b0
                          try clear c14
                          try clear c14b0
                          try clear c16
                          try clear c16b0
                          try clear c17
                          try clear c18
                          try clear c18b0
                          try clear c19
                          try clear c19b0
                          try clear c20
                          try clear c20b0
                          try clear c21
                          try clear c21b0
                          try clear c23
                          try clear c23b0
                          try clear c24
                          try clear c24b0
                          try clear c26
                          try clear c27
                          try clear c27b0
                          try clear c28
                          try clear c28b0
                          try clear c29
                          try clear c29b0
                          try clear c30
                          try clear c30b0
                          try clear c31
                          try clear c31b0
                          try clear c31b1
                          try clear c32
                          try clear c32b0
                          try clear c32b1
                          try clear c33
                          try clear c33b0
                          try clear c33b1
                          try clear c35
                          try clear c35b0
                          try clear c36
                          try clear c36b0
                          try clear c37
                          try clear c37b0
                          try clear c37b1
                          try clear hx101_0
                          try clear hx102_0
                          try clear hx103_0
                          try clear hx104_0
                          try clear hx105_0
                          try clear hx106_0
                          try clear hx107_0
                          try clear hx108_0
                          try clear hx109_0
                          try clear hx110_0
                          try clear hx111_0
                          try clear hx112_0
                          try clear hx113_0
                          try clear p1
                          try clear p10
                          try clear p101
                          try clear p102
                          try clear p103
                          try clear p104
                          try clear p105
                          try clear p106
                          try clear p107
                          try clear p108
                          try clear p109
                          try clear p11
                          try clear p110
                          try clear p111
                          try clear p112
                          try clear p113
                          try clear p2
                          try clear p6
                          try clear q1
                          try clear q10
                          try clear q101
                          try clear q102
                          try clear q103
                          try clear q104
                          try clear q105
                          try clear q106
                          try clear q107
                          try clear q108
                          try clear q109
                          try clear q11
                          try clear q110
                          try clear q111
                          try clear q112
                          try clear q113
                          obtain ⟨kq, x128_33, rfl, HA, HJ33, ⟨mc33, rfl⟩⟩ := hcut
                          cases kq with
                          | zero => exact absurd HA.out (by simp [jsonparser_validJSONNumber.j7])
                          | succ kj33 =>
                            have H := HA.out
                            clear HA
                            simp only [jsonparser_validJSONNumber.j7] at H
                            by_cases c38 : x128_33 = true
                            · subst c38
                              have H1 : (if (wrap64 (x3_24 + 1)) < (l0.length : Int) then (if 0 ≤ (wrap64 (x3_24 + 1)) then (if (rd l0 (wrap64 (x3_24 + 1))) = 43 then (jsonparser_validJSONNumber.j8 kj33 l0 (wrap64 (x3_24 + 1)) true) else (jsonparser_validJSONNumber.j8 kj33 l0 (wrap64 (x3_24 + 1)) ((rd l0 (wrap64 (x3_24 + 1))) == 45))) else (none)) else (jsonparser_validJSONNumber.j8 kj33 l0 (wrap64 (x3_24 + 1)) false)) = some r := by rw [if_pos rfl] at H; exact H
                              clear H
                              have H := H1
                              clear H1
                              have HC39 := Aside0.mk H
                              clear H
                              go_upto_region 23 with (fail)
                              go_cut [148] (fun v148 wc => ∃ (kq : Nat) (x148_38 : Bool), v148 = .bool x148_38 ∧ Aside0 (jsonparser_validJSONNumber.j8 kq l0 (wrap64 (x3_24 + 1)) x148_38 = some r) ∧ Aside0 (kq ≤ kj33) ∧ Drawn0 w wc)
                              case first => as_aux_lemma =>
                                have H := HC39.out
                                clear HC39
                                by_cases c40 : (wrap64 (x3_24 + 1)) < (l0.length : Int)
                                · rw [if_pos c40] at H
                                  have c40b0 : decide ((wrap64 (x3_24 + 1)) < (l0.length : Int)) = true := decide_eq_true c40
                                  clear c40
                                  (first | rw [c40b0] | (simp only [i64_w, i32_w]; rw [c40b0]) | skip)
                                  obtain ⟨ji41, hji41⟩ : ∃ j_ : Int, (wrap64 (x3_24 + 1)) = j_ := ⟨_, rfl⟩
                                  replace H : (if 0 ≤ (ji41) then (if (rd l0 (ji41)) = 43 then (jsonparser_validJSONNumber.j8 kj33 l0 ji41 true) else (jsonparser_validJSONNumber.j8 kj33 l0 ji41 ((rd l0 (ji41)) == 45))) else (none)) = some r := by first | (rw [hji41] at H; exact H) | (simp only [hji41] at H ⊢; exact H)
                                  (try rw [hji41] at c40b0)
                                  have hji41w : (IntKind.i64.wrap (x3_24 + 1)) = ji41 := (i64_w _).trans hji41
                                  by_cases c42 : 0 ≤ (ji41)
                                  · rw [if_pos c42] at H
                                    have c42b0 : decide (0 ≤ (ji41)) = true := decide_eq_true c42
                                    clear c42
                                    by_cases c43 : (rd l0 (ji41)) = 43
                                    · rw [if_pos c43] at H
                                      have c43b0 : ((rd l0 (ji41)) == 43) = true := beq_iff_eq.mpr c43
                                      have c43b1 : ((rd l0 (ji41)) != 43) = false := bne_eq_false_iff_eq.mpr c43
                                      clear c43
                                      have H' := Aside0.mk H
                                      clear H
                                      have p114 : 0 ≤ ((ji41) : Int) := of_decide_eq_true (by first | (with_reducible assumption) | assumption)
                                      have q114 : (ji41) < (l0.length : Int) := of_decide_eq_true (by first | (with_reducible assumption) | assumption)
                                      obtain ⟨ad114, e114, hx114_0⟩ := Kd.at_int HR0.out (ji41) p114 q114
                                      obtain rfl : ad101 = ad114 := (by injection e114)
                                      replace p114 := eq_true p114
                                      replace q114 := eq_true q114
                                      go_wp2
                                      (try simp only [← hji41])
                                      go_meet
                                      case rel => exact ⟨_, (true), (by first | rfl | (simp; done) | (simp [*]; done)), (by first | exact H' | (simp only [← hji41] at H' ⊢; exact H')), ⟨by have := HJ2.out; have := HJ7.out; have := HJ21.out; have := HJ24.out; have := HJ33.out; first | omega | exact Nat.le_refl _⟩, by repeat (first | exact Drawn0.refl _ | apply Drawn0.step)⟩
                                    · rw [if_neg c43] at H
                                      have c43b0 : ((rd l0 (ji41)) == 43) = false := beq_eq_false_iff_ne.mpr c43
                                      have c43b1 : ((rd l0 (ji41)) != 43) = true := bne_iff_ne.mpr c43
                                      have H' := Aside0.mk H
                                      clear H
                                      have p114 : 0 ≤ ((ji41) : Int) := of_decide_eq_true (by first | (with_reducible assumption) | assumption)
                                      have q114 : (ji41) < (l0.length : Int) := of_decide_eq_true (by first | (with_reducible assumption) | assumption)
                                      obtain ⟨ad114, e114, hx114_0⟩ := Kd.at_int HR0.out (ji41) p114 q114
                                      obtain rfl : ad101 = ad114 := (by injection e114)
                                      replace p114 := eq_true p114
                                      replace q114 := eq_true q114
                                      have p115 : 0 ≤ ((ji41) : Int) := of_decide_eq_true (by first | (with_reducible assumption) | assumption)
                                      have q115 : (ji41) < (l0.length : Int) := of_decide_eq_true (by first | (with_reducible assumption) | assumption)
                                      obtain ⟨ad115, e115, hx115_0⟩ := Kd.at_int HR0.out (ji41) p115 q115
                                      obtain rfl : ad101 = ad115 := (by injection e115)
                                      replace p115 := eq_true p115
                                      replace q115 := eq_true q115
                                      go_wp2
                                      (try simp only [← hji41])
                                      go_meet
                                      case rel => exact ⟨_, (((rd l0 (ji41)) == 45)), (by first | rfl | (simp; done) | (simp only [← hji41] <;> (first | rfl | simp)) | (simp [*]; done)), (by first | exact H' | (simp only [← hji41] at H' ⊢; exact H')), ⟨by have := HJ2.out; have := HJ7.out; have := HJ21.out; have := HJ24.out; have := HJ33.out; first | omega | exact Nat.le_refl _⟩, by repeat (first | exact Drawn0.refl _ | apply Drawn0.step)⟩
                                  · rw [if_neg c42] at H
                                    exact absurd H (by simp)
                                · rw [if_neg c40] at H
                                  have c40b0 : decide ((wrap64 (x3_24 + 1)) < (l0.length : Int)) = false := decide_eq_false c40
                                  clear c40
                                  (first | rw [c40b0] | (simp only [i64_w, i32_w]; rw [c40b0]) | skip)
                                  have H' := Aside0.mk H
                                  clear H
                                  go_wp2
                                  go_meet
                                  case rel => exact ⟨_, (false), (by first | rfl | (simp; done) | (simp [*]; done)), H', ⟨by have := HJ2.out; have := HJ7.out; have := HJ21.out; have := HJ24.out; have := HJ33.out; first | omega | exact Nat.le_refl _⟩, by repeat (first | exact Drawn0.refl _ | apply Drawn0.step)⟩
                              case rest => as_aux_lemma =>
                                clear HC39
                                try clear c1
                                try clear p1
                                try clear q1
                                try clear hx1
                                try clear qi1
                                try clear c2
                                try clear c2b0
                                try clear c2b1
                                try clear p2
                                try clear c3
                                try clear c4
                                try clear c4b0
                                try clear c4b1
                                try clear c5
                                try clear c5b0
                                try clear c5b1
                                try clear c6
                                try clear c6b0
                                try clear p6
                                try clear c7
                                try clear c7b0
                                try clear c9
                                try clear c9b0
                                try clear c9b1
                                try clear c10
                                try clear c10b0
                                try clear p10
                                try clear q10
                                try clear hx10
                                try clear qi10
                                try clear p11
                                try clear q11
                                try clear hx11
                                try clear c12
                                try clear c12b0
                                try clear c13
                                try clear c13b0
                                try clear c14
                                try clear c14b0
                                try clear c16
                                try clear c16b0
                                try clear c17
                                try clear c18
                                try clear c18b0
                                try clear c19
                                try clear c19b0
                                try clear c20
                                try clear c20b0
                                try clear c21
                                try clear c21b0
                                try clear c23
                                try clear c23b0
                                try clear c24
                                try clear c24b0
                                try clear c26
                                try clear c27
                                try clear c27b0
                                try clear c28
                                try clear c28b0
                                try clear c29
                                try clear c29b0
                                try clear c30
                                try clear c30b0
                                try clear c31
                                try clear c31b0
                                try clear c31b1
                                try clear c32
                                try clear c32b0
                                try clear c32b1
                                try clear c33
                                try clear c33b0
                                try clear c33b1
                                try clear c35
                                try clear c35b0
                                try clear c36
                                try clear c36b0
                                try clear c37
                                try clear c37b0
                                try clear c37b1
                                try clear c38
                                try clear c40
                                try clear c40b0
                                try clear c42
                                try clear c42b0
                                try clear c43
                                try clear c43b0
                                try clear c43b1
                                try clear hx101_0
                                try clear hx102_0
                                try clear hx103_0
                                try clear hx104_0
                                try clear hx105_0
                                try clear hx106_0
                                try clear hx107_0
                                try clear hx108_0
                                try clear hx109_0
                                try clear hx110_0
                                try clear hx111_0
                                try clear hx112_0
                                try clear hx113_0
                                try clear hx114_0
                                try clear hx115_0
                                try clear p1
                                try clear p10
                                try clear p101
                                try clear p102
                                try clear p103
                                try clear p104
                                try clear p105
                                try clear p106
                                try clear p107
                                try clear p108
                                try clear p109
                                try clear p11
                                try clear p110
                                try clear p111
                                try clear p112
                                try clear p113
                                try clear p114
                                try clear p115
                                try clear p2
                                try clear p6
                                try clear q1
                                try clear q10
                                try clear q101
                                try clear q102
                                try clear q103
                                try clear q104
                                try clear q105
                                try clear q106
                                try clear q107
                                try clear q108
                                try clear q109
                                try clear q11
                                try clear q110
                                try clear q111
                                try clear q112
                                try clear q113
                                try clear q114
                                try clear q115
                                obtain ⟨kq, x148_38, rfl, HA, HJ38, ⟨mc38, rfl⟩⟩ := hcut
                                cases kq with
                                | zero => exact absurd HA.out (by simp [jsonparser_validJSONNumber.j8])
                                | succ kj38 =>
                                  have H := HA.out
                                  clear HA
                                  simp only [jsonparser_validJSONNumber.j8] at H
                                  have HC44 := Aside0.mk H
                                  clear H
                                  go_upto_if 148 with (fail)
                                  go_cut [3] (fun v3 wc => ∃ (kq : Nat) (x3_43 : Int), v3 = .int .i64 x3_43 ∧ Aside0 (jsonparser_validJSONNumber.j9 kq l0 x3_43 = some r) ∧ Aside0 (kq ≤ kj38) ∧ Drawn0 w wc)
                                  case first => as_aux_lemma =>
                                    have H := HC44.out
                                    clear HC44
                                    by_cases c45 : x148_38 = true
                                    · subst c45
                                      have H1 : (jsonparser_validJSONNumber.j9 kj38 l0 (wrap64 ((wrap64 (x3_24 + 1)) + 1))) = some r := by rw [if_pos rfl] at H; exact H
                                      clear H
                                      have H := H1
                                      clear H1
                                      have H' := Aside0.mk H
                                      clear H
                                      go_wp2
                                      go_meet
                                      case rel => exact ⟨_, (wrap64 ((wrap64 (x3_24 + 1)) + 1)), (by first | rfl | (simp; done) | (simp [*]; done)), H', ⟨by have := HJ2.out; have := HJ7.out; have := HJ21.out; have := HJ24.out; have := HJ33.out; have := HJ38.out; first | omega | exact Nat.le_refl _⟩, by repeat (first | exact Drawn0.refl _ | apply Drawn0.step)⟩
                                    · replace c45 := Bool.eq_false_iff.mpr c45
                                      subst c45
                                      have H1 : (jsonparser_validJSONNumber.j9 kj38 l0 (wrap64 (x3_24 + 1))) = some r := by rw [if_neg (show ¬ (false = true) by decide)] at H; exact H
                                      clear H
                                      have H := H1
                                      clear H1
                                      have H' := Aside0.mk H
                                      clear H
                                      go_wp2
                                      go_meet
                                      case rel => exact ⟨_, ((wrap64 (x3_24 + 1))), (by first | rfl | (simp; done) | (simp [*]; done)), H', ⟨by have := HJ2.out; have := HJ7.out; have := HJ21.out; have := HJ24.out; have := HJ33.out; have := HJ38.out; first | omega | exact Nat.le_refl _⟩, by repeat (first | exact Drawn0.refl _ | apply Drawn0.step)⟩
                                  case rest => as_aux_lemma =>
                                    clear HC44
                                    try clear c1
                                    try clear p1
                                    try clear q1
                                    try clear hx1
                                    try clear qi1
                                    try clear c2
                                    try clear c2b0
                                    try clear c2b1
                                    try clear p2
                                    try clear c3
                                    try clear c4
                                    try clear c4b0
                                    try clear c4b1
                                    try clear c5
                                    try clear c5b0
                                    try clear c5b1
                                    try clear c6
                                    try clear c6b0
                                    try clear p6
                                    try clear c7
                                    try clear c7b0
                                    try clear c9
                                    try clear c9b0
                                    try clear c9b1
                                    try clear c10
                                    try clear c10b0
                                    try clear p10
                                    try clear q10
                                    try clear hx10
                                    try clear qi10
                                    try clear p11
                                    try clear q11
                                    try clear hx11
                                    try clear c12
                                    try clear c12b0
                                    try clear c13
                                    try clear c13b0
                                    try clear c14
                                    try clear c14b0
                                    try clear c16
                                    try clear c16b0
                                    try clear c17
                                    try clear c18
                                    try clear c18b0
                                    try clear c19
                                    try clear c19b0
                                    try clear c20
                                    try clear c20b0
                                    try clear c21
                                    try clear c21b0
                                    try clear c23
                                    try clear c23b0
                                    try clear c24
                                    try clear c24b0
                                    try clear c26
                                    try clear c27
                                    try clear c27b0
                                    try clear c28
                                    try clear c28b0
                                    try clear c29
                                    try clear c29b0
                                    try clear c30
                                    try clear c30b0
                                    try clear c31
                                    try clear c31b0
                                    try clear c31b1
                                    try clear c32
                                    try clear c32b0
                                    try clear c32b1
                                    try clear c33
                                    try clear c33b0
                                    try clear c33b1
                                    try clear c35
                                    try clear c35b0
                                    try clear c36
                                    try clear c36b0
                                    try clear c37
                                    try clear c37b0
                                    try clear c37b1
                                    try clear c38
                                    try clear c40
                                    try clear c40b0
                                    try clear c42
                                    try clear c42b0
                                    try clear c43
                                    try clear c43b0
                                    try clear c43b1
                                    try clear c45
                                    try clear hx101_0
                                    try clear hx102_0
                                    try clear hx103_0
                                    try clear hx104_0
                                    try clear hx105_0
                                    try clear hx106_0
                                    try clear hx107_0
                                    try clear hx108_0
                                    try clear hx109_0
                                    try clear hx110_0
                                    try clear hx111_0
                                    try clear hx112_0
                                    try clear hx113_0
                                    try clear hx114_0
                                    try clear hx115_0
                                    try clear p1
                                    try clear p10
                                    try clear p101
                                    try clear p102
                                    try clear p103
                                    try clear p104
                                    try clear p105
                                    try clear p106
                                    try clear p107
                                    try clear p108
                                    try clear p109
                                    try clear p11
                                    try clear p110
                                    try clear p111
                                    try clear p112
                                    try clear p113
                                    try clear p114
                                    try clear p115
                                    try clear p2
                                    try clear p6
                                    try clear q1
                                    try clear q10
                                    try clear q101
                                    try clear q102
                                    try clear q103
                                    try clear q104
                                    try clear q105
                                    try clear q106
                                    try clear q107
                                    try clear q108
                                    try clear q109
                                    try clear q11
                                    try clear q110
                                    try clear q111
                                    try clear q112
                                    try clear q113
                                    try clear q114
                                    try clear q115
                                    obtain ⟨kq, x3_43, rfl, HA, HJ43, ⟨mc43, rfl⟩⟩ := hcut
                                    cases kq with
                                    | zero => exact absurd HA.out (by simp [jsonparser_validJSONNumber.j9])
                                    | succ kj43 =>
                                      have H := HA.out
                                      clear HA
                                      simp only [jsonparser_validJSONNumber.j9] at H
                                      have H' := Aside0.mk H
                                      clear H
                                      go_wp2
                                      go_loopg [3] kj43 (fun kq v3 w' => ∃ (x3_8 : Int), v3 = .int .i64 x3_8 ∧ Aside0 (jsonparser_validJSONNumber.l2 kq l0 x3_8 x3_43 = some r) ∧ Aside0 (kq ≤ kj43) ∧ Drawn0 w w')
                                      case atStart => exact ⟨(x3_43), (by first | rfl | (simp; done) | (simp [*]; done)), H', ⟨Nat.le_refl _⟩, by repeat (first | exact Drawn0.refl _ | apply Drawn0.step)⟩
                                      case round => as_aux_lemma =>
                                        clear H'
                                        try clear c1
                                        try clear p1
                                        try clear q1
                                        try clear hx1
                                        try clear qi1
                                        try clear c2
                                        try clear c2b0
                                        try clear c2b1
                                        try clear p2
                                        try clear c3
                                        try clear c4
                                        try clear c4b0
                                        try clear c4b1
                                        try clear c5
                                        try clear c5b0
                                        try clear c5b1
                                        try clear c6
                                        try clear c6b0
                                        try clear p6
                                        try clear c7
                                        try clear c7b0
                                        try clear c9
                                        try clear c9b0
                                        try clear c9b1
                                        try clear c10
                                        try clear c10b0
                                        try clear p10
                                        try clear q10
                                        try clear hx10
                                        try clear qi10
                                        try clear p11
                                        try clear q11
                                        try clear hx11
                                        try clear c12
                                        try clear c12b0
                                        try clear c13
                                        try clear c13b0
                                        try clear c14
                                        try clear c14b0
                                        try clear c16
                                        try clear c16b0
                                        try clear c17
                                        try clear c18
                                        try clear c18b0
                                        try clear c19
                                        try clear c19b0
                                        try clear c20
                                        try clear c20b0
                                        try clear c21
                                        try clear c21b0
                                        try clear c23
                                        try clear c23b0
                                        try clear c24
                                        try clear c24b0
                                        try clear c26
                                        try clear c27
                                        try clear c27b0
                                        try clear c28
                                        try clear c28b0
                                        try clear c29
                                        try clear c29b0
                                        try clear c30
                                        try clear c30b0
                                        try clear c31
                                        try clear c31b0
                                        try clear c31b1
                                        try clear c32
                                        try clear c32b0
                                        try clear c32b1
                                        try clear c33
                                        try clear c33b0
                                        try clear c33b1
                                        try clear c35
                                        try clear c35b0
                                        try clear c36
                                        try clear c36b0
                                        try clear c37
                                        try clear c37b0
                                        try clear c37b1
                                        try clear c38
                                        try clear c40
                                        try clear c40b0
                                        try clear c42
                                        try clear c42b0
                                        try clear c43
                                        try clear c43b0
                                        try clear c43b1
                                        try clear c45
                                        try clear hx101_0
                                        try clear hx102_0
                                        try clear hx103_0
                                        try clear hx104_0
                                        try clear hx105_0
                                        try clear hx106_0
                                        try clear hx107_0
                                        try clear hx108_0
                                        try clear hx109_0
                                        try clear hx110_0
                                        try clear hx111_0
                                        try clear hx112_0
                                        try clear hx113_0
                                        try clear hx114_0
                                        try clear hx115_0
                                        try clear p1
                                        try clear p10
                                        try clear p101
                                        try clear p102
                                        try clear p103
                                        try clear p104
                                        try clear p105
                                        try clear p106
                                        try clear p107
                                        try clear p108
                                        try clear p109
                                        try clear p11
                                        try clear p110
                                        try clear p111
                                        try clear p112
                                        try clear p113
                                        try clear p114
                                        try clear p115
                                        try clear p2
                                        try clear p6
                                        try clear q1
                                        try clear q10
                                        try clear q101
                                        try clear q102
                                        try clear q103
                                        try clear q104
                                        try clear q105
                                        try clear q106
                                        try clear q107
                                        try clear q108
                                        try clear q109
                                        try clear q11
                                        try clear q110
                                        try clear q111
                                        try clear q112
                                        try clear q113
                                        try clear q114
                                        try clear q115
                                        obtain ⟨x3_8, rfl, HA, HK8, ⟨m8, rfl⟩⟩ := hrel
                                        cases gk with
                                        | zero => exact absurd HA.out (by simp [jsonparser_validJSONNumber.l2])
                                        | succ k8 =>
                                          have H := HA.out
                                          clear HA
                                          simp only [jsonparser_validJSONNumber.l2] at H
                                          by_cases c46 : x3_8 < (l0.length : Int)
                                          · rw [if_pos c46] at H
                                            have c46b0 : decide (x3_8 < (l0.length : Int)) = true := decide_eq_true c46
                                            clear c46
                                            by_cases c47 : 0 ≤ x3_8
                                            · rw [if_pos c47] at H
                                              have c47b0 : decide (0 ≤ x3_8) = true := decide_eq_true c47
                                              clear c47
                                              by_cases c48 : (rd l0 x3_8) ≥ 48
                                              · rw [if_pos c48] at H
                                                have c48b0 : decide (48 ≤ (rd l0 x3_8)) = true := decide_eq_true c48
                                                clear c48
                                                by_cases c49 : (rd l0 x3_8) ≤ 57
                                                · rw [if_pos c49] at H
                                                  have c49b0 : decide ((rd l0 x3_8) ≤ 57) = true := decide_eq_true c49
                                                  clear c49
                                                  have H' := Aside0.mk H
                                                  clear H
                                                  have p116 : 0 ≤ (x3_8 : Int) := of_decide_eq_true (by first | (with_reducible assumption) | assumption)
                                                  have q116 : x3_8 < (l0.length : Int) := of_decide_eq_true (by first | (with_reducible assumption) | assumption)
                                                  obtain ⟨ad116, e116, hx116_0⟩ := Kd.at_int HR0.out x3_8 p116 q116
                                                  obtain rfl : ad101 = ad116 := (by injection e116)
                                                  replace p116 := eq_true p116
                                                  replace q116 := eq_true q116
                                                  have p117 : 0 ≤ (x3_8 : Int) := of_decide_eq_true (by first | (with_reducible assumption) | assumption)
                                                  have q117 : x3_8 < (l0.length : Int) := of_decide_eq_true (by first | (with_reducible assumption) | assumption)
                                                  obtain ⟨ad117, e117, hx117_0⟩ := Kd.at_int HR0.out x3_8 p117 q117
                                                  obtain rfl : ad101 = ad117 := (by injection e117)
                                                  replace p117 := eq_true p117
                                                  replace q117 := eq_true q117
                                                  go_wp2
                                                  go_roundg k8
                                                  case measure => have := HJ2.out; have := HJ7.out; have := HJ21.out; have := HJ24.out; have := HJ33.out; have := HJ38.out; have := HJ43.out; have := HK8.out; omega
                                                  case rel => exact ⟨(wrap64 (x3_8 + 1)), (by first | rfl | (simp; done) | (simp [*]; done)), H', ⟨by have := HJ2.out; have := HJ7.out; have := HJ21.out; have := HJ24.out; have := HJ33.out; have := HJ38.out; have := HJ43.out; have := HK8.out; omega⟩, by repeat (first | exact Drawn0.refl _ | apply Drawn0.step)⟩
                                                · rw [if_neg c49] at H
                                                  have c49b0 : decide ((rd l0 x3_8) ≤ 57) = false := decide_eq_false c49
                                                  clear c49
                                                  by_cases c50 : x3_8 = x3_43
                                                  · rw [if_pos c50] at H
                                                    have c50b0 : (x3_8 == x3_43) = true := beq_iff_eq.mpr c50
                                                    have c50b1 : (x3_8 != x3_43) = false := bne_eq_false_iff_eq.mpr c50
                                                    clear c50
                                                    obtain rfl := Option.some.inj H
                                                    have p116 : 0 ≤ (x3_8 : Int) := of_decide_eq_true (by first | (with_reducible assumption) | assumption)
                                                    have q116 : x3_8 < (l0.length : Int) := of_decide_eq_true (by first | (with_reducible assumption) | assumption)
                                                    obtain ⟨ad116, e116, hx116_0⟩ := Kd.at_int HR0.out x3_8 p116 q116
                                                    obtain rfl : ad101 = ad116 := (by injection e116)
                                                    replace p116 := eq_true p116
                                                    replace q116 := eq_true q116
                                                    have p117 : 0 ≤ (x3_8 : Int) := of_decide_eq_true (by first | (with_reducible assumption) | assumption)
                                                    have q117 : x3_8 < (l0.length : Int) := of_decide_eq_true (by first | (with_reducible assumption) | assumption)
                                                    obtain ⟨ad117, e117, hx117_0⟩ := Kd.at_int HR0.out x3_8 p117 q117
                                                    obtain rfl : ad101 = ad117 := (by injection e117)
                                                    replace p117 := eq_true p117
                                                    replace q117 := eq_true q117
                                                    go_wp2
                                                    go_ret
                                                    exact ⟨by first | rfl | (simp; done) | (simp [*]; done), by repeat (first | exact Drawn0.refl _ | apply Drawn0.step)⟩
                                                  · rw [if_neg c50] at H
                                                    have c50b0 : (x3_8 == x3_43) = false := beq_eq_false_iff_ne.mpr c50
                                                    have c50b1 : (x3_8 != x3_43) = true := bne_iff_ne.mpr c50
                                                    obtain rfl := Option.some.inj H
                                                    have p116 : 0 ≤ (x3_8 : Int) := of_decide_eq_true (by first | (with_reducible assumption) | assumption)
                                                    have q116 : x3_8 < (l0.length : Int) := of_decide_eq_true (by first | (with_reducible assumption) | assumption)
                                                    obtain ⟨ad116, e116, hx116_0⟩ := Kd.at_int HR0.out x3_8 p116 q116
                                                    obtain rfl : ad101 = ad116 := (by injection e116)
                                                    replace p116 := eq_true p116
                                                    replace q116 := eq_true q116
                                                    have p117 : 0 ≤ (x3_8 : Int) := of_decide_eq_true (by first | (with_reducible assumption) | assumption)
                                                    have q117 : x3_8 < (l0.length : Int) := of_decide_eq_true (by first | (with_reducible assumption) | assumption)
                                                    obtain ⟨ad117, e117, hx117_0⟩ := Kd.at_int HR0.out x3_8 p117 q117
                                                    obtain rfl : ad101 = ad117 := (by injection e117)
                                                    replace p117 := eq_true p117
                                                    replace q117 := eq_true q117
                                                    go_wp2
                                                    go_ret
                                                    exact ⟨by first | rfl | (simp; done) | (simp [*]; done), by repeat (first | exact Drawn0.refl _ | apply Drawn0.step)⟩
                                              · rw [if_neg c48] at H
                                                have c48b0 : decide (48 ≤ (rd l0 x3_8)) = false := decide_eq_false c48
                                                clear c48
                                                by_cases c51 : x3_8 = x3_43
                                                · rw [if_pos c51] at H
                                                  have c51b0 : (x3_8 == x3_43) = true := beq_iff_eq.mpr c51
                                                  have c51b1 : (x3_8 != x3_43) = false := bne_eq_false_iff_eq.mpr c51
                                                  clear c51
                                                  obtain rfl := Option.some.inj H
                                                  have p116 : 0 ≤ (x3_8 : Int) := of_decide_eq_true (by first | (with_reducible assumption) | assumption)
                                                  have q116 : x3_8 < (l0.length : Int) := of_decide_eq_true (by first | (with_reducible assumption) | assumption)
                                                  obtain ⟨ad116, e116, hx116_0⟩ := Kd.at_int HR0.out x3_8 p116 q116
                                                  obtain rfl : ad101 = ad116 := (by injection e116)
                                                  replace p116 := eq_true p116
                                                  replace q116 := eq_true q116
                                                  go_wp2
                                                  go_ret
                                                  exact ⟨by first | rfl | (simp; done) | (simp [*]; done), by repeat (first | exact Drawn0.refl _ | apply Drawn0.step)⟩
                                                · rw [if_neg c51] at H
                                                  have c51b0 : (x3_8 == x3_43) = false := beq_eq_false_iff_ne.mpr c51
                                                  have c51b1 : (x3_8 != x3_43) = true := bne_iff_ne.mpr c51
                                                  obtain rfl := Option.some.inj H
                                                  have p116 : 0 ≤ (x3_8 : Int) := of_decide_eq_true (by first | (with_reducible assumption) | assumption)
                                                  have q116 : x3_8 < (l0.length : Int) := of_decide_eq_true (by first | (with_reducible assumption) | assumption)
                                                  obtain ⟨ad116, e116, hx116_0⟩ := Kd.at_int HR0.out x3_8 p116 q116
                                                  obtain rfl : ad101 = ad116 := (by injection e116)
                                                  replace p116 := eq_true p116
                                                  replace q116 := eq_true q116
                                                  go_wp2
                                                  go_ret
                                                  exact ⟨by first | rfl | (simp; done) | (simp [*]; done), by repeat (first | exact Drawn0.refl _ | apply Drawn0.step)⟩
                                            · rw [if_neg c47] at H
                                              exact absurd H (by simp)
                                          · rw [if_neg c46] at H
                                            have c46b0 : decide (x3_8 < (l0.length : Int)) = false := decide_eq_false c46
                                            clear c46
                                            by_cases c52 : x3_8 = x3_43
                                            · rw [if_pos c52] at H
                                              have c52b0 : (x3_8 == x3_43) = true := beq_iff_eq.mpr c52
                                              have c52b1 : (x3_8 != x3_43) = false := bne_eq_false_iff_eq.mpr c52
                                              clear c52
                                              obtain rfl := Option.some.inj H
                                              go_wp2
                                              go_ret
                                              exact ⟨by first | rfl | (simp; done) | (simp [*]; done), by repeat (first | exact Drawn0.refl _ | apply Drawn0.step)⟩
                                            · rw [if_neg c52] at H
                                              have c52b0 : (x3_8 == x3_43) = false := beq_eq_false_iff_ne.mpr c52
                                              have c52b1 : (x3_8 != x3_43) = true := bne_iff_ne.mpr c52
                                              obtain rfl := Option.some.inj H
                                              go_wp2
                                              go_ret
                                              exact ⟨by first | rfl | (simp; done) | (simp [*]; done), by repeat (first | exact Drawn0.refl _ | apply Drawn0.step)⟩
                            · replace c38 := Bool.eq_false_iff.mpr c38
                              subst c38
                              have H1 : (some (x3_24 == (l0.length : Int))) = some r := by rw [if_neg (show ¬ (false = true) by decide)] at H; exact H
                              clear H
                              have H := H1
                              clear H1
                              obtain rfl := Option.some.inj H
                              go_wp2
                              go_ret
                              exact ⟨by first | rfl | (simp; done) | (simp [*]; done), by repeat (first | exact Drawn0.refl _ | apply Drawn0.step)⟩
          · rw [if_neg c7] at H
            exact absurd H (by simp)
        · rw [if_neg c6] at H
          exact absurd H (by simp)
  · rw [if_neg c2] at H
    exact absurd H (by simp)

end Go.Proofs.Ytegbajfmhkmolaa.Q
