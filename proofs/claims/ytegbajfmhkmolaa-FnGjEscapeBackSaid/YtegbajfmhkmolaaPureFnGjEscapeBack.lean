/- What Escape makes of a text (of at most 2^12 bytes) has a backslash ahead of each of the characters . | # @ * ? ! { [ ( \ and is, without the backslashes that stand ahead of a character, the text. No condition beyond the statement's own guards. -/
import Derived.Test.YtegbajfmhkmolaaQxf4
namespace Go.Proofs.Ytegbajfmhkmolaa.Pure
open Go.RowKit Go.Proofs.Ytegbajfmhkmolaa.Q Go.Proofs.YtegbajfmhkmolaaW.PrintWords Go.Proofs.YtegbajfmhkmolaaW.PrintLast

theorem nums_range (s : ByteArray) : ∀ c ∈ numsOf s, 0 ≤ c ∧ c ≤ 255 := by
  intro c hc
  simp only [numsOf, List.mem_map] at hc
  obtain ⟨b, _, rfl⟩ := hc
  have := b.toNat_lt
  omega
theorem esc_range : ∀ l : List Int, (∀ c ∈ l, 0 ≤ c ∧ c ≤ 255) → ∀ c ∈ escL l, 0 ≤ c ∧ c ≤ 255
  | [], _ => by simp [escL]
  | d :: l, h => by
    have ih := esc_range l (fun c hc => h c (by simp [hc]))
    have hd := h d (by simp)
    intro c hc
    rw [escL] at hc
    split at hc
    · simp only [List.mem_cons] at hc
      rcases hc with rfl | hc
      · exact hd
      · exact ih c hc
    · simp only [List.mem_cons] at hc
      rcases hc with rfl | rfl | hc
      · omega
      · exact hd
      · exact ih c hc
theorem nums_str (l : List Int) (h : ∀ c ∈ l, 0 ≤ c ∧ c ≤ 255) : numsOf (strOfNums l) = l := by
  simp only [numsOf, strOfNums, List.map_map]
  conv => rhs; rw [← List.map_id l]
  refine List.map_congr_left fun c hc => ?_
  have := h c hc
  simp only [Function.comp, UInt8.toNat_ofNat', id]
  omega
theorem str_size (l : List Int) : (strOfNums l).size = l.length := by simp [strOfNums, ByteArray.size]
theorem bt_str (l : List Int) (h : ∀ c ∈ l, 0 ≤ c ∧ c ≤ 255) (i : Int) : bt (strOfNums l) i = rd l i := by rw [← numsOf_rd, nums_str l h]
theorem rd_at (p : List Int) (c : Int) (t : List Int) : rd (p ++ c :: t) (p.length : Int) = c := by simp [rd]
theorem wrap_n (i : Nat) (h : i ≤ 140737488351232) : wrap64 ((i : Int) + 1) = ((i + 1 : Nat) : Int) := by
  unfold wrap64
  omega

theorem back_tells (s : ByteArray) (hs : s.size ≤ 4096) : ∀ (T B P : List Int), P ++ escL T = escL (numsOf s) → B ++ T = numsOf s →
    Ev (fun k => laws_FnGjEscapeBack.l0 k s (strOfNums (escL (numsOf s))) B (P.length : Int)) true := by
  have hR := esc_range _ (nums_range s)
  have hL := escL_length (numsOf s)
  rw [numsOf_length] at hL
  intro T
  induction T with
  | nil =>
    intro B P hP hB
    rw [List.append_nil] at hB
    simp only [escL, List.append_nil] at hP
    refine Ev.step (f := fun _ => some true) (fun k => ?_) (Ev.now _)
    simp only [laws_FnGjEscapeBack.l0]
    rw [if_neg (by rw [str_size, ← hP]; omega), hB, strOfNums_numsOf]
    simp
  | cons c T ih =>
    intro B P hP hB
    have hlen : P.length + (escL (c :: T)).length = (escL (numsOf s)).length := by rw [← hP, List.length_append]
    have hBl : B.length + (T.length + 1) = s.size := by rw [← numsOf_length, ← hB]; simp
    by_cases hc : escSafe c = true
    · have he : escL (c :: T) = c :: escL T := by rw [escL, if_pos hc]
      rw [he] at hP hlen
      rw [List.length_cons] at hlen
      have h1 := ih (B ++ [c]) (P ++ [c]) (by rw [← hP]; simp) (by rw [← hB]; simp)
      refine Ev.step (fun k => ?_) h1
      simp only [laws_FnGjEscapeBack.l0, bt_str _ hR, str_size]
      rw [if_pos (by omega), if_pos (by omega)]
      have hv : rd (escL (numsOf s)) (P.length : Int) = c := by rw [← hP, rd_at]
      rw [hv]
      simp only [escSafe, decide_eq_true_eq] at hc
      rw [if_neg (by omega), if_neg (by omega), if_neg (by omega), if_neg (by omega), if_neg (by omega), if_neg (by omega), if_neg (by omega), if_neg (by omega), if_neg (by omega), if_neg (by omega), if_neg (by omega), if_pos (by omega), wrap_n _ (by omega)]
      simp
    · have he : escL (c :: T) = 92 :: c :: escL T := by rw [escL, if_neg hc]
      rw [he] at hP hlen
      simp only [List.length_cons] at hlen
      have h1 := ih (B ++ [c]) (P ++ [92, c]) (by rw [← hP]; simp) (by rw [← hB]; simp)
      refine Ev.step (fun k => ?_) h1
      simp only [laws_FnGjEscapeBack.l0, bt_str _ hR, str_size]
      rw [if_pos (by omega), if_pos (by omega)]
      have hv : rd (escL (numsOf s)) (P.length : Int) = 92 := by rw [← hP, rd_at]
      have hv2 : rd (escL (numsOf s)) ((P.length + 1 : Nat) : Int) = c := by
        have := rd_at (P ++ [92]) c (escL T)
        rw [← hP]
        simpa using this
      rw [if_pos hv, wrap_n _ (by omega), if_neg (by omega), if_pos (by omega), if_pos (by omega), if_pos (by omega), hv2, wrap_n _ (by omega)]
      congr 1
      simp
      omega

theorem FnGjEscapeBack : laws_FnGjEscapeBack.Pure := by
  intro s _
  refine Ev.rounds (g := fun k => laws_FnGjEscapeBack.f k s) ?_
  by_cases h1 : (s.size : Int) > 2147483647
  · refine Ev.congr (f := fun _ => some true) (fun k => ?_) (Ev.now _)
    unfold laws_FnGjEscapeBack.f
    rw [if_pos h1]
  by_cases h2 : (s.size : Int) > 4096
  · refine Ev.congr (f := fun _ => some true) (fun k => ?_) (Ev.now _)
    unfold laws_FnGjEscapeBack.f
    rw [if_neg h1, if_pos h2]
  refine Ev.congr (fun k => ?_) (back_tells s (by omega) (numsOf s) [] [] rfl rfl)
  unfold laws_FnGjEscapeBack.f impl_GjEscape.f gjson_Escape.f
  rw [if_neg h1, if_neg h2, if_pos (by omega)]
  rfl

end Go.Proofs.Ytegbajfmhkmolaa.Pure
