/- What matchTrimSuffix leaves: beginnings of both, never cut within the first character. -/
import Derived.Test.YtegbajfmhkmolaaDoorNxf91
import Derived.Test.YtegbajfmhkmolaaDoorDecLastN
import Derived.Test.YtegbajfmhkmolaaDoorJTextN
namespace Go.Proofs.YtegbajfmhkmolaaDoor.D
open Go.RowKit Go.Proofs.YtegbajfmhkmolaaDoor.N Go.Proofs.YtegbajfmhkmolaaDoorW.PrintWords Go.Proofs.YtegbajfmhkmolaaDoorW.PrintLast
open Go.Lib (decodeN decodeL decodeLastL)
open J (w64 Ev_same)

theorem data0 (s : ByteArray) (e : Nat) : (s.extract 0 e).data.toList = s.data.toList.take e := by
  rw [ByteArray.data_extract, Array.toList_extract, List.extract_eq_take_drop]
  simp
theorem dataD (s : ByteArray) (p : Nat) : (s.extract p s.size).data.toList = s.data.toList.drop p := by
  rw [ByteArray.data_extract, Array.toList_extract, List.extract_eq_take_drop, List.take_of_length_le (by rw [List.length_drop, data_length]; omega)]
theorem size0 (s : ByteArray) {e : Nat} (h : e ≤ s.size) : (s.extract 0 e).size = e := by
  rw [ByteArray.size_extract]
  omega
theorem ext00 (s : ByteArray) {e n : Nat} (h : n ≤ e) : (s.extract 0 e).extract 0 n = s.extract 0 n := by
  apply J.bytesOf_inj
  rw [J.bytesOf_extract, J.bytesOf_extract, J.bytesOf_extract]
  simp only [List.drop_zero, List.take_take, Nat.min_eq_left h]
section
variable (s p : ByteArray) (nc : Bool)
/-- It ends, and what is left is a beginning of each. -/
def EX (g : Nat → Option (ByteArray × ByteArray × Bool)) : Prop :=
  ∃ e q ok, Ev g (s.extract 0 e, p.extract 0 q, ok) ∧ e ≤ s.size ∧ 1 ≤ q ∧ q ≤ p.size ∧ (e = 0 ∨ fw s.data.toList ≤ e)
variable {s p nc}
theorem EX.step {g f : Nat → Option (ByteArray × ByteArray × Bool)} (h : ∀ k, g (k + 1) = f k) (k : EX s p f) : EX s p g := by
  obtain ⟨e, q, ok, h1, h2⟩ := k
  exact ⟨e, q, ok, Ev.step h h1, h2⟩
theorem EX.congr {g f : Nat → Option (ByteArray × ByteArray × Bool)} (h : ∀ k, g k = f k) (k : EX s p f) : EX s p g := by
  obtain ⟨e, q, ok, h1, h2⟩ := k
  exact ⟨e, q, ok, Ev.congr h h1, h2⟩
theorem EX.shift {g : Nat → Option (ByteArray × ByteArray × Bool)} (k : EX s p (fun n => g (n + 1))) : EX s p g := EX.step (fun _ => rfl) k
theorem EX.ite {c : Prop} [Decidable c] {g f : Nat → Option (ByteArray × ByteArray × Bool)} (h : EX s p g) (k : EX s p f) : EX s p (fun n => if c then g n else f n) := by
  by_cases hc : c
  · exact h.congr (fun _ => if_pos hc)
  · exact k.congr (fun _ => if_neg hc)
theorem tolower_some (x : Int) : ∃ y, match_tolower.f x = some y := by
  unfold match_tolower.f
  repeat' split
  all_goals exact ⟨_, rfl⟩
variable (hs : s.size ≤ 140737488351232) (hp : p.size ≤ 140737488351232) (hp0 : gl p.data.toList 0 = 42)
include hp hp0
theorem inner {e q ps : Nat} {x9 : Bool} {pc : Int} (hq : q ≤ p.size) (h1 : 1 ≤ ps) (h2 : ps + 1 ≤ q) (H : ∀ ps' esc, 1 ≤ ps' → ps' + 1 ≤ q → EX s p (fun k => match_matchTrimSuffix.j3 k (s.extract 0 e) (p.extract 0 q) nc x9 pc ((ps' : Nat) : Int) esc)) :
    ∀ m i : Nat, q - ps - 1 - i = m → ps + 1 + i ≤ q → EX s p (fun k => match_matchTrimSuffix.l1 k (s.extract 0 e) (p.extract 0 q) nc x9 pc (ps : Int) false (i : Int)) := by
  intro m
  induction m with
  | zero =>
    intro i hm hi
    have hz := size0 p hq
    have ei : wrap64 ((wrap64 ((wrap64 (((p.extract 0 q).size : Int) - (ps : Int))) - (i : Int))) - 1) = ((q - ps - 1 - i : Nat) : Int) := by
      rw [hz, w64 (x := (q : Int) - (ps : Int)) (by omega), w64 (x := (q : Int) - (ps : Int) - (i : Int)) (by omega), w64 (by omega)]
      omega
    have hb : bt (p.extract 0 q) ((q - ps - 1 - i : Nat) : Int) = 42 := by
      rw [bt_gl, data0, hm, gl_take _ _ _ (by omega), hp0]
      rfl
    refine EX.step (f := fun k => if (Go.bits .and .i64 (i : Int) 1) = 1 then match_matchTrimSuffix.j3 k (s.extract 0 e) (p.extract 0 q) nc x9 pc (wrap64 ((ps : Int) + 1)) true else match_matchTrimSuffix.j3 k (s.extract 0 e) (p.extract 0 q) nc x9 pc (ps : Int) false) (fun k => ?_) ?_
    · simp only [match_matchTrimSuffix.l1]
      rw [ei, if_pos (by omega), if_pos (by rw [hz]; omega), hb, if_neg (by decide)]
    · by_cases hi0 : i = 0
      · subst hi0
        refine EX.congr (fun k => if_neg ?_) (H ps false h1 h2)
        rw [show Go.bits .and .i64 ((0 : Nat) : Int) 1 = 0 by decide]
        decide
      · refine EX.ite ?_ (H ps false h1 h2)
        rw [show wrap64 ((ps : Int) + 1) = ((ps + 1 : Nat) : Int) by rw [w64 (by omega)]; omega]
        exact H (ps + 1) true (by omega) (by omega)
  | succ m ih =>
    intro i hm hi
    have hz := size0 p hq
    have ei : wrap64 ((wrap64 ((wrap64 (((p.extract 0 q).size : Int) - (ps : Int))) - (i : Int))) - 1) = ((q - ps - 1 - i : Nat) : Int) := by
      rw [hz, w64 (x := (q : Int) - (ps : Int)) (by omega), w64 (x := (q : Int) - (ps : Int) - (i : Int)) (by omega), w64 (by omega)]
      omega
    refine EX.step (f := fun k => if bt (p.extract 0 q) ((q - ps - 1 - i : Nat) : Int) = 92 then match_matchTrimSuffix.l1 k (s.extract 0 e) (p.extract 0 q) nc x9 pc (ps : Int) false ((i + 1 : Nat) : Int) else if (Go.bits .and .i64 (i : Int) 1) = 1 then match_matchTrimSuffix.j3 k (s.extract 0 e) (p.extract 0 q) nc x9 pc (wrap64 ((ps : Int) + 1)) true else match_matchTrimSuffix.j3 k (s.extract 0 e) (p.extract 0 q) nc x9 pc (ps : Int) false) (fun k => ?_) ?_
    · simp only [match_matchTrimSuffix.l1]
      rw [ei, if_pos (by omega), if_pos (by rw [hz]; omega), w64 (x := (i : Int) + 1) (by omega)]
      rfl
    · refine EX.ite (ih (i + 1) (by omega) (by omega)) ?_
      by_cases hi0 : i = 0
      · subst hi0
        refine EX.congr (fun k => if_neg ?_) (H ps false h1 h2)
        rw [show Go.bits .and .i64 ((0 : Nat) : Int) 1 = 0 by decide]
        decide
      · refine EX.ite ?_ (H ps false h1 h2)
        rw [show wrap64 ((ps : Int) + 1) = ((ps + 1 : Nat) : Int) by rw [w64 (by omega)]; omega]
        exact H (ps + 1) true (by omega) (by omega)
include hs
theorem trim_l0 : ∀ (n e q : Nat) (x9 : Bool), e ≤ n → e ≤ s.size → 1 ≤ q → q ≤ p.size → (e = 0 ∨ fw s.data.toList ≤ e) → EX s p (fun k => match_matchTrimSuffix.l0 k (s.extract 0 e) (p.extract 0 q) nc x9) := by
  intro n
  induction n with
  | zero =>
    intro e q x9 h0 h1 h2 h3 h4
    have hz := size0 s h1
    refine EX.step (f := fun k => match_matchTrimSuffix.j1 k (s.extract 0 e) (p.extract 0 q) nc x9 false) (fun k => ?_) (EX.step (f := fun _ => some (s.extract 0 e, p.extract 0 q, x9)) (fun k => ?_) ⟨e, q, x9, Ev.now _, h1, h2, h3, h4⟩)
    · simp only [match_matchTrimSuffix.l0]
      rw [if_neg (by omega)]
    · simp only [match_matchTrimSuffix.j1]
      rw [if_neg (by decide)]
  | succ n ih =>
    intro e q x9 h0 h1 h2 h3 h4
    have hz := size0 s h1
    have hz2 := size0 p h3
    have stop : ∀ x9, EX s p (fun _ => some (s.extract 0 e, p.extract 0 q, x9)) := fun x9 => ⟨e, q, x9, Ev.now _, h1, h2, h3, h4⟩
    by_cases hgo : 0 < e ∧ 1 < q
    · refine EX.step (f := fun k => match_matchTrimSuffix.j1 k (s.extract 0 e) (p.extract 0 q) nc x9 true) (fun k => ?_) ?_
      · simp only [match_matchTrimSuffix.l0]
        rw [if_pos (by omega)]
        congr 1
        simp
        omega
      · have hl2 : (p.extract 0 q).data.toList.length = q := by rw [data_length, hz2]
        have hw := last_wid (l := (p.extract 0 q).data.toList) (by omega)
        have ha := last_ascii (l := (p.extract 0 q).data.toList) (by omega) (by rw [data0, gl_take _ _ _ (by omega), hp0]; decide)
        rw [hl2] at hw ha
        refine EX.step (f := fun k => match_matchTrimSuffix.l1 k (s.extract 0 e) (p.extract 0 q) nc x9 ((decodeLastL (p.extract 0 q).data.toList).1 : Int) ((decodeLastL (p.extract 0 q).data.toList).2 : Int) false ((0 : Nat) : Int)) (fun k => ?_) (inner hp hp0 h3 hw.1 (by omega) ?_ _ 0 rfl (by omega))
        · simp only [match_matchTrimSuffix.j1]
          rw [if_pos trivial]
          unfold utf8_DecodeLastRuneInString.f
          rw [if_pos (by omega)]
          rfl
        · intro ps' esc g1 g2
          have hl1 : (s.extract 0 e).data.toList.length = e := by rw [data_length, hz]
          have hw1 := last_wid (l := (s.extract 0 e).data.toList) (by omega)
          rw [hl1] at hw1
          have hkeep := last_keeps (L := s.data.toList) (e := e) (by rw [data_length]; exact h1) (by omega) (by omega)
          rw [← data0] at hkeep
          have L := ih (e - (decodeLastL (s.extract 0 e).data.toList).2) (q - ps') x9 (by omega) (by omega) (by omega) (by omega) hkeep
          have eL : ∀ k, (if 0 ≤ (wrap64 (((s.extract 0 e).size : Int) - ((decodeLastL (s.extract 0 e).data.toList).2 : Int))) then (if (wrap64 (((s.extract 0 e).size : Int) - ((decodeLastL (s.extract 0 e).data.toList).2 : Int))) ≤ ((s.extract 0 e).size : Int) then (if 0 ≤ (wrap64 (((p.extract 0 q).size : Int) - ((ps' : Nat) : Int))) then (if (wrap64 (((p.extract 0 q).size : Int) - ((ps' : Nat) : Int))) ≤ ((p.extract 0 q).size : Int) then (match_matchTrimSuffix.l0 k ((s.extract 0 e).extract 0 ((wrap64 (((s.extract 0 e).size : Int) - ((decodeLastL (s.extract 0 e).data.toList).2 : Int))) : Int).toNat) ((p.extract 0 q).extract 0 ((wrap64 (((p.extract 0 q).size : Int) - ((ps' : Nat) : Int))) : Int).toNat) nc x9) else (none)) else (none)) else (none)) else (none)) =
              match_matchTrimSuffix.l0 k (s.extract 0 (e - (decodeLastL (s.extract 0 e).data.toList).2)) (p.extract 0 (q - ps')) nc x9 := by
            intro k
            have f1 : wrap64 (((s.extract 0 e).size : Int) - ((decodeLastL (s.extract 0 e).data.toList).2 : Int)) = ((e - (decodeLastL (s.extract 0 e).data.toList).2 : Nat) : Int) := by
              rw [hz, w64 (by omega)]; omega
            have f2 : wrap64 (((p.extract 0 q).size : Int) - ((ps' : Nat) : Int)) = ((q - ps' : Nat) : Int) := by
              rw [hz2, w64 (by omega)]; omega
            rw [f1, f2, if_pos (by omega), if_pos (by omega), if_pos (by omega), if_pos (by omega), Int.toNat_natCast, Int.toNat_natCast, ext00 s (by omega), ext00 p (by omega)]
          have j4 : ∀ b, EX s p (fun k => match_matchTrimSuffix.j4 k (s.extract 0 e) (p.extract 0 q) nc x9 ((decodeLastL (p.extract 0 q).data.toList).1 : Int) ((ps' : Nat) : Int) esc b) := by
            intro b
            cases b with
            | true => exact EX.step (f := fun _ => some (s.extract 0 e, p.extract 0 q, true)) (fun k => by simp only [match_matchTrimSuffix.j4]; rw [if_pos trivial]) (stop true)
            | false =>
              obtain ⟨y1, hy1⟩ := tolower_some ((decodeLastL (p.extract 0 q).data.toList).1 : Int)
              obtain ⟨y2, hy2⟩ := tolower_some ((decodeLastL (s.extract 0 e).data.toList).1 : Int)
              have hD : utf8_DecodeLastRuneInString.f (s.extract 0 e) = some (((decodeLastL (s.extract 0 e).data.toList).1 : Int), ((decodeLastL (s.extract 0 e).data.toList).2 : Int)) := by
                unfold utf8_DecodeLastRuneInString.f
                rw [if_pos (by omega)]
              refine EX.shift ?_
              simp only [match_matchTrimSuffix.j4, Bool.false_eq_true, if_false, hD, Option.bind_some, hy1, hy2, eL]
              repeat' first
                | exact L
                | exact stop false
                | apply EX.ite
          refine EX.step (f := fun k => if ((decodeLastL (p.extract 0 q).data.toList).1 : Int) = 42 then match_matchTrimSuffix.j4 k (s.extract 0 e) (p.extract 0 q) nc x9 ((decodeLastL (p.extract 0 q).data.toList).1 : Int) ((ps' : Nat) : Int) esc (!esc) else match_matchTrimSuffix.j4 k (s.extract 0 e) (p.extract 0 q) nc x9 ((decodeLastL (p.extract 0 q).data.toList).1 : Int) ((ps' : Nat) : Int) esc false) (fun k => by simp only [match_matchTrimSuffix.j3]) (EX.ite (j4 _) (j4 _))
    · refine EX.step (f := fun k => match_matchTrimSuffix.j1 k (s.extract 0 e) (p.extract 0 q) nc x9 false) (fun k => ?_) (EX.step (f := fun _ => some (s.extract 0 e, p.extract 0 q, x9)) (fun k => ?_) (stop x9))
      · simp only [match_matchTrimSuffix.l0]
        by_cases h5 : 0 < e
        · rw [if_pos (by omega)]
          congr 1
          simp
          omega
        · rw [if_neg (by omega)]
      · simp only [match_matchTrimSuffix.j1]
        rw [if_neg (by decide)]
/-- The function as a whole. -/
theorem trim_eq (h1 : 1 ≤ p.size) : EX s p (fun k => match_matchTrimSuffix.f k s p nc) := by
  have h := trim_l0 (nc := nc) hs hp hp0 s.size s.size p.size true (Nat.le_refl _) (Nat.le_refl _) h1 (Nat.le_refl _) (by
    by_cases h0 : s.size = 0
    · exact .inl h0
    · exact .inr (by have := (wid (n := s.data.toList.length) (b0 := gl s.data.toList 0) (b1 := gl s.data.toList 1) (b2 := gl s.data.toList 2) (b3 := gl s.data.toList 3) (by rw [data_length]; omega)).2.2; rw [data_length] at this; unfold fw; rw [data_length]; exact this))
  have e1 : s.extract 0 s.size = s := by
    apply J.bytesOf_inj
    rw [J.bytesOf_extract, List.take_of_length_le (by rw [bytesOf_length]; omega)]
    rfl
  have e2 : p.extract 0 p.size = p := by
    apply J.bytesOf_inj
    rw [J.bytesOf_extract, List.take_of_length_le (by rw [bytesOf_length]; omega)]
    rfl
  rw [e1, e2] at h
  exact h
end
end Go.Proofs.YtegbajfmhkmolaaDoor.D
